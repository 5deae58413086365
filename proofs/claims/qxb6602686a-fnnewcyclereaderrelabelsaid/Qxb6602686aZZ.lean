import Derived.Test.Qxb6602686aZZa
import Derived.Test.Qxb6602686aReader
import Derived.StillTailTactics
namespace Go.Proofs.Qxb6602686a
open Go.RowKit

/-- a slice's address, its capacity -/
def vAddr : Value → Option Addr | .slice a _ _ => a | _ => none
def vCap : Value → Nat | .slice _ _ c => c | _ => 0

theorem Chg.setRow {a b : World} {S : Nat → Prop} (h : Chg a b S) {g : Nat} (hg : g < a.heap.size → S g) (c : Array Value) : Chg a (b.setRow g c) S :=
  ⟨h.os, h.tape, h.output, by simpa using h.size, fun k hk hs => by
    rw [setRow_other _ _ _ _ (fun e => hs (by subst e; exact hg hk))]
    exact h.block k hk hs⟩
theorem i34 : (Try.prog.info? 34).map (·.size) = some 12 := by kernel_rfl

/-- the reader, laid out: what lies where in the end -/
theorem zz_end {w wr w5 w6 : World} {n : Nat} {ids : List Int} {N : Nat → List Nat} {Z : Array Value} {look : Int → Option Value} {TL : Int → List Int} {gs g1 g2 gi cap : Nat} {fld nv : Nat → Value} {v0 : Value} (c : Array Value)
    (hn : n ≤ 1048576) (hil : ids.length = n) (hN : ∀ j, (N j).length ≤ 1048576) (h5 : w.heap.size + 1 < w5.heap.size) (G : GrM w w6 Z look TL) (S : St5 w5 w6 n gs g1 g2 fld (.slice (some ⟨gi, 0, none⟩) n cap) ids nv N (fun j => .int .i64 (afterOf N n j : Nat)))
    (R : GL w6 wr 24 v0 (ids.map ku)) :
    Below w.heap.size w (wr.drew.setRow w.heap.size c) ∧ SV (wr.drew.setRow w.heap.size c) v0 n (fun j => ku (ids.getD j 0)) ∧
      (∃ A C, SS (wr.drew.setRow w.heap.size c) (.slice (some ⟨g1, 0, none⟩) n n) n A (fun i => (N i).length) C (fun i j => ki ((N i).getD j 0))) ∧
      SV (wr.drew.setRow w.heap.size c) (.slice (some ⟨g2, 0, none⟩) n n) n (fun j => .int .i64 (afterOf N n j : Nat)) := by
  have s56 := S.chg.size
  have hC : Chg w6 (wr.drew.setRow w.heap.size c) (fun k => k = w.heap.size) := Chg.setRow (S := fun k => k = w.heap.size) (R.chg.mono (fun _ _ h => h.elim)).drew (fun _ => rfl) c
  have hl0 : Lst (wr.drew.setRow w.heap.size c) 24 v0 (ids.map ku) := by
    have h1 : Chg wr (wr.drew.setRow w.heap.size c) (fun k => k = w.heap.size) := Chg.setRow (S := fun k => k = w.heap.size) (Chg.refl _ _).drew (fun _ => rfl) c
    exact R.lst.chg h1 (fun g hg e => by have := R.own g hg; omega)
  have hlen : (ids.map ku).length = n := by simp [hil]
  have r1 : (wr.drew.setRow w.heap.size c).rowIs g1 30 n nv := S.r1.of_block (hC.block _ S.r1.lt (by have := S.new.2.1; omega))
  have r2 : (wr.drew.setRow w.heap.size c).rowIs g2 3 n (fun j => .int .i64 (afterOf N n j : Nat)) := S.r2.of_block (hC.block _ S.r2.lt (by have := S.new.2.2; omega))
  refine ⟨?_, ?_, ?_, SV.of_row r2 (Nat.le_refl _) (by omega) _⟩
  · exact (G.chg.trans' hC (fun i hi e => by omega)).below (fun _ _ h => h)
  · have := hl0.sv (by rw [hlen]; omega) (fun j => ku (ids.getD j 0)) (by
      intro j y hy
      simp only [List.getElem?_map, Option.map_eq_some_iff] at hy
      obtain ⟨q, hq, rfl⟩ := hy
      simp [List.getD, hq])
    rw [hlen] at this
    exact this
  · have each : ∀ i, i < n → ∃ a cc, nv i = .slice a (N i).length cc := fun i hi => by
      obtain ⟨a, cc, e⟩ := (S.nx i hi).shape
      exact ⟨a, cc, by simpa using e⟩
    refine ⟨fun i => vAddr (nv i), fun i => vCap (nv i), ?_, fun i hi => ?_⟩
    · exact (SV.of_row r1 (Nat.le_refl _) (by omega) _).congr (fun i hi => by
        obtain ⟨a, cc, e⟩ := each i hi
        simp only [e, vAddr, vCap])
    · obtain ⟨a, cc, e⟩ := each i hi
      have hl : Lst (wr.drew.setRow w.heap.size c) 3 (nv i) ((N i).map ki) := (S.nx i hi).chg hC (fun g hg e => by have := (S.nown i hi g hg).1; omega)
      have hlen2 : ((N i).map ki).length = (N i).length := by simp
      have := hl.sv (by rw [hlen2]; have := hN i; omega) (fun j => ki ((N i).getD j 0)) (by
        intro j y hy
        simp only [List.getElem?_map, Option.map_eq_some_iff] at hy
        obtain ⟨q, hq, rfl⟩ := hy
        simp [List.getD, hq])
      rw [hlen2] at this
      simp only [e, vAddr, vCap] at this ⊢
      exact this

/-- what ZZNewCycleReader hands back -/
def ZZPost (w w' : World) (n : Nat) (ids : List Int) (N : Nat → List Nat) (e : Ending) : Prop :=
  ∃ (b0 a4 a5 a8 a9 a10 : Option Addr) (k0 g1 g2 : Nat) (A : Nat → Option Addr) (C : Nat → Nat),
    e = .returned (.agg #[.slice b0 n k0, .slice (some ⟨g1, 0, none⟩) n n, .slice (some ⟨g2, 0, none⟩) n n, .int .i64 1048576, .slice a4 n n, .slice a5 n n, .slice none 0 0, .bool false, .slice a8 n n, .slice a9 n n, .slice a10 n n, .slice none 0 0]) ∧
    Below w.heap.size w w' ∧ SV w' (.slice b0 n k0) n (fun j => ku (ids.getD j 0)) ∧ SS w' (.slice (some ⟨g1, 0, none⟩) n n) n A (fun i => (N i).length) C (fun i j => ki ((N i).getD j 0)) ∧
    SV w' (.slice (some ⟨g2, 0, none⟩) n n) n (fun j => .int .i64 (afterOf N n j : Nat))

set_option linter.unusedSimpArgs false in
set_option maxHeartbeats 4000000 in
set_option maxRecDepth 100000 in
theorem zz_any
    (v0 v1 v3 : Value) (n0 n : Nat) (x : Int) (u0 u : Nat → Int) (A : Nat → Option Addr) (L C : Nat → Nat) (tt : Nat → Nat → Int) (w : World)
    (h0 : SV w v0 n0 fun j => .int .u64 (u0 j)) (h1 : SS w v1 n0 A L C fun i j => .int .u64 (tt i j)) (h3 : SV w v3 n fun j => .int .u64 (u j))
    (hn0 : n0 ≤ 1048576) (hn1 : 1 ≤ n) (hn : n ≤ 1048576) (hL : ∀ i, i < n0 → L i ≤ 1048576) (ids : List Int) (hids : idsOf x (usL u n) = ids) (hil : ids.length = n) :
    Calls Try.prog 12 #[v0, v1, .int .u64 x, v3] w fun e w' => ZZPost w w' n ids (NNo ids (TLk u0 tt L n0) n) e := by
  obtain ⟨a0, c0, rfl, _, ha0, hc0⟩ := h0
  obtain ⟨⟨a1, c1, rfl, _, ha1, hc1⟩, hF⟩ := h1
  obtain ⟨a3, c3, rfl, _, ha3, hc3⟩ := h3
  have H0 := hide (And.intro ha0 hc0)
  have H1 := hide (And.intro ha1 hc1)
  have H3 := hide (And.intro ha3 hc3)
  have HFF := hide hF
  have HL := hide hL
  have HI := hide (And.intro hids hil)
  clear ha0 hc0 ha1 hc1 ha3 hc3 hF hL hids hil
  have hmm := mkmap 46 48 47 Try.underlying46
  go_enter Try.func12, Try.ntmps12
  go_wp2_with fail
  go_loopw [10] (fun i wr => ∃ (k : Nat) (Z : Array Value) (look : Int → Option Value), k ≤ n0 ∧ i = .int .i64 k ∧ Z.size = 12 ∧ Hid (GrM w wr Z look (TLk u0 tt L k))) (fun i _ => n0 - (intOf i).toNat)
  case atStart =>
    refine ⟨0, #[.slice none 0 0, .slice none 0 0, .slice none 0 0, .int .i64 0, .slice none 0 0, .slice none 0 0, .slice none 0 0, .bool false, .slice none 0 0, .slice none 0 0, .slice none 0 0, .slice none 0 0], fun _ => none, by omega, rfl, rfl, hide ⟨((Chg.refl _ _).alloc _).alloc _, ?_, ?_, fun y => Lst.nil _ _, fun y g h => by simp [Value.ownBlock] at h⟩⟩
    · exact heap_alloc2_old w _ _
    · have := MapIs.made ku (w.alloc (.cells #[.slice none 0 0, .slice none 0 0, .slice none 0 0, .int .i64 0, .slice none 0 0, .slice none 0 0, .slice none 0 0, .bool false, .slice none 0 0, .slice none 0 0, .slice none 0 0, .slice none 0 0] 34))
      rw [World.size_alloc] at this
      exact this
  case round =>
    obtain ⟨k, Z, look, hk, rfl, hZ, G⟩ := hrel
    obtain ⟨wk, hwk⟩ : ∃ wk, wk = wr := ⟨wr, rfl⟩
    subst hwk
    by_cases hkn : k < n0
    · have hix0 := fun w' i h0 hi => idx_any (P := Try.prog) Try.underlying22 sz24 (n := n0) (a := a0) c0 H0.out.1 w' i h0 hi
      have hix1 := fun w' i h0 hi => idx_any (P := Try.prog) Try.underlying23 sz22 (n := n0) (a := a1) c1 H1.out.1 w' i h0 hi
      have hbel := G.out.chg.below (fun _ _ h => h)
      have hck1 : wk.cell? (adr a1 k) = some (.slice (A k) (L k) (C k)) := by
        rw [hbel.cell (adr_lt (H1.out.2 k hkn))]; exact H1.out.2 k hkn
      obtain ⟨aF, cF, eF, _, haF, hcF⟩ := HFF.out k hkn
      obtain ⟨rfl, rfl⟩ : A k = aF ∧ C k = cF := by cases eF; exact ⟨rfl, rfl⟩
      have HFk := hide (And.intro haF hcF)
      clear haF hcF eF
      have hLk := HL.out k hkn
      have hbw : Hid (Below w.heap.size w wk) := hbel
      clear hbel
      go_wp2_with fail
      go_loopw [11, 40] (fun s i wr' => ∃ (j : Nat) (aj : Option Addr) (cj : Nat), j ≤ L k ∧ i = .int .i64 j ∧ s = .slice aj j cj ∧ Hid (GL wk wr' 48 (.slice aj j cj) (((tsL tt L k).take j).map ku))) (fun _ i _ => L k - (intOf i).toNat)
      case atStart => exact ⟨0, none, 0, by omega, rfl, rfl, GL.start wk 48⟩
      case round =>
        obtain ⟨j, aj, cj, hj, rfl, rfl, S⟩ := hrel
        by_cases hjn : j < L k
        · have hixF := fun w' i h0 hi => idx_any (P := Try.prog) Try.underlying22 sz24 (n := L k) (a := A k) (C k) HFk.out.1 w' i h0 hi
          have hce : wr.cell? (adr (A k) j) = some (.int .u64 (tt k j)) := by
            have h1 := HFk.out.2 j hjn
            have h2 : wk.cell? (adr (A k) j) = some (.int .u64 (tt k j)) := by rw [hbw.out.cell (adr_lt h1)]; exact h1
            rw [(S.out.chg.below (fun _ _ h => h)).cell (adr_lt h2)]; exact h2
          have hlen : (((tsL tt L k).take j).map ku).length = j := by simp [tsL_len]; omega
          obtain ⟨g, cap, w7, hrun, hG7⟩ := S.out.append (T := 47) (z := .int .u64 0) (bytes := 8) Try.underlying47 info48 rfl (by omega) (.int .u64 (tt k j)) rfl (by rw [hlen]; omega)
          rw [hlen] at hrun hG7
          have G7 : Hid (GL wk w7 48 (.slice (some ⟨g, 0, none⟩) (j + 1) cap) (((tsL tt L k).take (j + 1)).map ku)) := by
            rw [take_snoc _ _ (by rw [tsL_len]; exact hjn), List.map_append]
            have : (tsL tt L k).getD j 0 = tt k j := by simp [tsL, List.getD, hjn]
            rw [this]
            exact hG7
          clear hlen hG7
          go_wp2_with (at_builtin; refine wpList_append_eq rfl _ _ 47 rfl _ _ _ _ rfl rfl hrun ?_)
          go_roundw
          case rel => exact ⟨j + 1, _, _, by omega, by go_num, rfl, G7⟩
          case measure => simp [intOf]; omega
        · have hjn' : L k = j := by omega
          have hck0 : wr.cell? (adr a0 k) = some (.int .u64 (u0 k)) := by
            have h1 := H0.out.2 k hkn
            have h2 : wk.cell? (adr a0 k) = some (.int .u64 (u0 k)) := by rw [hbw.out.cell (adr_lt h1)]; exact h1
            rw [(S.out.chg.below (fun _ _ h => h)).cell (adr_lt h2)]; exact h2
          have hfull : (tsL tt L k).take j = tsL tt L k := List.take_of_length_le (by rw [tsL_len]; omega)
          have hs2 := S.out
          rw [hfull] at hs2
          obtain ⟨w8, hput, hG8⟩ := (G.out.chg' hs2.chg).put (u0 k) (.slice aj j cj) (tsL tt L k) hs2.lst (fun g hg => by
            have h1 := hs2.own g hg
            have h2 := G.out.map.lt
            omega)
          have G8 : Hid (GrM w w8 Z (fun b => if b = u0 k then some (.slice aj j cj) else look b) (TLk u0 tt L (k + 1))) := hG8
          clear hfull hs2 hG8 hjn'
          go_wp2_with fail
          go_roundw
          case rel => exact ⟨k + 1, Z, _, by omega, by go_num, hZ, G8⟩
          case measure => simp [intOf]; omega
    · have hkn' : n0 = k := by omega
      subst hkn'
      clear hkn hk
      go_wp2_with fail
      go_loopw [14, 57] (fun s i wr' => ∃ (j : Nat) (aj : Option Addr) (cj : Nat), j ≤ n ∧ i = .int .i64 j ∧ s = .slice aj j cj ∧ Hid (GL wk wr' 48 (.slice aj j cj) ((usL u j).map ku))) (fun _ i _ => n - (intOf i).toNat)
      case atStart => exact ⟨0, none, 0, by omega, rfl, rfl, GL.start wk 48⟩
      case round =>
        obtain ⟨j, aj, cj, hj, rfl, rfl, S⟩ := hrel
        by_cases hjn : j < n
        · have hixF := fun w' i h0 hi => idx_any (P := Try.prog) Try.underlying22 sz24 (n := n) (a := a3) c3 H3.out.1 w' i h0 hi
          have hce : wr.cell? (adr a3 j) = some (.int .u64 (u j)) := by
            have h1 := H3.out.2 j hjn
            have h2 : wk.cell? (adr a3 j) = some (.int .u64 (u j)) := by rw [(G.out.chg.below (fun _ _ h => h)).cell (adr_lt h1)]; exact h1
            rw [(S.out.chg.below (fun _ _ h => h)).cell (adr_lt h2)]; exact h2
          have hlen : ((usL u j).map ku).length = j := by simp [usL]
          obtain ⟨g, cap, w7, hrun, hG7⟩ := S.out.append (T := 47) (z := .int .u64 0) (bytes := 8) Try.underlying47 info48 rfl (by omega) (.int .u64 (u j)) rfl (by rw [hlen]; omega)
          rw [hlen] at hrun hG7
          have G7 : Hid (GL wk w7 48 (.slice (some ⟨g, 0, none⟩) (j + 1) cap) ((usL u (j + 1)).map ku)) := by
            rw [usL_succ, List.map_append]
            exact hG7
          clear hlen hG7
          go_wp2_with (at_builtin; refine wpList_append_eq rfl _ _ 47 rfl _ _ _ _ rfl rfl hrun ?_)
          go_roundw
          case rel => exact ⟨j + 1, _, _, by omega, by go_num, rfl, G7⟩
          case measure => simp [intOf]; omega
        · have hjn' : n = j := by omega
          subst hjn'
          clear hjn hj
          go_wp2_with fail
          have hG2 : Hid (GrM w (wr.alloc (.cells #[.map none, .map (some (w.heap.size + 1)), .int .i64 0] 52)) Z look (TLk u0 tt L n0)) := (G.out.chg' S.out.chg).chg' ((Chg.refl _ _).alloc _)
          have hms : SV (wr.alloc (.cells #[.map none, .map (some (w.heap.size + 1)), .int .i64 0] 52)) (.slice aj n cj) n (fun j => ku (u j)) := by
            have h1 : Lst (wr.alloc (.cells #[.map none, .map (some (w.heap.size + 1)), .int .i64 0] 52)) 48 (.slice aj n cj) ((usL u n).map ku) := S.out.lst.chg ((Chg.refl wr (fun _ => False)).alloc _) (fun _ _ h => h)
            have h2 := h1.sv (by simp [usL]; omega) (fun j => ku (u j)) (by
              intro j y hy
              simp only [usL, List.map_map, List.getElem?_map, Option.map_eq_some_iff] at hy
              obtain ⟨p, hp, rfl⟩ := hy
              obtain ⟨_, e⟩ := List.getElem?_eq_some_iff.1 hp
              rw [List.getElem_range] at e
              rw [← e]
              rfl)
            have h3 : ((usL u n).map ku).length = n := by simp [usL]
            rw [h3] at h2
            exact h2
          refine (reader_any wr.heap.size (w.heap.size + 1) n x (.slice aj n cj) u _ look (TLk u0 tt L n0) ?_ hG2.out.map ?_ hms hn1 hn ids HI.out.1 HI.out.2).mono ?_
          · simp [go_sem]
          · intro y
            obtain ⟨a, c, e⟩ := (hG2.out.lst y).shape
            have hl : ((TLk u0 tt L n0 y).map ku).length = (TLk u0 tt L n0 y).length := by simp
            have hb := TLk_len u0 tt L 1048576 n0 HL.out y
            have hsv := (hG2.out.lst y).sv (by rw [hl]; omega) (fun j => ku ((TLk u0 tt L n0 y).getD j 0)) (by
              intro j z hz
              simp only [List.getElem?_map, Option.map_eq_some_iff] at hz
              obtain ⟨q, hq, rfl⟩ := hz
              simp [List.getD, hq])
            rw [hl] at e hsv
            exact ⟨a, c, e, hsv, hb⟩
          rintro e w6 ⟨gs, g1, g2, gi, cap, fld, nv, rfl, hf1, hf2, hone, hS5⟩
          have S6 := hide hS5
          have HF := hide (And.intro hf1 hf2)
          have HOne := hide hone
          have hNl : Hid (∀ j, (NNo ids (TLk u0 tt L n0) n j).length ≤ 1048576) := fun j => NNo_len ids _ n j (TLk_len u0 tt L 1048576 n0 HL.out)
          clear hS5 hf1 hf2 hone hms
          have cs0 : w6.cell? ⟨gs, 0, none⟩ = some (.slice (some ⟨gi, 0, none⟩) n cap) := by simpa using S6.out.row.cell (i := 0) (by omega)
          have G6 : Hid (GrM w w6 Z look (TLk u0 tt L n0)) := hG2.out.chg' S6.out.chg
          have H5 := hide hG2.out.map.lt
          clear hG2
          go_wp2_with fail
          go_loopw [19, 78] (fun s i wr' => ∃ (j : Nat) (aj : Option Addr) (cj : Nat), j ≤ n ∧ i = .int .i64 j ∧ s = .slice aj j cj ∧ Hid (GL w6 wr' 24 (.slice aj j cj) ((ids.take j).map ku))) (fun _ i _ => n - (intOf i).toNat)
          case atStart => exact ⟨0, none, 0, by omega, rfl, rfl, GL.start w6 24⟩
          case round =>
            obtain ⟨j, aj', cj', hj, rfl, rfl, S9⟩ := hrel
            clear cs0
            by_cases hjn : j < n
            · have hjl : j < ids.length := by rw [HI.out.2]; exact hjn
              have hce : wr.cell? ⟨gi, j, none⟩ = some (.int .u64 (ids.getD j 0)) := by
                have h1 : w6.cell? ⟨gi, j, none⟩ = some (.int .u64 (ids.getD j 0)) := S6.out.lst.cell (by simp [List.getElem?_map, List.getElem?_eq_getElem hjl, ku, List.getD])
                rw [(S9.out.chg.below (fun _ _ h => h)).cell (block_lt_of_cell h1)]; exact h1
              have hlen : ((ids.take j).map ku).length = j := by simp; omega
              obtain ⟨g, cap9, w7, hrun, hG7⟩ := S9.out.append (T := 22) (z := .int .u64 0) (bytes := 8) Try.underlying22 info24 rfl (by omega) (.int .u64 (ids.getD j 0)) rfl (by rw [hlen]; omega)
              rw [hlen] at hrun hG7
              have G7 : Hid (GL w6 w7 24 (.slice (some ⟨g, 0, none⟩) (j + 1) cap9) ((ids.take (j + 1)).map ku)) := by
                rw [take_snoc _ _ hjl, List.map_append]
                exact hG7
              clear hlen hG7 hjl
              generalize ids.getD j 0 = idj at *
              go_wp2_with (at_builtin; refine wpList_append_eq rfl _ _ 22 rfl _ _ _ _ rfl rfl hrun ?_)
              go_roundw
              case rel => exact ⟨j + 1, _, _, by omega, by go_num, rfl, G7⟩
              case measure => simp [intOf]; omega
            · have hjn' : n = j := by omega
              subst hjn'
              clear hjn hj
              have hfull : ids.take n = ids := List.take_of_length_le (by rw [HI.out.2]; exact Nat.le_refl _)
              rw [hfull] at S9
              clear hfull
              have row9 : wr.rowIs gs 56 12 (fun i => if i = 0 then .slice (some ⟨gi, 0, none⟩) n cap else fld i) := S6.out.row.of_block (S9.out.chg.block _ S6.out.row.lt (fun h => h))
              have cs : ∀ i, 1 ≤ i → i < 12 → wr.cell? ⟨gs, i, none⟩ = some (fld i) := fun i h1 hi => by
                have := row9.cell hi
                rw [if_neg (by omega)] at this
                exact this
              have c1 := cs 1 (by omega) (by omega)
              have c2 := cs 2 (by omega) (by omega)
              rw [HF.out.1] at c1
              rw [HF.out.2] at c2
              have d3 := cs 3 (by omega) (by omega)
              have d4 := cs 4 (by omega) (by omega)
              have d5 := cs 5 (by omega) (by omega)
              have d6 := cs 6 (by omega) (by omega)
              have d7 := cs 7 (by omega) (by omega)
              have d8 := cs 8 (by omega) (by omega)
              have d9 := cs 9 (by omega) (by omega)
              have d10 := cs 10 (by omega) (by omega)
              have d11 := cs 11 (by omega) (by omega)
              have HG9 : Hid (GrM w wr Z look (TLk u0 tt L n0)) := G6.out.chg' S9.out.chg
              clear cs row9 HFF
              obtain ⟨a4, a5, a8, a9, a10, e3, e4, e5, e6, e7, e8, e9, e10, e11⟩ := HOne.out
              rw [e3] at d3
              rw [e4] at d4
              rw [e5] at d5
              rw [e6] at d6
              rw [e7] at d7
              rw [e8] at d8
              rw [e9] at d9
              rw [e10] at d10
              rw [e11] at d11
              clear e3 e4 e5 e6 e7 e8 e9 e10 e11
              go_wp2_with fail
              refine wp_region_still_tail 46 (by kernel_rfl) (by kernel_rfl) ?_
              simp only [World.drew_eq, List.take_succ_cons, List.take_zero, List.drop_succ_cons, List.drop_zero]
              repeat still_step
              refine wpStill_nil ?_
              refine wpList_store_row rfl 34 _ _ rfl w.heap.size _ rfl rfl 34 Z HG9.out.res i34 hZ (by simp [Value.oneCell']) ?_
              go_wp2_with fail
              have hZe := zz_end #[.slice aj' n cj', .slice (some ⟨g1, 0, none⟩) n n, .slice (some ⟨g2, 0, none⟩) n n, .int .i64 1048576, .slice a4 n n, .slice a5 n n, .slice none 0 0, .bool false, .slice a8 n n, .slice a9 n n, .slice a10 n n, .slice none 0 0] hn HI.out.2 hNl.out H5.out G6.out S6.out S9.out
              obtain ⟨z1, z2, ⟨zA, zC, z3⟩, z4⟩ := hZe
              refine bodyPost_ret (results_cell_row (p := 8) (ty := 34) (by kernel_rfl) _ _ w.heap.size 34 _ (0, 0) _ rfl (setRow_heap _ _ _ _ _ _ HG9.out.res) Try.underlying34 rfl i34) rfl ?_
              exact ⟨aj', a4, a5, a8, a9, a10, cj', g1, g2, zA, zC, rfl, z1, z2, z3, z4⟩
end Go.Proofs.Qxb6602686a
