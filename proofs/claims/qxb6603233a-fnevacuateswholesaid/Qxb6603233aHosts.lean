import Derived.Test.Qxb6603233aHm
import Derived.BigRegion
namespace Go.Proofs.Qxb6603233a
open Go.RowKit Go.MapKept

theorem made6 (w : World) (n : Nat) (hn : n ≤ 1048576) : (Instr.makeSlice 52 (.int .i64 (n : Int)) (.int .i64 (n : Int))).run Try.prog w = .ok (.slice (some ⟨w.heap.size, 0, none⟩) n n) (w.alloc (.cells (madeCells (inst ⟨#[]⟩).toArray (n * 6)) 54)) := by
  have hi : (Try.prog.info? 54).map (fun i => (i.zero, i.size, i.bytes)) = some (some (.agg (inst ⟨#[]⟩).toArray), 6, 72) := by kernel_rfl
  obtain ⟨i, hi, hzz⟩ := Option.map_eq_some_iff.1 hi
  simp only [Prod.mk.injEq] at hzz
  obtain ⟨hz, hs, hb⟩ := hzz
  have := run_make (P := Try.prog) w 52 54 i _ Try.underlying52 hi hz .i64 .i64 (n : Int) (n : Int) (by omega) (by omega) (by rw [hb]; omega) (by omega)
  rw [hs] at this
  simpa [Value.cells] using this
theorem made6_at (w : World) (n k : Nat) (hk : k < n) (s : ByteArray) (hs : s = ⟨#[]⟩) : (w.alloc (.cells (madeCells (inst ⟨#[]⟩).toArray (n * 6)) 54)).rangeAt w.heap.size (6 * k) (inst s) := by
  subst hs
  intro j v hv
  have hj : j < 6 := by
    have := (List.getElem?_eq_some_iff.1 hv).1
    simpa [inst] using this
  have hmod : (6 * k + j) % 6 = j := by omega
  have hlt : 6 * k + j < n * 6 := by omega
  simp only [World.cell?, heap_alloc_new]
  show (madeCells (inst ⟨#[]⟩).toArray (n * 6))[6 * k + j]? = some v
  unfold madeCells
  have hsz : (inst ⟨#[]⟩).toArray.size = 6 := rfl
  rw [Array.getElem?_map, Array.getElem?_range, if_pos hlt]
  simp only [Option.map_some, hsz, hmod]
  congr 1
  have : (inst ⟨#[]⟩).toArray[j]? = some v := by simpa using hv
  rw [Array.getElem!_eq_getD, Array.getD_eq_getD_getElem?, this]
  rfl
theorem setCells_block (b : Nat) : ∀ (vs : List Value) (o : Nat) (w : World) (k : Nat), k ≠ b → (w.setCells b o vs).heap[k]? = w.heap[k]?
  | [], _, _, _, _ => rfl
  | v :: r, o, w, k, hk => by
    rw [World.setCells, setCells_block b r (o + 1) _ k hk]
    exact heap_setCell_other _ _ _ _ hk
theorem setCells_size (b : Nat) : ∀ (vs : List Value) (o : Nat) (w : World), (w.setCells b o vs).heap.size = w.heap.size
  | [], _, _ => rfl
  | v :: r, o, w => by
    rw [World.setCells, setCells_size b r (o + 1) _]
    simp
theorem setCells_rest (b : Nat) : ∀ (vs : List Value) (o : Nat) (w : World), (w.setCells b o vs).os = w.os ∧ (w.setCells b o vs).tape = w.tape ∧ (w.setCells b o vs).output = w.output
  | [], _, _ => ⟨rfl, rfl, rfl⟩
  | v :: r, o, w => by
    rw [World.setCells]
    exact setCells_rest b r (o + 1) _
theorem below_setCells {B b : Nat} {w0 w : World} (h : Below B w0 w) (hb : B ≤ b) (o : Nat) (vs : List Value) : Below B w0 (w.setCells b o vs) := by
  obtain ⟨h1, h2, h3⟩ := setCells_rest b vs o w
  exact h.trans ⟨h1, h2, h3, by rw [setCells_size]; exact Nat.le_refl _, fun k hk => setCells_block b vs o w k (by omega)⟩
/-- a row of Instances, k of them filled -/
structure Fill (wr : World) (b n : Nat) (u : Nat → ByteArray) (k : Nat) : Prop where
  at_ : ∀ j, j < n → wr.rangeAt b (6 * j) (inst (if j < k then u j else ⟨#[]⟩))
  there : ∀ j, j < n → wr.there b (6 * j) 6
  lt : b < wr.heap.size
theorem Fill.start (w : World) (n : Nat) (u : Nat → ByteArray) : Fill (w.alloc (.cells (madeCells (inst ⟨#[]⟩).toArray (n * 6)) 54)) w.heap.size n u 0 := by
  refine ⟨fun j hj => made6_at w n j hj _ (by rw [if_neg (by omega)]), fun j hj i hi => ?_, by simp⟩
  have h1 := (made6_at w n j hj ⟨#[]⟩ rfl).isSome i (by simpa [inst] using hi)
  exact ⟨h1, World.frozen?_alloc_new _ _ _ _⟩
theorem Fill.put {wr : World} {b n : Nat} {u : Nat → ByteArray} {k : Nat} (h : Fill wr b n u k) (hk : k < n) : Fill (wr.setCells b (6 * k) (inst (u k))) b n u (k + 1) := by
  refine ⟨fun j hj => ?_, fun j hj => World.there_setCells (h.there j hj) _ _ _, by rw [setCells_size]; exact h.lt⟩
  by_cases e : j = k
  · subst e
    rw [if_pos (by omega)]
    exact World.rangeAt_setCells_same _ _ _ _ (h.there j hj)
  · have h1 := h.at_ j hj
    have h2 : (if j < k + 1 then u j else ⟨#[]⟩ : ByteArray) = if j < k then u j else ⟨#[]⟩ := by
      by_cases e2 : j < k
      · rw [if_pos e2, if_pos (by omega)]
      · rw [if_neg e2, if_neg (by omega)]
    rw [h2]
    exact World.rangeAt_setCells_apart h1 _ _ _ (by
      right
      have : ∀ s, (inst s).length = 6 := fun _ => rfl
      rw [this, this]
      omega)
theorem Fill.done {wr : World} {b n : Nat} {u : Nat → ByteArray} (h : Fill wr b n u n) : Insts wr b n u := fun k hk => by
  have := h.at_ k hk
  rw [if_pos hk] at this
  exact this
theorem store54 {wr : World} {b n : Nat} {u : Nat → ByteArray} {k : Nat} (h : Fill wr b n u k) (hk : k < n) :
    (Instr.storeAt 54 (.pointer (some ⟨b, 6 * k, none⟩)) (.agg #[.string (u k), .string ⟨#[]⟩, .string ⟨#[]⟩, .int .i64 0, .int .i64 0, .int .i64 0])).run Try.prog wr = .ok () (wr.setCells b (6 * k) (inst (u k))) :=
  run_storeAt_mid wr b (6 * k) 54 (inst (u k)).toArray (h.there k hk) (by kernel_rfl) (by simp [inst, Value.oneCell'])

def HostsPost (w w' : World) (n : Nat) (f : Nat → ByteArray) (nl : Nat → Bool) (L : Nat → Nat) (F : Nat → Nat → ByteArray) (e : Ending) : Prop :=
  ∃ o, e = .returned (.map o) ∧ Below w.heap.size w w' ∧ ((o = none ∧ n = 0) ∨ ∃ g look, o = some g ∧ HM w w' g f nl L F n look)

set_option maxHeartbeats 4000000 in
set_option maxRecDepth 100000 in
theorem hosts_some (x : Addr) (c2 : Nat) (v3 v4 : Value) (n : Nat) (f : Nat → ByteArray) (nl : Nat → Bool) (A : Nat → Option Addr) (L C : Nat → Nat) (F : Nat → Nat → ByteArray) (w : World) (hn : n ≤ 4096) (hL : ∀ i, i < n → L i ≤ 1048576)
    (h2 : SV w (.slice (some x) n c2) n fun j => .string (f j)) (h3 : SV w v3 n fun j => .bool (nl j)) (h4 : SS w v4 n A L C (fun i j => .string (F i j))) :
    Calls Try.prog 14 #[.slice (some x) n c2, v3, v4] w fun e w' => HostsPost w w' n f nl L F e := by
  have hq := eql_nil 22 9 Try.underlying22
  have HL := hide hL
  have H2 := hide h2
  have H3 := hide h3
  have H4 := hide h4
  obtain ⟨a3, c3, rfl, d3, ha3, hc3⟩ := h3
  obtain ⟨a2, c2, e2, d2, ha2, hc2⟩ := h2
  cases e2
  obtain ⟨⟨a4, c4, rfl, d4, ha4, hc4⟩, hr⟩ := h4
  have hix3 := fun w' i h0 hi => idx_any (P := Try.prog) Try.underlying23 sz4 (n := n) (a := a3) c3 ha3 w' i h0 hi
  have hix2 := fun w' i h0 hi => idx_any (P := Try.prog) Try.underlying22 sz9 (n := n) (a := some x) c2 ha2 w' i h0 hi
  have hix4 := fun w' i h0 hi => idx_any (P := Try.prog) Try.underlying24 sz22 (n := n) (a := a4) c4 ha4 w' i h0 hi
  have hmm := mkmap 33 9 51 Try.underlying33 .i64
  clear ha2 ha3 ha4 hc2 hc3 hc4 hr hL
  go_enter Try.func14, Try.ntmps14
  go_wp2_with fail
  have M0 := hide (HM.start w f nl L F)
  generalize w.alloc (.map #[] 0) = w0 at *
  generalize hg : w.heap.size = g at *
  have HGE := hide hg
  clear hg hmm hq
  go_loopw [8] (fun i wr => ∃ (k : Nat) (look : ByteArray → Option Value), k ≤ n ∧ i = .int .i64 (k : Int) ∧ Hid (HM w wr g f nl L F k look)) (fun i _ => n - (intOf i).toNat)
  case atStart => exact ⟨0, _, by omega, rfl, M0⟩
  case round =>
    obtain ⟨k, look, hk, rfl, HK⟩ := hrel
    by_cases hkn : k < n
    · have cN : wr.cell? (adr a3 k) = some (.bool (nl k)) := by
        obtain ⟨_, _, e, _, _, h⟩ := H3.out.below HK.out.bel
        cases e
        exact h k hkn
      have cS : wr.cell? (adr (some x) k) = some (.string (f k)) := by
        obtain ⟨_, _, e, _, _, h⟩ := H2.out.below HK.out.bel
        cases e
        exact h k hkn
      cases hnl : nl k with
      | true =>
        rw [hnl] at cN
        obtain ⟨w5, hput, hM5⟩ := HK.out.put (.pointer none) (.inl ⟨hnl, rfl⟩)
        have M5 := hide hM5
        clear hnl hM5 HK
        go_wp2_with fail
        go_roundw
        case rel => exact ⟨k + 1, _, by omega, by go_num, M5⟩
        case measure => simp [intOf]; omega
      | false =>
        rw [hnl] at cN
        have HNL := hide hnl
        clear hnl
        have cA : wr.cell? (adr a4 k) = some (.slice (A k) (L k) (C k)) := by
          obtain ⟨_, _, e, _, _, h⟩ := H4.out.1.below HK.out.bel
          cases e
          exact h k hkn
        have hmk := fun w => made6 w (L k) (HL.out k hkn)
        have hlk := HL.out k hkn
        obtain ⟨wk, hwk⟩ : ∃ wk, wk = wr := ⟨wr, rfl⟩
        subst hwk
        go_wp2_with fail
        have F0 : Hid (Below wk.heap.size wk (wk.alloc (.cells (madeCells (inst ⟨#[]⟩).toArray (L k * 6)) 54)) ∧ Fill (wk.alloc (.cells (madeCells (inst ⟨#[]⟩).toArray (L k * 6)) 54)) wk.heap.size (L k) (F k) 0) := hide ⟨(Below.refl _ _).alloc (Nat.le_refl _) _, Fill.start wk (L k) (F k)⟩
        generalize wk.alloc (.cells (madeCells (inst ⟨#[]⟩).toArray (L k * 6)) 54) = w3 at *
        clear hmk cA cS cN
        go_loopw [10] (fun i wr => ∃ j : Nat, j ≤ L k ∧ i = .int .i64 (j : Int) ∧ Hid (Below wk.heap.size wk wr ∧ Fill wr wk.heap.size (L k) (F k) j)) (fun i _ => L k - (intOf i).toNat)
        case atStart => exact ⟨0, by omega, rfl, F0⟩
        case round =>
          clear F0
          obtain ⟨j, hj, rfl, HF⟩ := hrel
          have cA : wr.cell? (adr a4 k) = some (.slice (A k) (L k) (C k)) := by
            obtain ⟨_, _, e, _, _, h⟩ := (H4.out.1.below HK.out.bel).below HF.out.1
            cases e
            exact h k hkn
          by_cases hjl : j < L k
          · as_aux_lemma =>
            obtain ⟨aq, cq, eq, dq, haq, hcq⟩ := ((H4.out.2 k hkn).below HK.out.bel).below HF.out.1
            cases eq
            have cj := hcq j hjl
            have hixr := fun w' i h0 hi => idx_any (P := Try.prog) Try.underlying22 sz9 (n := L k) (a := A k) (C k) haq w' i h0 hi
            have hix6 := idx6 wk.heap.size (L k) (L k) j hjl
            have hat := HF.out.2.at_ j hjl
            have hth := HF.out.2.there j hjl
            have c0 : wr.cell? ⟨wk.heap.size, 6 * j, none⟩ = some _ := hat 0 _ rfl
            have c1 : wr.cell? ⟨wk.heap.size, 6 * j + 1, none⟩ = some _ := hat 1 _ rfl
            have c2 : wr.cell? ⟨wk.heap.size, 6 * j + 2, none⟩ = some _ := hat 2 _ rfl
            have c3 : wr.cell? ⟨wk.heap.size, 6 * j + 3, none⟩ = some _ := hat 3 _ rfl
            have c4 : wr.cell? ⟨wk.heap.size, 6 * j + 4, none⟩ = some _ := hat 4 _ rfl
            have c5 : wr.cell? ⟨wk.heap.size, 6 * j + 5, none⟩ = some _ := hat 5 _ rfl
            have f0 : wr.frozen? ⟨wk.heap.size, 6 * j, none⟩ = false := (hth 0 (by omega)).2
            have f1 : wr.frozen? ⟨wk.heap.size, 6 * j + 1, none⟩ = false := (hth 1 (by omega)).2
            have f2 : wr.frozen? ⟨wk.heap.size, 6 * j + 2, none⟩ = false := (hth 2 (by omega)).2
            have f3 : wr.frozen? ⟨wk.heap.size, 6 * j + 3, none⟩ = false := (hth 3 (by omega)).2
            have f4 : wr.frozen? ⟨wk.heap.size, 6 * j + 4, none⟩ = false := (hth 4 (by omega)).2
            have f5 : wr.frozen? ⟨wk.heap.size, 6 * j + 5, none⟩ = false := (hth 5 (by omega)).2
            clear hat hth
            have HN : Hid (Below wk.heap.size wk (wr.setCells wk.heap.size (6 * j) (inst (F k j))) ∧ Fill (wr.setCells wk.heap.size (6 * j) (inst (F k j))) wk.heap.size (L k) (F k) (j + 1)) := hide ⟨below_setCells HF.out.1 (Nat.le_refl _) _ _, HF.out.2.put hjl⟩
            clear haq hcq HF
            go_wp2_with fail
            go_roundw
            case rel => exact ⟨j + 1, by omega, by go_num, HN⟩
            case measure => simp [intOf]; omega
          · have hjN : ¬ ((j : Int) < (L k : Int)) := by omega
            obtain rfl : L k = j := by omega
            have cS : wr.cell? (adr (some x) k) = some (.string (f k)) := by
              obtain ⟨_, _, e, _, _, h⟩ := (H2.out.below HK.out.bel).below HF.out.1
              cases e
              exact h k hkn
            go_wp2_with fail
            have hsz := HF.out.1.size
            have hgl := HK.out.map.lt
            have BB : Hid (Below wr.heap.size wr ((wr.alloc (.cells #[.string (f k), .string ⟨#[]⟩, .string ⟨#[]⟩, .string ⟨#[]⟩, .slice none 0 0, .map none, .map none, .slice (some ⟨wk.heap.size, 0, none⟩) (L k) (L k)] 58)).drew)) := hide (below_drewN ((Below.refl _ _).alloc (Nat.le_refl _) _) 1)
            have HMB : Hid (HM w ((wr.alloc (.cells #[.string (f k), .string ⟨#[]⟩, .string ⟨#[]⟩, .string ⟨#[]⟩, .slice none 0 0, .map none, .map none, .slice (some ⟨wk.heap.size, 0, none⟩) (L k) (L k)] 58)).drew) g f nl L F k look) := hide ((HK.out.below HF.out.1).below BB.out)
            obtain ⟨w5, hput, hM5⟩ := HMB.out.put (.pointer (some ⟨wr.heap.size, 0, none⟩)) (.inr ⟨HNL.out, wr.heap.size, wk.heap.size, by omega, hgl, Nat.lt_of_lt_of_le HF.out.2.lt BB.out.size, rfl, by simp, HF.out.2.done.of_block (BB.out.block _ HF.out.2.lt)⟩)
            have M5 := hide hM5
            have cS2 : (wr.alloc (.cells #[.string (f k), .string ⟨#[]⟩, .string ⟨#[]⟩, .string ⟨#[]⟩, .slice none 0 0, .map none, .map none, .slice (some ⟨wk.heap.size, 0, none⟩) (L k) (L k)] 58)).cell? (adr (some x) k) = some (.string (f k)) := by
              rw [World.cell?_alloc_lt _ _ _ (adr_lt cS)]; exact cS
            clear hM5 HMB BB HF HK hsz hgl
            go_region
            clear hput cS2
            go_wp2_with fail
            go_roundw
            case rel => exact ⟨k + 1, _, by omega, by go_num, M5⟩
            case measure => simp [intOf]; omega
    · have hkN : ¬ ((k : Int) < (n : Int)) := by omega
      obtain rfl : n = k := by omega
      go_wp2_with fail
      go_ret
      exact ⟨_, rfl, HK.out.bel, .inr ⟨g, look, rfl, HK.out⟩⟩

set_option maxHeartbeats 1000000 in
theorem hosts_nil (c2 : Nat) (v3 v4 : Value) (w : World) : Calls Try.prog 14 #[.slice none 0 c2, v3, v4] w fun e w' => e = .returned (.map none) ∧ w' = w := by
  have hq := eql_nil 22 9 Try.underlying22
  go_enter Try.func14, Try.ntmps14
  go_wp2_with fail
  go_ret
  exact ⟨rfl, rfl⟩
theorem hosts_any (v2 v3 v4 : Value) (n : Nat) (f : Nat → ByteArray) (nl : Nat → Bool) (A : Nat → Option Addr) (L C : Nat → Nat) (F : Nat → Nat → ByteArray) (w : World) (hn : n ≤ 4096) (hL : ∀ i, i < n → L i ≤ 1048576)
    (h2 : SV w v2 n fun j => .string (f j)) (h3 : SV w v3 n fun j => .bool (nl j)) (h4 : SS w v4 n A L C (fun i j => .string (F i j))) :
    Calls Try.prog 14 #[v2, v3, v4] w fun e w' => HostsPost w w' n f nl L F e := by
  have h2' := h2
  obtain ⟨a, c, rfl, _, ha, _⟩ := h2
  cases a with
  | none =>
    have h0 : n = 0 := by
      rcases Nat.eq_zero_or_pos n with h | h
      · exact h
      · obtain ⟨_, _, h'⟩ := ha h; cases h'
    subst h0
    refine (hosts_nil c v3 v4 w).mono ?_
    rintro e w' ⟨rfl, rfl⟩
    exact ⟨none, rfl, Below.refl _ _, .inl ⟨rfl, rfl⟩⟩
  | some x => exact hosts_some x c v3 v4 n f nl A L C F w hn hL h2' h3 h4
end Go.Proofs.Qxb6603233a
