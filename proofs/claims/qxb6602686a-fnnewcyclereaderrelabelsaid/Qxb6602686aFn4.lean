import Derived.Test.Qxb6602686aPlain
namespace Go.Proofs.Qxb6602686a
open Go.RowKit

theorem SS.below {w w' : World} {v : Value} {n : Nat} {A : Nat → Option Addr} {L C : Nat → Nat} {F : Nat → Nat → Value} (h : SS w v n A L C F) (hb : Below w.heap.size w w') : SS w' v n A L C F :=
  ⟨h.1.below hb, fun i hi => (h.2 i hi).below hb⟩
/-- the clone of a slice of slices, as such -/
theorem SS.of_own {w : World} {B : Nat} {v : Value} {n : Nat} {cv : Nat → Value} {L : Nat → Nat} {F : Nat → Nat → Value} (h : Own w B 22 v n cv) (hn : n ≤ 1048576) (hr : ∀ i, i < n → Own w B 24 (cv i) (L i) (F i)) (hL : ∀ i, i < n → L i ≤ 1048576) :
    ∃ A C, SS w v n A L C F := by
  have each : ∀ i, i < n → ∃ a c, cv i = .slice a (L i) c := fun i hi => by
    obtain ⟨a, c, e, _⟩ := (hr i hi).sv (by have := hL i hi; omega)
    exact ⟨a, c, e⟩
  refine ⟨fun i => vAddr (cv i), fun i => vCap (cv i), (h.sv (by omega)).congr (fun i hi => ?_), fun i hi => ?_⟩
  · obtain ⟨a, c, e⟩ := each i hi
    simp only [e, vAddr, vCap]
  · obtain ⟨a, c, e⟩ := each i hi
    have := (hr i hi).sv (by have := hL i hi; omega)
    simp only [e, vAddr, vCap] at this ⊢
    exact this

theorem heap_new (w : World) (o : Obj) : (w.alloc o).heap[w.heap.size]? = some o := by
  show (w.heap.push o)[w.heap.size]? = some o
  simp only [Array.getElem?_push_size]
theorem up2 {a b c : World} (h : Below a.heap.size a b) (k : Below b.heap.size b c) : Below a.heap.size a c := h.trans (k.mono h.size)
/-- a reader as it lies in a world: its struct's first three fields, what they hold -/
structure RdAt (w : World) (n g : Nat) (vi vn va : Value) (ids : List Int) (N : Nat → List Nat) (A : Nat → Option Addr) (C : Nat → Nat) : Prop where
  c0 : w.cell? ⟨g, 0, none⟩ = some vi
  c1 : w.cell? ⟨g, 1, none⟩ = some vn
  c2 : w.cell? ⟨g, 2, none⟩ = some va
  ids : SV w vi n (fun j => ku (ids.getD j 0))
  nx : SS w vn n A (fun i => (N i).length) C (fun i j => ki ((N i).getD j 0))
  af : SV w va n (fun j => .int .i64 (afterOf N n j : Nat))
theorem RdAt.below {w w' : World} {n g : Nat} {vi vn va : Value} {ids : List Int} {N : Nat → List Nat} {A : Nat → Option Addr} {C : Nat → Nat} (h : RdAt w n g vi vn va ids N A C) (hb : Below w.heap.size w w') : RdAt w' n g vi vn va ids N A C :=
  ⟨by rw [hb.cell (block_lt_of_cell h.c0)]; exact h.c0, by rw [hb.cell (block_lt_of_cell h.c1)]; exact h.c1, by rw [hb.cell (block_lt_of_cell h.c2)]; exact h.c2, h.ids.below hb, h.nx.below hb, h.af.below hb⟩
theorem cell3 {w : World} {g : Nat} {t : TypeId} {a b c d e f g' h i j k l : Value} (hg : w.heap[g]? = some (.cells #[a, b, c, d, e, f, g', h, i, j, k, l] t)) :
    w.cell? ⟨g, 0, none⟩ = some a ∧ w.cell? ⟨g, 1, none⟩ = some b ∧ w.cell? ⟨g, 2, none⟩ = some c := by
  simp [World.cell?, hg]
structure EnvAt (w : World) (u : Nat → Int) (n : Nat) (am : Option Addr) (cm gF gG : Nat) (vi vn va vi' vn' va' : Value) (idF idG : List Int) (NF NG : Nat → List Nat) (AF AG : Nat → Option Addr) (CF CG : Nat → Nat) : Prop where
  ms : SV w (.slice am n cm) n (fun j => .int .u64 (u j))
  rF : RdAt w n gF vi vn va idF NF AF CF
  rG : RdAt w n gG vi' vn' va' idG NG AG CG
theorem EnvAt.below {w w' : World} {u : Nat → Int} {n : Nat} {am : Option Addr} {cm gF gG : Nat} {vi vn va vi' vn' va' : Value} {idF idG : List Int} {NF NG : Nat → List Nat} {AF AG : Nat → Option Addr} {CF CG : Nat → Nat} (h : EnvAt w u n am cm gF gG vi vn va vi' vn' va' idF idG NF NG AF AG CF CG) (hb : Below w.heap.size w w') :
    EnvAt w' u n am cm gF gG vi vn va vi' vn' va' idF idG NF NG AF AG CF CG := ⟨h.ms.below hb, h.rF.below hb, h.rG.below hb⟩

/-- the second reader's places, as far as they are noted -/
structure PosAt (wb wr : World) (u : Nat → Int) (n : Nat) (idG : List Int) (j : Nat) : Prop where
  below : Below wb.heap.size wb wr
  p : wr.rowIs wb.heap.size 3 n (fun k => ki ((posTo idG j (u k)).getD 0))
  s : wr.rowIs (wb.heap.size + 1) 4 n (fun k => .bool (posTo idG j (u k)).isSome)
theorem PosAt.start (wb : World) (u : Nat → Int) (n : Nat) (idG : List Int) : PosAt wb ((wb.alloc (.cells (madeCells #[.int .i64 0] n) 3)).alloc (.cells (madeCells #[.bool false] n) 4)) u n idG 0 := by
  refine ⟨((Below.refl _ _).alloc (Nat.le_refl _) _).alloc (by simp) _, ?_, ?_⟩
  · exact (World.rowIs_made wb (.int .i64 0) n 3).alloc _
  · have := World.rowIs_made (wb.alloc (.cells (madeCells #[.int .i64 0] n) 3)) (.bool false) n 4
    rw [World.size_alloc] at this
    exact this
theorem srt_inj {u : Nat → Int} {n i j : Nat} (hs : srt u n) (hi : i < n) (hj : j < n) (h : u i = u j) : i = j := by
  by_cases h1 : i < j
  · have := hs i j h1 hj; omega
  · by_cases h2 : j < i
    · have := hs j i h2 hi; omega
    · omega
theorem rank_eq {u : Nat → Int} {n k : Nat} {t r : Int} (hs : srt u n) (hk : k < n) (h : u k = t) (hr : rankIs u n t r) : r = (k : Nat) := by
  rcases hr with ⟨i, hi, e, rfl⟩ | ⟨h1, _⟩
  · rw [srt_inj hs hi hk (by rw [e, h])]
  · exact absurd h (h1 k hk)
theorem PosAt.step {wb wr : World} {u : Nat → Int} {n : Nat} {idG : List Int} {j : Nat} (h : PosAt wb wr u n idG j) (hs : srt u n) {k : Nat} (hk : k < n) (he : u k = idG.getD j 0) :
    PosAt wb ((wr.setCell ⟨wb.heap.size + 1, k, none⟩ (.bool true)).setCell ⟨wb.heap.size, k, none⟩ (.int .i64 (j : Nat))) u n idG (j + 1) := by
  have key : ∀ i, i < n → posTo idG (j + 1) (u i) = if i = k then some j else posTo idG j (u i) := fun i hi => by
    unfold posTo
    by_cases e : i = k
    · rw [if_pos e, if_pos (by rw [e, he])]
    · rw [if_neg e, if_neg (fun h2 => e (srt_inj hs hi hk (by rw [h2, he])))]
      cases j <;> rfl
  refine ⟨(h.below.setCell (by show wb.heap.size ≤ wb.heap.size + 1; omega) _).setCell (by show wb.heap.size ≤ wb.heap.size; omega) _, ?_, ?_⟩
  · refine ((h.p.setOther (a := ⟨wb.heap.size + 1, k, none⟩) (by show wb.heap.size ≠ wb.heap.size + 1; omega) (.bool true)).set k (.int .i64 (j : Nat))).congr (fun i hi => ?_)
    rw [key i hi]
    by_cases e : i = k <;> simp [e, ki]
  · refine ((h.s.set k (.bool true)).setOther (a := ⟨wb.heap.size, k, none⟩) (by show wb.heap.size + 1 ≠ wb.heap.size; omega) (.int .i64 (j : Nat))).congr (fun i hi => ?_)
    rw [key i hi]
    by_cases e : i = k <;> simp [e]
theorem sv_some {w : World} {a : Option Addr} {n c : Nat} {f : Nat → Value} (h : SV w (.slice a n c) n f) : 0 < n → ∃ b off, a = some ⟨b, off, none⟩ := by
  obtain ⟨a', c', e, _, h, _⟩ := h
  cases e
  exact h
theorem sv_cell {w : World} {a : Option Addr} {n c : Nat} {f : Nat → Value} (h : SV w (.slice a n c) n f) (j : Nat) (hj : j < n) : w.cell? (adr a j) = some (f j) := by
  obtain ⟨a', c', e, _, _, h⟩ := h
  cases e
  exact h j hj

def F4Post (w w' : World) (e : Ending) : Prop := e = .returned (.bool true) ∧ Below w.heap.size w w'

set_option maxHeartbeats 4000000 in
set_option maxRecDepth 100000 in
theorem f4_any (v0 v1 v4 : Value) (x y : Int) (n0 n1 n : Nat) (u0 u : Nat → Int) (A : Nat → Option Addr) (L C : Nat → Nat) (tt : Nat → Nat → Int) (w : World)
    (h0 : SV w v0 n0 fun j => .int .u64 (u0 j)) (h1 : SS w v1 n1 A L C fun i j => .int .u64 (tt i j)) (h4 : SV w v4 n fun j => .int .u64 (u j)) :
    Calls Try.prog 4 #[v0, v1, .int .u64 x, .int .u64 y, v4] w fun e w' => F4Post w w' e := by
  have H0 := hide h0
  have H1 := hide h1
  have H4 := hide h4
  clear h0 h1 h4
  go_enter Try.func4, Try.ntmps4
  go_wp2_with fail
  refine (bytes15_any v0 v1 v4 x y n0 n1 n _ _ A L C _ w H0.out H1.out H4.out).mono ?_
  rintro e w' ⟨⟨b, rfl, hb⟩, rfl⟩
  have HB := hide hb
  clear hb
  cases b with
  | false =>
    go_wp2_with fail
    go_ret
    exact ⟨rfl, Below.refl _ _⟩
  | true =>
    obtain ⟨q0, q1, q4, hL⟩ := HB.out rfl
    have HL := hide hL
    clear hL HB
    go_wp2_with fail
    refine (fit8_any v0 v1 v4 n0 n1 n _ _ A L C _ w' H0.out H1.out H4.out q0 q1 q4 HL.out).mono ?_
    rintro e w2 ⟨⟨b, rfl, _⟩, rfl⟩
    cases b with
    | false =>
      go_wp2_with fail
      go_ret
      exact ⟨rfl, Below.refl _ _⟩
    | true =>
      go_wp2_with fail
      refine (domain9_any v0 v1 v4 x n0 n1 n _ _ u w2 H0.out H1.out.1 H4.out).mono ?_
      rintro e w3 ⟨⟨b, rfl, hb⟩, m, rfl⟩
      have HB := hide hb
      clear hb
      cases b with
      | false =>
        go_wp2_with fail
        go_ret
        exact ⟨rfl, below_drewN (Below.refl _ _) m⟩
      | true =>
        obtain ⟨rfl, hs, hx⟩ := HB.out rfl
        have HS := hide hs
        have HX := hide hx
        have hn1 : 1 ≤ n := by obtain ⟨i, hi, _⟩ := hx; omega
        clear hs hx HB
        have B3 := hide (below_drewN (Below.refl w2.heap.size w2) m)
        generalize w2.drewN m = w3 at *
        go_wp2_with fail
        refine (rank_any v4 n u y w3 (H4.out.below B3.out) HS.out).mono ?_
        rintro e w4 ⟨⟨r, rfl, hr⟩, rfl⟩
        have HR := hide hr
        clear hr
        by_cases hr0 : r < 0
        · go_wp2_with fail
          go_ret
          exact ⟨rfl, B3.out⟩
        · have hy : ∃ i, i < n ∧ u i = y := by
            rcases HR.out with ⟨i, h1, h2, _⟩ | ⟨_, h⟩
            · exact ⟨i, h1, h2⟩
            · omega
          have HY := hide hy
          clear hy
          go_wp2_with fail
          refine (cloneU_any v0 n0 u0 w4 (H0.out.below B3.out) q0).mono ?_
          rintro e w5 ⟨v0', rfl, hb5, ho5⟩
          have O5 := hide (ho5.sv (by omega))
          have B5 := hide hb5
          clear hb5 ho5
          go_wp2_with fail
          refine (cloneUs_any v1 n0 (fun i => .slice (A i) (L i) (C i)) L tt w5 ((H1.out.1.below B3.out).below B5.out) q0 (fun i hi => ⟨((H1.out.2 i hi).below B3.out).below B5.out, HL.out i hi⟩)).mono ?_
          rintro e w6 ⟨v1', cv, rfl, hb6, ho6, hr6⟩
          obtain ⟨A', C', hss⟩ := SS.of_own ho6 q0 hr6 HL.out
          have O6 := hide hss
          have B6 := hide hb6
          clear hb6 ho6 hr6 hss
          go_wp2_with fail
          refine (cloneU_any v4 n u w6 (((H4.out.below B3.out).below B5.out).below B6.out) q4).mono ?_
          rintro e w7 ⟨v4', rfl, hb7, ho7⟩
          have O7 := hide (ho7.sv (by omega))
          have B7 := hide hb7
          clear hb7 ho7
          have IF := hide (ids_ok HS.out HX.out)
          have IG := hide (ids_ok HS.out HY.out)
          obtain ⟨idF, eF⟩ : ∃ idF, idsOf x (usL u n) = idF := ⟨_, rfl⟩
          obtain ⟨idG, eG⟩ : ∃ idG, idsOf y (usL u n) = idG := ⟨_, rfl⟩
          rw [eF] at IF
          rw [eG] at IG
          have EE := hide (And.intro eF eG)
          clear eF eG
          go_wp2_with fail
          refine (zz_any v0' v1' v4' n0 n x u0 u A' L C' tt w7 ((O5.out.below B6.out).below B7.out) (O6.out.below B7.out) O7.out q0 hn1 q4 HL.out idF EE.out.1 IF.out.len).mono ?_
          rintro e w8 ⟨b0, a4, a5, a8, a9, a10, k0, g1, g2, AF, CF, rfl, hb8, s8, ss8, af8⟩
          have B8 := hide hb8
          have SF := hide (And.intro s8 (And.intro ss8 af8))
          clear hb8 s8 ss8 af8
          go_wp2_with fail
          obtain ⟨gF, hgF⟩ : ∃ g, g = w8.heap.size := ⟨_, rfl⟩
          have B9 := hide ((Below.refl w8.heap.size w8).alloc (Nat.le_refl _) (.cells #[.slice b0 n k0, .slice (some ⟨g1, 0, none⟩) n n, .slice (some ⟨g2, 0, none⟩) n n, .int .i64 1048576, .slice a4 n n, .slice a5 n n, .slice none 0 0, .bool false, .slice a8 n n, .slice a9 n n, .slice a10 n n, .slice none 0 0] 34))
          have cF : Hid ((w8.alloc (.cells #[.slice b0 n k0, .slice (some ⟨g1, 0, none⟩) n n, .slice (some ⟨g2, 0, none⟩) n n, .int .i64 1048576, .slice a4 n n, .slice a5 n n, .slice none 0 0, .bool false, .slice a8 n n, .slice a9 n n, .slice a10 n n, .slice none 0 0] 34)).heap[w8.heap.size]? = some (.cells #[.slice b0 n k0, .slice (some ⟨g1, 0, none⟩) n n, .slice (some ⟨g2, 0, none⟩) n n, .int .i64 1048576, .slice a4 n n, .slice a5 n n, .slice none 0 0, .bool false, .slice a8 n n, .slice a9 n n, .slice a10 n n, .slice none 0 0] 34)) := heap_new _ _
          rw [← hgF] at cF
          rw [← hgF]
          clear hgF
          generalize w8.alloc (.cells #[.slice b0 n k0, .slice (some ⟨g1, 0, none⟩) n n, .slice (some ⟨g2, 0, none⟩) n n, .int .i64 1048576, .slice a4 n n, .slice a5 n n, .slice none 0 0, .bool false, .slice a8 n n, .slice a9 n n, .slice a10 n n, .slice none 0 0] 34) = w9 at *
          refine (zz_any v0' v1' v4' n0 n y u0 u A' L C' tt w9 ((((O5.out.below B6.out).below B7.out).below B8.out).below B9.out) (((O6.out.below B7.out).below B8.out).below B9.out) ((O7.out.below B8.out).below B9.out) q0 hn1 q4 HL.out idG EE.out.2 IG.out.len).mono ?_
          rintro e wa ⟨b0', a4', a5', a8', a9', a10', k0', g1', g2', AG, CG, rfl, hba, sa, ssa, afa⟩
          have Ba := hide hba
          have SG := hide (And.intro sa (And.intro ssa afa))
          clear hba sa ssa afa
          obtain ⟨am, cm, rfl, _, ham, hcm⟩ := O7.out
          have HM := hide (And.intro ham hcm)
          clear ham hcm
          go_upto_region 12 with fail
          obtain ⟨gG, hgG⟩ : ∃ g, g = wa.heap.size := ⟨_, rfl⟩
          have Bb := hide ((Below.refl wa.heap.size wa).alloc (Nat.le_refl _) (.cells #[.slice b0' n k0', .slice (some ⟨g1', 0, none⟩) n n, .slice (some ⟨g2', 0, none⟩) n n, .int .i64 1048576, .slice a4' n n, .slice a5' n n, .slice none 0 0, .bool false, .slice a8' n n, .slice a9' n n, .slice a10' n n, .slice none 0 0] 34))
          have cG : Hid ((wa.alloc (.cells #[.slice b0' n k0', .slice (some ⟨g1', 0, none⟩) n n, .slice (some ⟨g2', 0, none⟩) n n, .int .i64 1048576, .slice a4' n n, .slice a5' n n, .slice none 0 0, .bool false, .slice a8' n n, .slice a9' n n, .slice a10' n n, .slice none 0 0] 34)).heap[wa.heap.size]? = some (.cells #[.slice b0' n k0', .slice (some ⟨g1', 0, none⟩) n n, .slice (some ⟨g2', 0, none⟩) n n, .int .i64 1048576, .slice a4' n n, .slice a5' n n, .slice none 0 0, .bool false, .slice a8' n n, .slice a9' n n, .slice a10' n n, .slice none 0 0] 34)) := heap_new _ _
          rw [← hgG] at cG
          rw [← hgG]
          clear hgG
          generalize wa.alloc (.cells #[.slice b0' n k0', .slice (some ⟨g1', 0, none⟩) n n, .slice (some ⟨g2', 0, none⟩) n n, .int .i64 1048576, .slice a4' n n, .slice a5' n n, .slice none 0 0, .bool false, .slice a8' n n, .slice a9' n n, .slice a10' n n, .slice none 0 0] 34) = wb at *
          have E := hide (EnvAt.mk (w := wb) (u := u) (n := n) (am := am) (cm := cm) (gF := gF) (gG := gG) (idF := idF) (idG := idG) (NF := NNo idF (TLk u0 tt L n0) n) (NG := NNo idG (TLk u0 tt L n0) n)
            ((O7.out.below B8.out).below B9.out |>.below Ba.out |>.below Bb.out)
            (RdAt.below (RdAt.mk (cell3 cF.out).1 (cell3 cF.out).2.1 (cell3 cF.out).2.2 (SF.out.1.below B9.out) (SF.out.2.1.below B9.out) (SF.out.2.2.below B9.out)) (up2 Ba.out Bb.out))
            (RdAt.mk (cell3 cG.out).1 (cell3 cG.out).2.1 (cell3 cG.out).2.2 (SG.out.1.below Bb.out) (SG.out.2.1.below Bb.out) (SG.out.2.2.below Bb.out)))
          have BB := hide (up2 B3.out (up2 B5.out (up2 B6.out (up2 B7.out (up2 B8.out (up2 B9.out (up2 Ba.out Bb.out)))))))
          clear cF cG B3 B5 B6 B7 B8 B9 Ba Bb SF SG O5 O6 O7 HM H0 H1 H4 HR HX HY EE HL
          have f0 := E.out.rF.c0
          have f1 := E.out.rF.c1
          have f2 := E.out.rF.c2
          have f0' := E.out.rG.c0
          have f1' := E.out.rG.c1
          have f2' := E.out.rG.c2
          have hmk1 := fun w => run_make_row' (P := Try.prog) 30 3 (.int .i64 0) 8 Try.underlying30 info3 rfl .i64 .i64 n (by omega) (by omega) w
          have hmk2 := fun w => run_make_row' (P := Try.prog) 32 4 (.bool false) 1 Try.underlying32 info4 rfl .i64 .i64 n (by omega) (by omega) w
          go_wp2_with fail
          clear hmk1 hmk2 f0 f1 f2 f0' f1' f2'
          go_loopw [16] (fun i wr => ∃ k : Nat, k ≤ n ∧ i = .int .i64 k ∧ Hid (PosAt wb wr u n idG k)) (fun i _ => n - (intOf i).toNat)
          case atStart => exact ⟨0, by omega, rfl, hide (PosAt.start wb u n idG)⟩
          case round =>
            obtain ⟨j, hj, rfl, PA⟩ := hrel
            by_cases hjn : j < n
            · have EW := hide (E.out.below PA.out.below)
              have hix0 := fun w' i h0 hi => idx_any (P := Try.prog) Try.underlying22 sz24 (n := n) (a := b0') k0' (sv_some EW.out.rG.ids) w' i h0 hi
              have hc0 := sv_cell EW.out.rG.ids j hjn
              have f0' := EW.out.rG.c0
              obtain ⟨k, hk, hke⟩ := IG.out.mem hjn
              have hseen : wr.cell? ⟨wb.heap.size + 1, k, none⟩ = some (.bool false) := by
                have := PA.out.s.cell hk
                rw [hke, posTo_none IG.out.nodup (by rw [IG.out.len]; exact hjn)] at this
                exact this
              have hfr1 := PA.out.s.frozen k
              have hpos := PA.out.p.cell hk
              have hfr2 := PA.out.p.frozen k
              have PN := hide (PA.out.step HS.out hk hke)
              unfold ku at hc0
              generalize ki ((posTo idG j (u k)).getD 0) = oldp at *
              have hrk : ∀ r, rankIs u n (idG.getD j 0) r → r = (k : Nat) := fun r h => rank_eq HS.out hk hke h
              have HRK := hide (And.intro hke hrk)
              clear hke hrk
              generalize idG.getD j 0 = t at *
              go_wp2_with fail
              refine (rank_any _ n u t wr EW.out.ms HS.out).mono ?_
              rintro e wr' ⟨⟨r, rfl, hr⟩, rfl⟩
              obtain rfl := HRK.out.2 r hr
              clear hr
              go_wp2_with fail
              go_roundw
              case rel => exact ⟨j + 1, by omega, by go_num, PN⟩
              case measure => simp [intOf]; omega
            · have hjn' : n = j := by omega
              subst hjn'
              clear hjn hj
              go_wp2_with fail
              obtain ⟨wA, hwA⟩ : ∃ wA, wA = wr := ⟨wr, rfl⟩
              subst hwA
              have EA := hide (E.out.below PA.out.below)
              have BA := hide (up2 BB.out PA.out.below)
              have PP := hide PA.out.p
              clear E BB PA
              have f0 := EA.out.rF.c0
              have f1 := EA.out.rF.c1
              have f2 := EA.out.rF.c2
              have f1' := EA.out.rG.c1
              have f2' := EA.out.rG.c2
              have hix0 := fun w' i h0 hi => idx_any (P := Try.prog) Try.underlying22 sz24 (n := n) (a := b0) k0 (sv_some EA.out.rF.ids) w' i h0 hi
              go_loopw [18] (fun i wr => ∃ k m : Nat, k ≤ n ∧ i = .int .i64 k ∧ wr = wA.drewN m) (fun i _ => n - (intOf i).toNat)
              case atStart => exact ⟨0, 0, by omega, rfl, rfl⟩
              case round =>
                obtain ⟨i, m, hi, rfl, rfl⟩ := hrel
                by_cases hin : i < n
                · obtain ⟨k, hk, hke⟩ := IF.out.mem hin
                  obtain ⟨P, hP, hPe, hPs⟩ := IG.out.pos ⟨k, hk, rfl⟩
                  have hc0 := sv_cell EA.out.rF.ids i hin
                  unfold ku at hc0
                  have hcP : wA.cell? ⟨wb.heap.size, k, none⟩ = some (.int .i64 (P : Nat)) := by
                    have := PP.out.cell hk
                    rw [hPs] at this
                    exact this
                  have hcF : wA.cell? ⟨g1, i, none⟩ = some (.slice (AF i) (NNo idF (TLk u0 tt L n0) n i).length (CF i)) := by
                    simpa [adr] using sv_cell EA.out.rF.nx.1 i hin
                  have hcG : wA.cell? ⟨g1', P, none⟩ = some (.slice (AG P) (NNo idG (TLk u0 tt L n0) n P).length (CG P)) := by
                    simpa [adr] using sv_cell EA.out.rG.nx.1 P hP
                  have hlen := rows_len IF.out IG.out (TLk u0 tt L n0) hin hP (by rw [← hke, hPe])
                  have HROW := hide (fun e => rows_at IF.out IG.out (TLk u0 tt L n0) hin hP (by rw [← hke, hPe]) (e := e))
                  have HFi : Hid (SV wA (.slice (AF i) (NNo idF (TLk u0 tt L n0) n i).length (CF i)) (NNo idF (TLk u0 tt L n0) n i).length (fun j => ki ((NNo idF (TLk u0 tt L n0) n i).getD j 0))) := EA.out.rF.nx.2 i hin
                  have HGi : Hid (SV wA (.slice (AG P) (NNo idG (TLk u0 tt L n0) n P).length (CG P)) (NNo idG (TLk u0 tt L n0) n P).length (fun j => ki ((NNo idG (TLk u0 tt L n0) n P).getD j 0))) := EA.out.rG.nx.2 P hP
                  rw [← hlen] at hcG HGi
                  generalize (NNo idF (TLk u0 tt L n0) n i).length = la at *
                  generalize NNo idF (TLk u0 tt L n0) n i = NFi at *
                  generalize NNo idG (TLk u0 tt L n0) n P = NGP at *
                  have hrk : ∀ r, rankIs u n (idF.getD i 0) r → r = (k : Nat) := fun r h => rank_eq HS.out hk hke h
                  have HRK := hide hrk
                  have hla : la ≤ 281474976710656 := by obtain ⟨_, _, _, h, _⟩ := HFi.out; exact h
                  clear hke hrk hPe hPs hlen
                  generalize idF.getD i 0 = t at *
                  go_wp2_with fail
                  refine (rank_any _ n u t _ (EA.out.ms.below (below_drewN (Below.refl _ _) m)) HS.out).mono ?_
                  rintro e wr' ⟨⟨r, rfl, hr⟩, rfl⟩
                  obtain rfl := HRK.out r hr
                  clear hr
                  go_wp2_with fail
                  go_quiet (fail)
                  go_wp2_with fail
                  go_loopw [22] (fun x wr => ∃ e m' : Nat, e ≤ la ∧ x = .int .i64 e ∧ wr = wA.drewN m') (fun x _ => la - (intOf x).toNat)
                  case atStart => exact ⟨0, _, by omega, rfl, rfl⟩
                  case round =>
                    obtain ⟨e, m', he, rfl, rfl⟩ := hrel
                    by_cases hel : e < la
                    · obtain ⟨hq, hps⟩ := HROW.out e hel
                      obtain ⟨kq, hkq, hkqe⟩ := IF.out.mem hq
                      have hixA := fun w' ii h0 hi => idx_any (P := Try.prog) Try.underlying30 sz3 (n := la) (a := AF i) (CF i) (sv_some HFi.out) w' ii h0 hi
                      have hixB := fun w' ii h0 hi => idx_any (P := Try.prog) Try.underlying30 sz3 (n := la) (a := AG P) (CG P) (sv_some HGi.out) w' ii h0 hi
                      have hcA := sv_cell HFi.out e hel
                      have hcB := sv_cell HGi.out e hel
                      have hcI := sv_cell EA.out.rF.ids _ hq
                      have hcQ := PP.out.cell hkq
                      rw [hkqe, hps] at hcQ
                      have hcQ2 : wA.cell? ⟨wb.heap.size, kq, none⟩ = some (ki (NGP.getD e 0)) := hcQ
                      unfold ki at hcA hcB hcQ2
                      unfold ku at hcI
                      clear hcQ
                      have hrk : ∀ r, rankIs u n (idF.getD (NFi.getD e 0) 0) r → r = (kq : Nat) := fun r h => rank_eq HS.out hkq hkqe h
                      have HRQ := hide hrk
                      clear hrk hkqe hps
                      generalize idF.getD (NFi.getD e 0) 0 = tq at *
                      generalize NFi.getD e 0 = q at *
                      generalize NGP.getD e 0 = p at *
                      have hq0 : ¬ ((q : Int) < 0) := by omega
                      have hq1 : ¬ ((n : Int) ≤ (q : Int)) := by omega
                      go_wp2_with fail
                      refine (rank_any _ n u tq _ (EA.out.ms.below (below_drewN (Below.refl _ _) m')) HS.out).mono ?_
                      rintro e' wr' ⟨⟨r, rfl, hr⟩, rfl⟩
                      obtain rfl := HRQ.out r hr
                      clear hr
                      have hk0 : ¬ ((kq : Int) < 0) := by omega
                      go_wp2_with fail
                      go_quiet (fail)
                      go_wp2_with fail
                      go_roundw
                      case rel => exact ⟨e + 1, _, by omega, by go_num, rfl⟩
                      case measure => simp [intOf]; omega
                    · go_wp2_with fail
                      go_roundw
                      case rel => exact ⟨i + 1, _, by omega, by go_num, rfl⟩
                      case measure => simp [intOf]; omega
                · have hin' : n = i := by omega
                  subst hin'
                  clear hin hi
                  have hsum := sums_same IF.out IG.out (TLk u0 tt L n0) hn1
                  have z0 : 0 < n := by omega
                  have hcF : wA.cell? ⟨g1, 0, none⟩ = some (.slice (AF 0) (NNo idF (TLk u0 tt L n0) n 0).length (CF 0)) := by
                    simpa [adr] using sv_cell EA.out.rF.nx.1 0 z0
                  have hcG : wA.cell? ⟨g1', 0, none⟩ = some (.slice (AG 0) (NNo idG (TLk u0 tt L n0) n 0).length (CG 0)) := by
                    simpa [adr] using sv_cell EA.out.rG.nx.1 0 z0
                  have haF : wA.cell? ⟨g2, 0, none⟩ = some (.int .i64 (afterOf (NNo idF (TLk u0 tt L n0) n) n 0 : Nat)) := by
                    simpa [adr] using sv_cell EA.out.rF.af 0 z0
                  have haG : wA.cell? ⟨g2', 0, none⟩ = some (.int .i64 (afterOf (NNo idG (TLk u0 tt L n0) n) n 0 : Nat)) := by
                    simpa [adr] using sv_cell EA.out.rG.af 0 z0
                  generalize afterOf (NNo idF (TLk u0 tt L n0) n) n 0 = sF at *
                  generalize afterOf (NNo idG (TLk u0 tt L n0) n) n 0 = sG at *
                  generalize (NNo idF (TLk u0 tt L n0) n 0).length = lF at *
                  generalize (NNo idG (TLk u0 tt L n0) n 0).length = lG at *
                  have hsumI : (sF : Int) + (lF : Int) = (sG : Int) + (lG : Int) := by omega
                  clear hsum
                  go_wp2_with fail
                  go_quiet (fail)
                  go_wp2_with fail
                  go_ret
                  exact ⟨rfl, up2 BA.out (below_drewN (below_drewN (Below.refl _ _) m) _)⟩
end Go.Proofs.Qxb6602686a
