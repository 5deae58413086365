import Derived.Test.Qxb6602686aClr
import Derived.Lib.SliceRun
import Derived.Deep.CutRange
import Derived.Deep.QuietTactic
import Derived.StillTailTactics
namespace Go.Proofs.Qxb6602686a
open Go.RowKit

theorem heap_at (w : World) (o : Obj) (n : Nat) (hn : n = w.heap.size) : (w.alloc o).heap[n]? = some o := by
  subst hn
  show (w.heap.push o)[w.heap.size]? = some o
  simp only [Array.getElem?_push_size]
theorem MS.start (N : Net) (Y : Lay) (gr : Nat) (r0 : Nat → Int) (w : World) (hR : ResAt w N Y gr r0) (hg : gr < w.heap.size) (_ : N.V ≤ 1048576) :
    MS w ((((((((w.alloc (.cells #[.int .i64 (N.s : Nat)] 3)).alloc (.cells #[.int .i64 (N.t : Nat)] 3)).alloc (.cells (madeCells #[.int .i64 0] N.V) 3)).alloc (.cells (madeCells #[.int .i64 0] N.V) 2)).alloc (.cells (madeCells #[.int .i64 0] N.V) 3)).alloc (.cells (madeCells #[.bool false] N.V) 4)).alloc (.cells #[.slice (some ⟨w.heap.size + 5, 0, none⟩) N.V N.V] 32)).alloc (.cells #[.slice none 0 0] 30))
      N Y gr r0 (fun _ => 0) (fun _ => 0) (fun _ => 0) (fun _ => false) [] (.slice none 0 0) := by
  obtain ⟨wa, ea⟩ : ∃ wa, w.alloc (.cells #[.int .i64 (N.s : Nat)] 3) = wa := ⟨_, rfl⟩
  have sa : wa.heap.size = w.heap.size + 1 := by rw [← ea]; simp
  have ha := heap_at w (.cells #[.int .i64 (N.s : Nat)] 3) _ rfl
  have ca : Chg w wa (fun k => k = gr) := by rw [← ea]; exact (Chg.refl _ _).alloc _
  have ca' : Chg w wa (fun _ => False) := by rw [← ea]; exact (Chg.refl _ _).alloc _
  rw [ea] at ha ⊢
  obtain ⟨wb, eb⟩ : ∃ wb, wa.alloc (.cells #[.int .i64 (N.t : Nat)] 3) = wb := ⟨_, rfl⟩
  have sb : wb.heap.size = w.heap.size + 2 := by rw [← eb]; simp [sa]
  have hb := heap_at wa (.cells #[.int .i64 (N.t : Nat)] 3) (w.heap.size + 1) sa.symm
  have cb : Chg wa wb (fun _ => False) := by rw [← eb]; exact (Chg.refl _ _).alloc _
  rw [eb] at hb ⊢
  obtain ⟨wc, ec⟩ : ∃ wc, wb.alloc (.cells (madeCells #[.int .i64 0] N.V) 3) = wc := ⟨_, rfl⟩
  have sc : wc.heap.size = w.heap.size + 3 := by rw [← ec]; simp [sb]
  have hc := World.rowIs_made wb (.int .i64 0) N.V 3
  have cc : Chg wb wc (fun _ => False) := by rw [← ec]; exact (Chg.refl _ _).alloc _
  rw [ec, sb] at hc
  rw [ec]
  obtain ⟨wd, ed⟩ : ∃ wd, wc.alloc (.cells (madeCells #[.int .i64 0] N.V) 2) = wd := ⟨_, rfl⟩
  have sd : wd.heap.size = w.heap.size + 4 := by rw [← ed]; simp [sc]
  have hd := World.rowIs_made wc (.int .i64 0) N.V 2
  have cd : Chg wc wd (fun _ => False) := by rw [← ed]; exact (Chg.refl _ _).alloc _
  rw [ed, sc] at hd
  rw [ed]
  obtain ⟨we, ee⟩ : ∃ we, wd.alloc (.cells (madeCells #[.int .i64 0] N.V) 3) = we := ⟨_, rfl⟩
  have se : we.heap.size = w.heap.size + 5 := by rw [← ee]; simp [sd]
  have he := World.rowIs_made wd (.int .i64 0) N.V 3
  have ce : Chg wd we (fun _ => False) := by rw [← ee]; exact (Chg.refl _ _).alloc _
  rw [ee, sd] at he
  rw [ee]
  obtain ⟨wf, ef⟩ : ∃ wf, we.alloc (.cells (madeCells #[.bool false] N.V) 4) = wf := ⟨_, rfl⟩
  have sf : wf.heap.size = w.heap.size + 6 := by rw [← ef]; simp [se]
  have hf := World.rowIs_made we (.bool false) N.V 4
  have cf : Chg we wf (fun _ => False) := by rw [← ef]; exact (Chg.refl _ _).alloc _
  rw [ef, se] at hf
  rw [ef]
  obtain ⟨wg, eg⟩ : ∃ wg, wf.alloc (.cells #[.slice (some ⟨w.heap.size + 5, 0, none⟩) N.V N.V] 32) = wg := ⟨_, rfl⟩
  have sg : wg.heap.size = w.heap.size + 7 := by rw [← eg]; simp [sf]
  have hgq := heap_at wf (.cells #[.slice (some ⟨w.heap.size + 5, 0, none⟩) N.V N.V] 32) (w.heap.size + 6) sf.symm
  have cg : Chg wf wg (fun _ => False) := by rw [← eg]; exact (Chg.refl _ _).alloc _
  rw [eg] at hgq ⊢
  obtain ⟨wh, eh⟩ : ∃ wh, wg.alloc (.cells #[.slice none 0 0] 30) = wh := ⟨_, rfl⟩
  have sh : wh.heap.size = w.heap.size + 8 := by rw [← eh]; simp [sg]
  have hhQ := World.rowIs_alloc wg #[.slice none 0 0] 30 (fun _ => .slice none 0 0) (fun i hi => by
    have : i = 0 := by simpa using hi
    subst this; rfl)
  have chh : Chg wg wh (fun _ => False) := by rw [← eh]; exact (Chg.refl _ _).alloc _
  rw [eh, sg] at hhQ
  rw [eh]
  have c7 : Chg wf wh (fun _ => False) := cg.trans chh
  have c6 : Chg we wh (fun _ => False) := cf.trans c7
  have c5 : Chg wd wh (fun _ => False) := ce.trans c6
  have c4 : Chg wc wh (fun _ => False) := cd.trans c5
  have c3 : Chg wb wh (fun _ => False) := cc.trans c4
  have c2 : Chg wa wh (fun _ => False) := cb.trans c3
  have c1 : Chg w wh (fun k => k = gr) := ca.trans' c2 (fun _ _ h => h.elim)
  have call : Chg w wh (fun _ => False) := ca'.trans c2
  refine ⟨c1, hR.of_block (call.block gr hg (fun h => h)), hg, hc.of_block (c4.block _ (by omega) (fun h => h)), hd.of_block (c5.block _ (by omega) (fun h => h)), he.of_block (c6.block _ (by omega) (fun h => h)), ⟨?_, ?_, ?_⟩, ⟨hf.of_block (c7.block _ (by omega) (fun h => h)), hhQ, .inl ⟨rfl, rfl⟩, by omega, fun g hg => by simp [Value.ownBlock] at hg⟩, fun g hg => by simp [Value.ownBlock] at hg, by omega⟩
  · have := (chh.block (w.heap.size + 6) (by omega) (fun h => h)).trans hgq
    simp [World.cell?, this]
  · have := (c2.block w.heap.size (by omega) (fun h => h)).trans ha
    simp [World.cell?, this]
  · have := (c3.block (w.heap.size + 1) (by omega) (fun h => h)).trans hb
    simp [World.cell?, this]

theorem least_le {p : Nat → Prop} {n : Nat} (h : p n) : least p ≤ n := (least_spec ⟨n, h⟩).2 n h
/-- the state at the head of the loop over the queue -/
def CutRel (w wr : World) (N : Net) (Y : Lay) (gr : Nat) (r0 : Nat → Int) (μ : Nat) : Prop :=
  ∃ r h ex cur qd q x, μ = mu N h ex q ∧ MS w wr N Y gr r h ex cur qd q x ∧ PR N r0 (fun _ => False) r h ex cur qd q
theorem zero3 (w : World) : (zeroValue 3).run Try.prog w = .ok (.int .i64 0) w := by kernel_rfl
/-- the state while y is discharged -/
def DisRel (w wr : World) (N : Net) (Y : Lay) (gr : Nat) (r0 : Nat → Int) (y : Nat) (A0 P0 : Int) (n0 : Nat) (ν : Nat) : Prop :=
  ∃ r h ex cur qd q x, ν = nu N r h ex cur y ∧ MS w wr N Y gr r h ex cur qd q x ∧ PR N r0 (fun v => v = y) r h ex cur qd q ∧ Lex A0 P0 n0 (mA N h) (mP N h ex) q.length
/-- what minCut hands back -/
def CutPost (w w' : World) (N : Net) (Y : Lay) (gr : Nat) (r0 : Nat → Int) (e : Ending) : Prop :=
  ∃ (r : Nat → Int) (h : Nat → Nat) (ex : Nat → Int) (cur : Nat → Nat) (qd : Nat → Bool) (d : Nat → Nat) (g : Nat), e = .returned (.slice (some ⟨g, 0, none⟩) N.V N.V) ∧ w.heap.size ≤ g ∧ PR N r0 (fun _ => False) r h ex cur qd [] ∧ Dist N r d ∧
    w'.rowIs g 4 N.V (fun v => .bool (decide (d v < N.V))) ∧ ResAt w' N Y gr r ∧ Chg w w' (fun k => k = gr)

set_option maxHeartbeats 8000000 in
set_option maxRecDepth 100000 in
theorem cut_any (N : Net) (ok : NetOk N) (sz : NetSz N) (Y : Lay) (gr : Nat) (r0 : Nat → Int) (cap : Cap N r0) (w : World) (hS : NetS w N Y (fun k => k = gr ∨ w.heap.size ≤ k)) (hR : ResAt w N Y gr r0) (hgr : gr < w.heap.size) (hRb0 : ∀ x, Y.aR = some x → x.block < w.heap.size) :
    Calls Try.prog 27 #[.pointer (some ⟨Y.p, 0, none⟩), .int .i64 (N.s : Nat), .int .i64 (N.t : Nat)] w fun e w' => CutPost w w' N Y gr r0 e := by
  have HS := hide hS
  have HR := hide hR
  have OK := hide ok
  have SZ := hide sz
  have CP := hide cap
  have HG := hide hgr
  have c0 := hS.c0
  have hV := sz.V
  have hs := ok.s
  have hpl : Y.p < w.heap.size := block_lt_of_cell c0
  have hmk1 := fun w => run_make_row' (P := Try.prog) 30 3 (.int .i64 0) 8 Try.underlying30 info3 rfl .i64 .i64 N.V (by omega) (by omega) w
  have hmk2 := fun w => run_make_row' (P := Try.prog) 31 2 (.int .i64 0) 8 Try.underlying31 info2 rfl .i64 .i64 N.V (by omega) (by omega) w
  have hmk3 := fun w => run_make_row' (P := Try.prog) 32 4 (.bool false) 1 Try.underlying32 info4 rfl .i64 .i64 N.V (by omega) (by omega) w
  have hmf : ∀ (fn : Fn) (first cap : Array Value) (w : World), (Instr.makeFunc fn first cap).run Try.prog w = .ok (.func fn first cap) w := fun _ _ _ _ => rfl
  have hRb := hide hRb0
  clear hS hR ok sz cap hgr hRb0
  go_enter Try.func27, Try.ntmps27
  go_upto_region 8 with fail
  simp only [Nat.add_assoc, Nat.reduceAdd]
  have M1 := hide (MS.start N Y gr r0 w HR.out HG.out (by omega))
  generalize ((((((((w.alloc (.cells #[.int .i64 (N.s : Nat)] 3)).alloc (.cells #[.int .i64 (N.t : Nat)] 3)).alloc (.cells (madeCells #[.int .i64 0] N.V) 3)).alloc (.cells (madeCells #[.int .i64 0] N.V) 2)).alloc (.cells (madeCells #[.int .i64 0] N.V) 3)).alloc (.cells (madeCells #[.bool false] N.V) 4)).alloc (.cells #[.slice (some ⟨w.heap.size + 5, 0, none⟩) N.V N.V] 32)).alloc (.cells #[.slice none 0 0] 30)) = w1 at *
  have ct := M1.out.box.ct
  clear hmk1 hmk2 hmk3 hmf c0
  go_wp2_with fail
  refine (relab_any N OK.out SZ.out Y r0 (w.heap.size + 2) _ w1 (M1.out.net HS.out (fun k e => .inr (by omega))) (M1.out.res.sv SZ.out.m) (fun x hx => by have := hRb.out x hx; omega) M1.out.hh).mono ?_
  intro e w2 hpost
  obtain ⟨rv, d, rfl, hD, hM2⟩ := M1.out.swept hpost
  have DD := hide hD
  have M2 := hide hM2
  clear hpost hD hM2 M1 ct
  have cs := M2.out.box.cs
  have ch := M2.out.hh.cell hs
  have fh := M2.out.hh.frozen N.s
  unfold kn at ch
  go_upto_region 10 with fail
  have M3 := hide (M2.out.setH N.s N.V)
  generalize w2.setCell ⟨w.heap.size + 2, N.s, none⟩ (.int .i64 (N.V : Nat)) = w3 at *
  clear cs ch fh M2
  have NS3 := hide (M3.out.net (F := fun k => k = gr) HS.out (fun k e => .inl e))
  have cs := M3.out.box.cs
  have f0 := NS3.out.c0
  have hixA := fun w' ii h0 hi => idx_any (P := Try.prog) Try.underlying29 sz30 (n := N.V) (a := Y.aA) Y.cA (sv_some' HS.out.top) w' ii h0 hi
  have hcA := sv_cell' NS3.out.top N.s hs
  go_wp2_with fail
  go_quiet (fail)
  go_wp2_with fail
  have hLs := SZ.out.L N.s hs
  clear hcA f0 cs
  have M4 : Hid (∃ (r : Nat → Int) (ex : Nat → Int) (qd : Nat → Bool) (q : List Nat) (x : Value), MS w (w3.drewN nq) N Y gr r (fun v => if v = N.s then N.V else d v) ex (fun _ => 0) qd q x ∧ SI N r0 r ex qd q 0) := ⟨_, _, _, _, _, M3.out.drewN _, SI.start CP.out⟩
  clear M3 NS3
  go_loopw [54] (fun i wr => ∃ j : Nat, j ≤ N.L N.s ∧ i = .int .i64 j ∧ Hid (∃ (r : Nat → Int) (ex : Nat → Int) (qd : Nat → Bool) (q : List Nat) (x : Value), MS w wr N Y gr r (fun v => if v = N.s then N.V else d v) ex (fun _ => 0) qd q x ∧ SI N r0 r ex qd q j)) (fun i _ => N.L N.s - (intOf i).toNat)
  case atStart => exact ⟨0, by omega, rfl, M4⟩
  case round =>
    obtain ⟨j, hj, rfl, HX⟩ := hrel
    clear M4
    obtain ⟨r, ex, qd, q, x, hM, hSI⟩ := HX.out
    have M := hide hM
    have S := hide hSI
    clear HX hM hSI
    by_cases hjn : j < N.L N.s
    · as_aux_lemma =>
      obtain ⟨ham, hat⟩ := OK.out.arc N.s j hs hjn
      have hzV := OK.out.hd _ ham
      have htm := tw_lt OK.out.even ham
      have hxor := xor_i64 (N.arc N.s j) (by have := SZ.out.m; omega)
      have hmm := SZ.out.m
      have hgr := HG.out
      have NS := hide (M.out.net (F := fun k => k = gr) HS.out (fun k e => .inl e))
      have hixS := fun w' ii h0 hi => idx_any (P := Try.prog) Try.underlying30 sz3 (n := N.L N.s) (a := Y.A N.s) (Y.C N.s) (sv_some' (HS.out.row N.s hs)) w' ii h0 hi
      have hcS := sv_cell' (NS.out.row N.s hs) j hjn
      have hixH := fun w' ii h0 hi => idx_any (P := Try.prog) Try.underlying30 sz3 (n := N.m) (a := Y.aH) Y.cH (sv_some' HS.out.hd) w' ii h0 hi
      obtain ⟨eR, hrow⟩ := M.out.res (by omega)
      have f2 := NS.out.c2
      rw [eR] at f2
      have hcr := hrow.cell ham
      have hfr := hrow.frozen (N.arc N.s j)
      have SN := hide (S.out.step OK.out CP.out hjn _ rfl)
      unfold kn at hcS
      clear hrow
      generalize N.arc N.s j = ar at *
      have hfl0 := S.out.rn ar ham
      have hrt0 := S.out.rn (tw ar) htm
      have hsum := SN.out.1
      have hta : tw ar ≠ ar := tw_ne ar
      obtain ⟨fl, hfl⟩ : ∃ fl, r ar = fl := ⟨_, rfl⟩
      obtain ⟨rt, hrt⟩ : ∃ rt, r (tw ar) = rt := ⟨_, rfl⟩
      rw [hfl] at hcr hfl0 hsum SN
      rw [hrt] at hrt0 hsum SN
      have RR := hide (And.intro hfl hrt)
      go_upto_region 15 with fail
      have M2 := hide (M.out.setR ar 0)
      generalize wr.setCell ⟨gr, ar, none⟩ (.int .i64 0) = w2 at *
      clear f2 hcr hfr hcS NS M
      have NS := hide (M2.out.net (F := fun k => k = gr) HS.out (fun k e => .inl e))
      have f2 := NS.out.c2
      rw [eR] at f2
      obtain ⟨_, hrow⟩ := M2.out.res (by omega)
      have hcr := hrow.cell htm
      have hfr := hrow.frozen (tw ar)
      simp only [if_neg (tw_ne ar), hrt] at hcr
      clear hrow hfl hrt
      generalize htw : tw ar = ta at *
      go_upto_region 16 with fail
      have M3 := hide ((M2.out.setR ta (rt + fl)).congr (r' := upd (upd r ar (-fl)) ta fl) (fun u hu => by
        unfold upd
        by_cases e1 : u = ta
        · subst e1; simp [hta, RR.out.2]
        · by_cases e2 : u = ar
          · subst e2; simp [e1, RR.out.1]; omega
          · simp [e1, e2]) (fun _ _ => rfl) (fun _ _ => rfl) (fun _ _ => rfl))
      generalize w2.setCell ⟨gr, ta, none⟩ (.int .i64 (rt + fl)) = w3b at *
      clear f2 hcr hfr NS M2 RR
      have NS := hide (M3.out.net (F := fun k => k = gr) HS.out (fun k e => .inl e))
      have f1 := NS.out.c1
      have hcH := sv_cell' NS.out.hd _ ham
      unfold kn at hcH
      obtain ⟨z, hz⟩ : ∃ z, N.hd ar = z := ⟨_, rfl⟩
      rw [hz] at hcH hzV SN
      have hHD := hide hz
      clear hz
      have hcx := M3.out.hx.cell hzV
      have hfx := M3.out.hx.frozen z
      go_upto_region 17 with fail
      have M5 := hide ((M3.out.setX z (wrap64 (ex z + fl))).congr (ex' := exS ex z fl) (fun _ _ => rfl) (fun _ _ => rfl) (fun u hu => by
        unfold exS
        by_cases e1 : u = z
        · subst e1; simp [IntWalk.i64_left]
        · simp [e1]) (fun _ _ => rfl))
      generalize w3b.setCell ⟨w.heap.size + 3, z, none⟩ (.int .i64 (wrap64 (ex z + fl))) = w5 at *
      clear f1 hcH hcx hfx NS M3
      have NS := hide (M5.out.net (F := fun k => k = gr) HS.out (fun k e => .inl e))
      have f1 := NS.out.c1
      by_cases hp : 0 < fl
      · have hcH := sv_cell' NS.out.hd _ ham
        rw [hHD.out] at hcH
        unfold kn at hcH
        have SN2 := hide SN.out.2
        clear SN
        go_wp2_with fail
        refine (enq_any N SZ.out (w.heap.size + 6) w.heap.size (w.heap.size + 1) (w.heap.size + 5) (w.heap.size + 7) x qd q z w5 hzV M5.out.box M5.out.qst (by have := S.out.qok.len; omega)).mono ?_
        intro e w6 hE
        obtain ⟨rv, x', rfl, hM6⟩ := M5.out.enq hE
        have M6 := hide hM6
        have FIN : Hid (∃ (r : Nat → Int) (ex : Nat → Int) (qd : Nat → Bool) (q : List Nat) (x : Value), MS w w6 N Y gr r (fun v => if v = N.s then N.V else d v) ex (fun _ => 0) qd q x ∧ SI N r0 r ex qd q (j + 1)) := by
          refine ⟨_, _, _, _, _, M6.out, ?_⟩
          have h1 := SN2.out
          simp only [hp, decide_true, Bool.true_and] at h1
          exact h1
        clear hE hM6 M6 M5 SN2 NS f1 hcH
        go_wp2_with fail
        go_roundw
        case rel => exact ⟨j + 1, by omega, by go_num, FIN⟩
        case measure => simp [intOf]; omega
      · have FIN : Hid (∃ (r : Nat → Int) (ex : Nat → Int) (qd : Nat → Bool) (q : List Nat) (x : Value), MS w w5 N Y gr r (fun v => if v = N.s then N.V else d v) ex (fun _ => 0) qd q x ∧ SI N r0 r ex qd q (j + 1)) := by
          refine ⟨_, _, _, _, _, M5.out, ?_⟩
          have h1 := SN.out.2
          simp only [hp, decide_false, Bool.false_and, Bool.false_eq_true, false_and, if_false] at h1
          exact h1
        clear M5 SN NS f1
        go_wp2_with fail
        go_roundw
        case rel => exact ⟨j + 1, by omega, by go_num, FIN⟩
        case measure => simp [intOf]; omega
    · have hjn' : N.L N.s = j := by omega
      have PP : Hid (PR N r0 (fun _ => False) r (fun v => if v = N.s then N.V else d v) ex (fun _ => 0) qd q) := by
        have h1 := S.out
        rw [← hjn'] at h1
        exact h1.done OK.out CP.out DD.out
      clear hjn' hj S DD
      generalize (fun v => if v = N.s then N.V else d v) = h at *
      go_wp2_with fail
      clear hjn
      have hixA' := hide hixA
      clear hixA
      have LOOP : Hid (∃ μ, CutRel w wr N Y gr r0 μ) := ⟨_, r, h, ex, _, qd, q, x, rfl, M.out, PP.out⟩
      clear M PP
      go_loopw [17] (fun rl wr => (∃ n : Int, rl = .int .i64 n) ∧ ∃ μ, CutRel w wr N Y gr r0 μ) (fun _ wr => least (fun μ => CutRel w wr N Y gr r0 μ))
      case atStart => exact ⟨⟨0, rfl⟩, LOOP.out⟩
      case round =>
        obtain ⟨⟨rl, rfl⟩, hrel⟩ := hrel
        obtain ⟨hsp, _⟩ := least_spec hrel
        obtain ⟨μ0, hμ0⟩ : ∃ μ0, least (fun μ => CutRel w wr N Y gr r0 μ) = μ0 := ⟨_, rfl⟩
        rw [hμ0] at hsp
        obtain ⟨r, h, ex, cur, qd, q, x, hμ, hM, hP⟩ := hsp
        have MU := hide (And.intro hμ0 hμ)
        clear hμ0 hμ hrel LOOP
        have M := hide hM
        have P := hide hP
        clear hM hP
        have cb := M.out.qst.box.cell (i := 0) (by omega)
        have fb := M.out.qst.box.frozen 0
        cases q with
        | nil =>
          obtain ⟨a, c, hsh⟩ := M.out.qst.que.shape
          simp only [List.length_nil] at hsh
          subst hsh
          have ct := M.out.box.ct
          have hmk3 := fun w => run_make_row' (P := Try.prog) 32 4 (.bool false) 1 Try.underlying32 info4 rfl .i64 .i64 N.V (by omega) (by omega) w
          go_wp2_with fail
          refine (relab_any N OK.out SZ.out Y r (w.heap.size + 2) _ wr (M.out.net HS.out (fun k e => .inr (by omega))) (M.out.res.sv SZ.out.m) (fun x hx => by have := hRb.out x hx; omega) M.out.hh).mono ?_
          intro e w2 hpost
          obtain ⟨rv, d2, rfl, hD, hM2⟩ := M.out.swept hpost
          have D2 := hide hD
          have M2 := hide hM2
          clear hpost hD hM2 M ct cb fb
          go_wp2_with fail
          have ROW : Hid ((w2.alloc (.cells (madeCells #[.bool false] N.V) 4)).rowIs w2.heap.size 4 N.V (fun v => if v < 0 then .bool (decide (d2 v < N.V)) else .bool false)) := (World.rowIs_made w2 (.bool false) N.V 4).congr (fun i hi => by simp)
          have CH : Hid (Chg w2 (w2.alloc (.cells (madeCells #[.bool false] N.V) 4)) (fun _ => False)) := (Chg.refl _ _).alloc _
          go_loopw [273] (fun i wr => ∃ k : Nat, k ≤ N.V ∧ i = .int .i64 k ∧ Hid (wr.rowIs w2.heap.size 4 N.V (fun v => if v < k then .bool (decide (d2 v < N.V)) else .bool false)) ∧ Hid (Chg w2 wr (fun _ => False))) (fun i _ => N.V - (intOf i).toNat)
          case atStart => exact ⟨0, by omega, rfl, ROW, CH⟩
          case round =>
            obtain ⟨k, hk, rfl, RW, CC⟩ := hrel
            clear ROW CH
            have hs2 := M2.out.sz
            by_cases hkn : k < N.V
            · have hcd := RW.out.cell hkn
              have hfd := RW.out.frozen k
              rw [if_neg (by omega)] at hcd
              have hch : wr.cell? ⟨w.heap.size + 2, k, none⟩ = some (.int .i64 (d2 k : Nat)) := (M2.out.hh.of_block (CC.out.block _ (by omega) (fun h => h))).cell hkn
              have RW2 : Hid ((wr.setCell ⟨w2.heap.size, k, none⟩ (.bool (decide (d2 k < N.V)))).rowIs w2.heap.size 4 N.V (fun v => if v < k + 1 then .bool (decide (d2 v < N.V)) else .bool false)) := (RW.out.set k (.bool (decide (d2 k < N.V)))).congr (fun i hi => by
                by_cases e : i = k
                · subst e; simp
                · by_cases e2 : i < k
                  · simp [e, e2, show i < k + 1 by omega]
                  · simp [e, e2, show ¬ i < k + 1 by omega])
              have CC2 : Hid (Chg w2 (wr.setCell ⟨w2.heap.size, k, none⟩ (.bool (decide (d2 k < N.V)))) (fun _ => False)) := Chg.setCell (p := ⟨w2.heap.size, k, none⟩) CC.out (fun h => by simp at h) _
              generalize d2 k = dk at *
              go_wp2_with fail
              go_roundw
              case rel => exact ⟨k + 1, by omega, by go_num, by simpa using RW2, by simpa using CC2⟩
              case measure => simp [intOf]; omega
            · have FIN : Hid (CutPost w wr N Y gr r0 (.returned (.slice (some ⟨w2.heap.size, 0, none⟩) N.V N.V))) := by
                refine ⟨r, h, ex, cur, qd, d2, w2.heap.size, rfl, by omega, P.out, D2.out, RW.out.congr (fun i hi => by rw [if_pos (by omega)]), M2.out.res.of_block (CC.out.block _ (by have := M2.out.gr; omega) (fun h => h)), M2.out.chg.trans' CC.out (fun _ _ h => h.elim)⟩
              go_wp2_with fail
              go_ret
              exact FIN.out
        | cons y q' =>
          obtain ⟨a, c, hsh⟩ := M.out.qst.que.shape
          simp only [List.length_cons] at hsh
          subst hsh
          obtain ⟨v', hpop, hq', hown'⟩ := M.out.qst.que.pop
          obtain ⟨a', c', hsh'⟩ := hq'.shape
          subst hsh'
          have hsv := M.out.qst.que.sv (by have := P.out.qok.len; omega)
          simp only [List.length_cons] at hsv
          have hixq := fun w' ii h0 hi => idx_any (P := Try.prog) Try.underlying30 sz3 (n := q'.length + 1) (a := a) c (sv_some' hsv) w' ii h0 hi
          have hcq := sv_cell' hsv 0 (by omega)
          simp only [List.getD_cons_zero] at hcq
          unfold kn at hcq
          clear hsv
          obtain ⟨hyV, hys, hyt⟩ := P.out.qok.mem y (by simp)
          have hq1 : (0 : Int) < (q'.length : Int) + 1 := by omega
          go_upto_region 24 with fail
          have M2 := hide (M.out.pop hq' hown')
          generalize wr.setCell ⟨w.heap.size + 7, 0, none⟩ (.slice a' q'.length c') = w2 at *
          clear hpop hq' hown' hixq hcq cb fb M
          have cq := M2.out.box.cq
          have cd := M2.out.qst.row.cell hyV
          have fd := M2.out.qst.row.frozen y
          generalize qd y = qdy at *
          go_wp2_with fail
          have DIS : Hid (∃ ν, DisRel w (w2.setCell ⟨w.heap.size + 5, y, none⟩ (.bool false)) N Y gr r0 y (mA N h) (mP N h ex) q'.length ν) := ⟨_, r, h, ex, cur, _, _, _, rfl, M2.out.unmark y, P.out.pop, Lex.refl _ _ _⟩
          clear M2 cq cd fd
          have PO := hide P.out
          generalize hmA : mA N h = A0 at *
          generalize hmP : mP N h ex = P0 at *
          have MAP := hide (And.intro hmA hmP)
          clear hmA hmP
          have hLy := SZ.out.L y hyV
          go_loopw [17] (fun rl wr => (∃ n : Int, rl = .int .i64 n) ∧ ∃ ν, DisRel w wr N Y gr r0 y A0 P0 q'.length ν) (fun _ wr => least (fun ν => DisRel w wr N Y gr r0 y A0 P0 q'.length ν))
          case atStart => exact ⟨⟨_, rfl⟩, DIS.out⟩
          case round =>
            obtain ⟨⟨rl', rfl⟩, hrel⟩ := hrel
            obtain ⟨hsp, _⟩ := least_spec hrel
            obtain ⟨ν0, hν0⟩ : ∃ ν0, least (fun ν => DisRel w wr N Y gr r0 y A0 P0 q'.length ν) = ν0 := ⟨_, rfl⟩
            rw [hν0] at hsp
            obtain ⟨r1, h1, ex1, cur1, qd1, q1, x1, hν, hM, hP1, hlex⟩ := hsp
            have NU := hide (And.intro hν0 hν)
            have M := hide hM
            have P1 := hide hP1
            have LX := hide hlex
            clear hν0 hν hrel DIS hM hP1 hlex
            have cx := M.out.hx.cell hyV
            have chy := M.out.hh.cell hyV
            unfold kn at chy
            have hgr := HG.out
            by_cases hact : 0 < ex1 y ∧ h1 y < N.V
            · obtain ⟨hx0, hhV⟩ := hact
              have cc := M.out.hc.cell hyV
              unfold kn at cc
              have NS := hide (M.out.net (F := fun k => k = gr) HS.out (fun k e => .inl e))
              have f0 := NS.out.c0
              have hixA := hixA'.out
              have hcA := sv_cell' NS.out.top y hyV
              have hcl := P1.out.cl y hyV
              obtain ⟨cy, hcy⟩ : ∃ cy, cur1 y = cy := ⟨_, rfl⟩
              obtain ⟨exy, hexy⟩ : ∃ exy, ex1 y = exy := ⟨_, rfl⟩
              obtain ⟨hy1, hhy1⟩ : ∃ hy1, h1 y = hy1 := ⟨_, rfl⟩
              rw [hcy] at cc hcl
              rw [hexy] at hx0 cx
              rw [hhy1] at hhV chy
              have EQ := hide (And.intro hcy (And.intro hexy hhy1))
              clear hcy hexy hhy1
              by_cases hcu : cy = N.L y
              · as_aux_lemma =>
                have hcI : (cy : Int) = (N.L y : Int) := by omega
                have HCU := hide hcu
                clear hcu
                go_wp2_with fail
                go_quiet (fail)
                have M2 := hide (M.out.drewN nq)
                generalize wr.drewN nq = wq at *
                clear M cc f0 hcA NS cx chy
                have NS := hide (M2.out.net (F := fun k => k = gr) HS.out (fun k e => .inl e))
                go_wp2_with fail
                refine (lowest_any N OK.out SZ.out Y r1 h1 (w.heap.size + 2) y (fun k => k = gr) wq NS.out (M2.out.res.sv SZ.out.m) M2.out.hh hyV).mono ?_
                rintro e wq' ⟨low, rfl, hLI, rfl⟩
                have PRL := hide (P1.out.relabel (low := low) OK.out hyV hys hyt (by rw [EQ.out.1]; exact HCU.out) (by rw [EQ.out.2.2]; exact hhV) hLI.top hLI.le hLI.at_)
                have htop := hLI.top
                clear hLI NS
                have ch := M2.out.hh.cell hyV
                have fh := M2.out.hh.frozen y
                unfold kn at ch
                rw [EQ.out.2.2] at ch
                go_upto_region 28 with fail
                have M3 : Hid (MS w (wq'.setCell ⟨w.heap.size + 2, y, none⟩ (.int .i64 ((low : Int) + 1))) N Y gr r1 (fun u => if u = y then low + 1 else h1 u) ex1 cur1 qd1 q1 x1) := M2.out.setH y (low + 1)
                generalize wq'.setCell ⟨w.heap.size + 2, y, none⟩ (.int .i64 ((low : Int) + 1)) = w5 at *
                clear ch fh M2
                have cc := M3.out.hc.cell hyV
                have fc := M3.out.hc.frozen y
                unfold kn at cc
                rw [EQ.out.1] at cc
                have M4 : Hid (MS w (w5.setCell ⟨w.heap.size + 4, y, none⟩ (.int .i64 0)) N Y gr r1 (fun u => if u = y then low + 1 else h1 u) ex1 (fun u => if u = y then 0 else cur1 u) qd1 q1 x1) := M3.out.setC y 0
                have REL : Hid (DisRel w (w5.setCell ⟨w.heap.size + 4, y, none⟩ (.int .i64 0)) N Y gr r0 y A0 P0 q'.length (nu N r1 (fun v => if v = y then low + 1 else h1 v) ex1 (fun v => if v = y then 0 else cur1 v) y)) :=
                  ⟨r1, _, ex1, _, qd1, q1, x1, rfl, M4.out, PRL.out.2, by
                    have h2 := lex_relabel (N := N) (h := h1) hyV PRL.out.1
                    have h3 := LX.out
                    unfold Lex at h3 ⊢
                    omega⟩
                have SM : Hid (nu N r1 (fun v => if v = y then low + 1 else h1 v) ex1 (fun v => if v = y then 0 else cur1 v) y < ν0) := by
                  rw [NU.out.2]
                  exact nu_relabel hLy PRL.out.1 htop
                clear M3 M4 PRL
                go_wp2_with fail
                generalize w5.setCell ⟨w.heap.size + 4, y, none⟩ (.int .i64 0) = w6 at *
                go_roundw
                case rel => exact ⟨⟨_, rfl⟩, _, REL.out⟩
                case measure =>
                  have h1 := (least_spec (p := fun ν => DisRel w w6 N Y gr r0 y A0 P0 q'.length ν) ⟨_, REL.out⟩).2 _ REL.out
                  have h2 := SM.out
                  have h3 := NU.out.1
                  omega
              · as_aux_lemma =>
                have hcI : ¬ ((cy : Int) = (N.L y : Int)) := by omega
                have hcL : cy < N.L y := by omega
                clear hcu
                obtain ⟨ham, hat⟩ := OK.out.arc y cy hyV hcL
                have hzV := OK.out.hd _ ham
                have htm := tw_lt OK.out.even ham
                have hxor := xor_i64 (N.arc y cy) (by have := SZ.out.m; omega)
                have hmm := SZ.out.m
                have hixY := fun w' ii h0 hi => idx_any (P := Try.prog) Try.underlying30 sz3 (n := N.L y) (a := Y.A y) (Y.C y) (sv_some' (HS.out.row y hyV)) w' ii h0 hi
                have hcY := sv_cell' (NS.out.row y hyV) cy hcL
                have hixH := fun w' ii h0 hi => idx_any (P := Try.prog) Try.underlying30 sz3 (n := N.m) (a := Y.aH) Y.cH (sv_some' HS.out.hd) w' ii h0 hi
                have hcH := sv_cell' NS.out.hd _ ham
                obtain ⟨eR, hrow⟩ := M.out.res (by omega)
                have f1 := NS.out.c1
                have f2 := NS.out.c2
                rw [eR] at f2
                have hcr := hrow.cell ham
                have hfr := hrow.frozen (N.arc y cy)
                have chz := M.out.hh.cell hzV
                unfold kn at hcY hcH chz
                clear hrow
                obtain ⟨ar, har⟩ : ∃ ar, N.arc y cy = ar := ⟨_, rfl⟩
                obtain ⟨z, hz⟩ : ∃ z, N.hd ar = z := ⟨_, rfl⟩
                obtain ⟨rt, hrt⟩ : ∃ rt, r1 ar = rt := ⟨_, rfl⟩
                obtain ⟨hz1, hhz1⟩ : ∃ hz1, h1 z = hz1 := ⟨_, rfl⟩
                rw [har] at ham hat hzV htm hxor hcY hcH hcr hfr chz
                rw [hz] at hzV hcH chz
                rw [hrt] at hcr
                rw [hhz1] at chz
                have hrt0 : 0 ≤ rt := by rw [← hrt]; exact P1.out.rn ar ham
                have hzl : hz1 ≤ N.V := by rw [← hhz1]; exact P1.out.hV z hzV
                have EQ2 := hide (And.intro har (And.intro hz (And.intro hrt hhz1)))
                clear har hz hrt hhz1
                have hgp : w.heap.size + 2 ≠ gr := by omega
                by_cases hadm : 0 < rt ∧ hy1 = hz1 + 1
                · as_aux_lemma =>
                  obtain ⟨hr0, hadm⟩ := hadm
                  have h0b : (rt == 0) = false := by simp; omega
                  have hneb : ((hy1 : Int) != (hz1 : Int) + 1) = false := by simp; omega
                  have hmin := fun a b ty w => min_run 2 a b ty w
                  have PU := hide (P1.out.push (f := min exy rt) (a := ar) OK.out hyV hys ham hat (by rw [EQ.out.2.2, EQ2.out.2.1, EQ2.out.2.2.2]; exact hadm) (by omega) (by rw [EQ.out.2.1]; omega) (by rw [EQ2.out.2.2.1]; omega) _ rfl)
                  rw [EQ2.out.2.1] at PU
                  obtain ⟨r2, hr2⟩ : ∃ r2, r1 (tw ar) = r2 := ⟨_, rfl⟩
                  obtain ⟨exz, hexz⟩ : ∃ exz, ex1 z = exz := ⟨_, rfl⟩
                  have hr20 : 0 ≤ r2 := by rw [← hr2]; exact P1.out.rn _ htm
                  have hr2s : r2 + rt ≤ 9223372036854775807 := by
                    have h1 := P1.out.rp ar ham
                    have h2 := CP.out.two ar ham
                    rw [EQ2.out.2.2.1, hr2] at h1
                    omega
                  obtain ⟨hzy, hzs, hexs, _⟩ := PU.out
                  have hexz0 : 0 ≤ exz := by rw [← hexz]; exact P1.out.xn z hzV hzs
                  rw [hexz] at hexs
                  have hexm : exy ≤ 9223372036854775807 := by
                    have h1 := sm_ge (xo_nn P1.out.xn) hyV
                    have h2 : xo N ex1 y = exy := by simp [xo, hys, EQ.out.2.1]
                    have h3 := P1.out.xs
                    omega
                  have EQ3 := hide (And.intro hr2 hexz)
                  clear hr2 hexz
                  go_wp2_with fail
                  go_quiet (fail)
                  obtain ⟨n1, hn1⟩ : ∃ n1, n1 = nq := ⟨_, rfl⟩
                  subst hn1
                  go_wp2_with fail
                  go_quiet (fail)
                  obtain ⟨n2, hn2⟩ : ∃ n2, n2 = nq := ⟨_, rfl⟩
                  subst hn2
                  go_wp2_with fail
                  go_quiet (fail)
                  obtain ⟨n3, hn3⟩ : ∃ n3, n3 = nq := ⟨_, rfl⟩
                  subst hn3
                  go_wp2_with fail
                  go_quiet (fail)
                  obtain ⟨n4, hn4⟩ : ∃ n4, n4 = nq := ⟨_, rfl⟩
                  subst hn4
                  go_upto_region 35 with fail
                  have M2 := hide (((M.out.drewN (n1 + n2)).drewN n3).drewN n4)
                  generalize (((wr.drewN (n1 + n2)).drewN n3).drewN n4) = wq at *
                  clear M f0 f1 f2 hcA hcY hcH hcr hfr chz chy cc cx NS hixA
                  have hfl1 : 0 < min exy rt := by omega
                  have hfl2 : min exy rt ≤ exy := by omega
                  have hfl3 : min exy rt ≤ rt := by omega
                  have hfl4 : Hid (min exy rt = exy ∨ min exy rt = rt) := by unfold Hid; omega
                  generalize min exy rt = fl at *
                  have hta : tw ar ≠ ar := tw_ne ar
                  have NS := hide (M2.out.net (F := fun k => k = gr) HS.out (fun k e => .inl e))
                  have f2 := NS.out.c2
                  rw [eR] at f2
                  obtain ⟨_, hrow⟩ := M2.out.res (by omega)
                  have hcr := hrow.cell ham
                  have hfr := hrow.frozen ar
                  rw [EQ2.out.2.2.1] at hcr
                  clear hrow
                  go_upto_region 36 with fail
                  have M3 := hide (M2.out.setR ar (rt - fl))
                  generalize wq.setCell ⟨gr, ar, none⟩ (.int .i64 (rt - fl)) = w5 at *
                  clear f2 hcr hfr NS M2
                  have NS := hide (M3.out.net (F := fun k => k = gr) HS.out (fun k e => .inl e))
                  have f2 := NS.out.c2
                  rw [eR] at f2
                  obtain ⟨_, hrow⟩ := M3.out.res (by omega)
                  have hcr := hrow.cell htm
                  have hfr := hrow.frozen (tw ar)
                  simp only [if_neg hta, EQ3.out.1] at hcr
                  clear hrow
                  generalize htw : tw ar = ta at *
                  go_upto_region 37 with fail
                  have M4 := hide ((M3.out.setR ta (r2 + fl)).congr (r' := upd (upd r1 ar (-fl)) ta fl) (fun u hu => by
                    unfold upd
                    by_cases e1 : u = ta
                    · subst e1; simp [hta, EQ3.out.1]
                    · by_cases e2 : u = ar
                      · subst e2; simp [e1, EQ2.out.2.2.1]; omega
                      · simp [e1, e2]) (fun _ _ => rfl) (fun _ _ => rfl) (fun _ _ => rfl))
                  generalize w5.setCell ⟨gr, ta, none⟩ (.int .i64 (r2 + fl)) = w6 at *
                  clear f2 hcr hfr NS M3
                  have cx := M4.out.hx.cell hyV
                  have fx := M4.out.hx.frozen y
                  rw [EQ.out.2.1] at cx
                  go_upto_region 38 with fail
                  have M5 := hide (M4.out.setX y (exy - fl))
                  generalize w6.setCell ⟨w.heap.size + 3, y, none⟩ (.int .i64 (exy - fl)) = w7 at *
                  clear cx fx M4
                  have cx := M5.out.hx.cell hzV
                  have fx := M5.out.hx.frozen z
                  simp only [if_neg hzy, EQ3.out.2] at cx
                  go_upto_region 39 with fail
                  have M6 := hide ((M5.out.setX z (exz + fl)).congr (ex' := upd (upd ex1 y (-fl)) z fl) (fun _ _ => rfl) (fun _ _ => rfl) (fun u hu => by
                    unfold upd
                    by_cases e1 : u = z
                    · subst e1; simp [hzy, EQ3.out.2]
                    · by_cases e2 : u = y
                      · subst e2; simp [e1, EQ.out.2.1]; omega
                      · simp [e1, e2]) (fun _ _ => rfl))
                  generalize w7.setCell ⟨w.heap.size + 3, z, none⟩ (.int .i64 (exz + fl)) = w8 at *
                  clear cx fx M5
                  go_wp2_with fail
                  refine (enq_any N SZ.out (w.heap.size + 6) w.heap.size (w.heap.size + 1) (w.heap.size + 5) (w.heap.size + 7) x1 qd1 q1 z w8 hzV M6.out.box M6.out.qst (by have := P1.out.qok.len; omega)).mono ?_
                  intro e w9 hE
                  obtain ⟨rv9, x9, rfl, hM9⟩ := M6.out.enq hE
                  have REL : Hid (DisRel w w9 N Y gr r0 y A0 P0 q'.length (nu N (upd (upd r1 ar (-fl)) ta fl) h1 (upd (upd ex1 y (-fl)) z fl) cur1 y)) := by
                    refine ⟨_, _, _, _, _, _, _, rfl, hM9, PU.out.2.2.2, ?_⟩
                    have h2 := lex_push (N := N) (h := h1) (ex := ex1) (f := fl) hyV hzV hzy hys hzs (by rw [EQ.out.2.2, EQ2.out.2.2.2]; exact hadm)
                    have h3 := LX.out
                    unfold Lex at h3 ⊢
                    omega
                  have SM : Hid (nu N (upd (upd r1 ar (-fl)) ta fl) h1 (upd (upd ex1 y (-fl)) z fl) cur1 y < ν0) := by
                    rw [NU.out.2]
                    refine nu_push (by rw [EQ.out.2.1]; exact hx0) (by rw [EQ.out.1, EQ2.out.1, EQ2.out.2.2.1]; exact hr0) ?_
                    rw [EQ.out.1, EQ2.out.1]
                    rcases hfl4.out with e | e
                    · left
                      simp [upd, hzy.symm, EQ.out.2.1]; omega
                    · right
                      simp [upd, hta.symm, EQ2.out.2.2.1]; omega
                  clear hE hM9 M6 PU
                  go_wp2_with fail
                  go_roundw
                  case rel => exact ⟨⟨_, rfl⟩, _, REL.out⟩
                  case measure =>
                    have h1 := least_le (p := fun ν => DisRel w w9 N Y gr r0 y A0 P0 q'.length ν) REL.out
                    have h2 := SM.out
                    have h3 := NU.out.1
                    omega
                · as_aux_lemma =>
                  have SK := hide (P1.out.skip OK.out hyV hys (by rw [EQ.out.1]; exact hcL) (by
                    rw [EQ.out.1, EQ2.out.1, EQ2.out.2.1, EQ2.out.2.2.1, EQ2.out.2.2.2, EQ.out.2.2]
                    by_cases h0 : rt = 0
                    · exact .inl h0
                    · exact .inr (fun h => hadm ⟨by omega, h⟩)))
                  have fc := M.out.hc.frozen y
                  have REL : Hid (∀ n, DisRel w ((wr.drewN n).setCell ⟨w.heap.size + 4, y, none⟩ (.int .i64 ((cy : Int) + 1))) N Y gr r0 y A0 P0 q'.length (nu N r1 h1 ex1 (fun v => if v = y then cur1 y + 1 else cur1 v) y)) := fun n =>
                    ⟨r1, h1, ex1, _, qd1, q1, x1, rfl, by
                      have h1 := (M.out.drewN n).setC y (cy + 1)
                      rw [EQ.out.1]
                      exact h1, SK.out, LX.out⟩
                  have SM : Hid (nu N r1 h1 ex1 (fun v => if v = y then cur1 y + 1 else cur1 v) y < ν0) := by
                    rw [NU.out.2]
                    exact nu_skip (by rw [EQ.out.1]; exact hcL) (by rw [EQ.out.2.1]; exact hx0)
                  by_cases h0 : rt = 0
                  · subst h0
                    clear hadm
                    go_wp2_with fail
                    go_quiet (fail)
                    go_wp2_with fail
                    go_quiet (fail)
                    go_wp2_with fail
                    go_quiet (fail)
                    go_wp2_with fail
                    refine ⟨⟨⟨_, rfl⟩, _, REL.out _⟩, Nat.lt_of_le_of_lt (least_le (REL.out _)) ?_⟩
                    rw [NU.out.1]
                    exact SM.out
                  · have hne : ¬ ((hy1 : Int) = (hz1 : Int) + 1) := fun h => hadm ⟨by omega, by omega⟩
                    have hneb : ((hy1 : Int) != (hz1 : Int) + 1) = true := by simpa using hne
                    have h0b : (rt == 0) = false := by simp [h0]
                    clear hadm hne
                    go_wp2_with fail
                    go_quiet (fail)
                    go_wp2_with fail
                    go_quiet (fail)
                    go_wp2_with fail
                    go_quiet (fail)
                    go_wp2_with fail
                    refine ⟨⟨⟨_, rfl⟩, _, REL.out _⟩, Nat.lt_of_le_of_lt (least_le (REL.out _)) ?_⟩
                    rw [NU.out.1]
                    exact SM.out
            · as_aux_lemma =>
              have PD := hide (P1.out.done (x := y) (by
                by_cases hx0 : 0 < ex1 y
                · exact .inr (Nat.le_of_not_lt (fun h => hact ⟨hx0, h⟩))
                · exact .inl (by omega)))
              have LT : Hid (∀ {h2 : Nat → Nat} {ex2 : Nat → Int} {r2 : Nat → Int} {cur2 : Nat → Nat} {qd2 : Nat → Bool} {q2 : List Nat}, PR N r0 (fun _ => False) r2 h2 ex2 cur2 qd2 q2 → Lex A0 P0 q'.length (mA N h2) (mP N h2 ex2) q2.length → mu N h2 ex2 q2 < μ0) := fun {h2 ex2 r2 cur2 qd2 q2} hP2 hl => by
                rw [MU.out.2]
                refine mu_lt PO.out hP2 (by omega) (n := q'.length) (by simp) ?_
                rw [MAP.out.1, MAP.out.2]
                exact hl
              by_cases hx0 : 0 < ex1 y
              · have hhV : ¬ ((h1 y : Int) < (N.V : Int)) := by
                  intro h
                  exact hact ⟨hx0, by omega⟩
                clear hact
                by_cases hrl : (N.V : Int) ≤ rl'
                · have ct := M.out.box.ct
                  generalize hexy : ex1 y = exy at hx0 cx
                  generalize hhy1 : h1 y = hy1 at hhV chy
                  clear hexy hhy1
                  go_wp2_with fail
                  refine (relab_any N OK.out SZ.out Y r1 (w.heap.size + 2) _ wr (M.out.net HS.out (fun k e => .inr (by omega))) (M.out.res.sv SZ.out.m) (fun x hx => by have := hRb.out x hx; omega) M.out.hh).mono ?_
                  intro e w2 hpost
                  obtain ⟨rv2, d2, rfl, hD, hM2⟩ := M.out.swept hpost
                  have M2 := hide hM2
                  have SW := hide (PD.out.sweep OK.out hD)
                  clear hpost hD hM2 M ct cx chy
                  have cs := M2.out.box.cs
                  have ch := M2.out.hh.cell hs
                  have fh := M2.out.hh.frozen N.s
                  unfold kn at ch
                  go_upto_region 44 with fail
                  have M3 := hide (M2.out.setH N.s N.V)
                  generalize w2.setCell ⟨w.heap.size + 2, N.s, none⟩ (.int .i64 (N.V : Nat)) = w3c at *
                  clear cs ch fh M2
                  have hcl : ∀ ty, (Builtin.clear_ #[30] ty #[.slice (some ⟨w.heap.size + 4, 0, none⟩) N.V N.V]).run Try.prog w3c = .ok (.tuple #[]) (w3c.setCells (w.heap.size + 4) 0 (List.replicate N.V (.int .i64 0))) := fun ty => Lib.run_clear_slice w3c 30 3 ty (.int .i64 0) Try.underlying30 zero3 rfl rfl (w.heap.size + 4) 0 N.V N.V (by omega) (fun j hj => by rw [Nat.zero_add, M3.out.hc.cell hj]; rfl) (fun j hj => by rw [Nat.zero_add]; exact M3.out.hc.frozen j)
                  have REL : Hid (CutRel w (w3c.setCells (w.heap.size + 4) 0 (List.replicate N.V (.int .i64 0))) N Y gr r0 (mu N (fun v => if v = N.s then N.V else d2 v) ex1 q1)) := ⟨r1, _, ex1, _, qd1, q1, x1, rfl, M3.out.clear, SW.out.2⟩
                  have SM : Hid (mu N (fun v => if v = N.s then N.V else d2 v) ex1 q1 < μ0) := LT.out SW.out.2 (by
                    have h1 := LX.out
                    have h2 := lex_sweep (ex := ex1) SW.out.1
                    unfold Lex at h1 ⊢
                    omega)
                  clear M3 SW
                  generalize w3c.setCells (w.heap.size + 4) 0 (List.replicate N.V (.int .i64 0)) = w4 at *
                  go_wp2_with fail
                  go_roundw
                  case rel => exact ⟨⟨0, rfl⟩, _, REL.out⟩
                  case measure =>
                    have h1 := (least_spec (p := fun μ => CutRel w w4 N Y gr r0 μ) ⟨_, REL.out⟩).2 _ REL.out
                    have h2 := SM.out
                    have h3 := MU.out.1
                    omega
                · have REL : Hid (CutRel w wr N Y gr r0 (mu N h1 ex1 q1)) := ⟨r1, h1, ex1, _, qd1, q1, x1, rfl, M.out, PD.out⟩
                  have SM : Hid (mu N h1 ex1 q1 < μ0) := LT.out PD.out LX.out
                  clear M
                  generalize hexy : ex1 y = exy at hx0 cx
                  generalize hhy1 : h1 y = hy1 at hhV chy
                  clear hexy hhy1
                  go_wp2_with fail
                  go_roundw
                  case rel => exact ⟨⟨_, rfl⟩, _, REL.out⟩
                  case measure =>
                    have h1 := (least_spec (p := fun μ => CutRel w wr N Y gr r0 μ) ⟨_, REL.out⟩).2 _ REL.out
                    have h2 := SM.out
                    have h3 := MU.out.1
                    omega
              · clear hact
                by_cases hrl : (N.V : Int) ≤ rl'
                · have ct := M.out.box.ct
                  generalize hexy : ex1 y = exy at hx0 cx
                  clear hexy
                  go_wp2_with fail
                  refine (relab_any N OK.out SZ.out Y r1 (w.heap.size + 2) _ wr (M.out.net HS.out (fun k e => .inr (by omega))) (M.out.res.sv SZ.out.m) (fun x hx => by have := hRb.out x hx; omega) M.out.hh).mono ?_
                  intro e w2 hpost
                  obtain ⟨rv2, d2, rfl, hD, hM2⟩ := M.out.swept hpost
                  have M2 := hide hM2
                  have SW := hide (PD.out.sweep OK.out hD)
                  clear hpost hD hM2 M ct cx chy
                  have cs := M2.out.box.cs
                  have ch := M2.out.hh.cell hs
                  have fh := M2.out.hh.frozen N.s
                  unfold kn at ch
                  go_upto_region 44 with fail
                  have M3 := hide (M2.out.setH N.s N.V)
                  generalize w2.setCell ⟨w.heap.size + 2, N.s, none⟩ (.int .i64 (N.V : Nat)) = w3c at *
                  clear cs ch fh M2
                  have hcl : ∀ ty, (Builtin.clear_ #[30] ty #[.slice (some ⟨w.heap.size + 4, 0, none⟩) N.V N.V]).run Try.prog w3c = .ok (.tuple #[]) (w3c.setCells (w.heap.size + 4) 0 (List.replicate N.V (.int .i64 0))) := fun ty => Lib.run_clear_slice w3c 30 3 ty (.int .i64 0) Try.underlying30 zero3 rfl rfl (w.heap.size + 4) 0 N.V N.V (by omega) (fun j hj => by rw [Nat.zero_add, M3.out.hc.cell hj]; rfl) (fun j hj => by rw [Nat.zero_add]; exact M3.out.hc.frozen j)
                  have REL : Hid (CutRel w (w3c.setCells (w.heap.size + 4) 0 (List.replicate N.V (.int .i64 0))) N Y gr r0 (mu N (fun v => if v = N.s then N.V else d2 v) ex1 q1)) := ⟨r1, _, ex1, _, qd1, q1, x1, rfl, M3.out.clear, SW.out.2⟩
                  have SM : Hid (mu N (fun v => if v = N.s then N.V else d2 v) ex1 q1 < μ0) := LT.out SW.out.2 (by
                    have h1 := LX.out
                    have h2 := lex_sweep (ex := ex1) SW.out.1
                    unfold Lex at h1 ⊢
                    omega)
                  clear M3 SW
                  generalize w3c.setCells (w.heap.size + 4) 0 (List.replicate N.V (.int .i64 0)) = w4 at *
                  go_wp2_with fail
                  go_roundw
                  case rel => exact ⟨⟨0, rfl⟩, _, REL.out⟩
                  case measure =>
                    have h1 := (least_spec (p := fun μ => CutRel w w4 N Y gr r0 μ) ⟨_, REL.out⟩).2 _ REL.out
                    have h2 := SM.out
                    have h3 := MU.out.1
                    omega
                · have REL : Hid (CutRel w wr N Y gr r0 (mu N h1 ex1 q1)) := ⟨r1, h1, ex1, _, qd1, q1, x1, rfl, M.out, PD.out⟩
                  have SM : Hid (mu N h1 ex1 q1 < μ0) := LT.out PD.out LX.out
                  clear M
                  generalize hexy : ex1 y = exy at hx0 cx
                  clear hexy
                  go_wp2_with fail
                  go_roundw
                  case rel => exact ⟨⟨_, rfl⟩, _, REL.out⟩
                  case measure =>
                    have h1 := (least_spec (p := fun μ => CutRel w wr N Y gr r0 μ) ⟨_, REL.out⟩).2 _ REL.out
                    have h2 := SM.out
                    have h3 := MU.out.1
                    omega
end Go.Proofs.Qxb6602686a
