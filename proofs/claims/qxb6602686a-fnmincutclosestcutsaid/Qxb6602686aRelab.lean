import Derived.Test.Qxb6602686aNetW
import Derived.Deep.CutRange
namespace Go.Proofs.Qxb6602686a
open Go.RowKit

/-- the sweep's state in memory -/
structure SwAt (w wr : World) (N : Net) (gh : Nat) (h : Nat → Nat) (v : Value) (q : List Nat) : Prop where
  chg : Chg w wr (fun k => k = gh)
  row : wr.rowIs gh 3 N.V (fun x => kn (h x))
  que : Que wr v q
  own : ∀ g, v.ownBlock = some g → w.heap.size ≤ g
def SwRel (w wr : World) (N : Net) (r : Nat → Int) (gh : Nat) (v : Value) (μ : Nat) : Prop := ∃ D q h, μ + D.length = N.V ∧ SwAt w wr N gh h v q ∧ Bfs N r h D q
def RelPost (w w' : World) (N : Net) (r : Nat → Int) (gh : Nat) (e : Ending) : Prop :=
  ∃ v d, e = .returned v ∧ Dist N r d ∧ w'.rowIs gh 3 N.V (fun x => kn (d x)) ∧ Chg w w' (fun k => k = gh)

set_option maxHeartbeats 4000000 in
set_option maxRecDepth 100000 in
theorem relab_any (N : Net) (ok : NetOk N) (sz : NetSz N) (Y : Lay) (r : Nat → Int) (gh : Nat) (f0 : Nat → Value) (w : World) (hS : NetS w N Y (fun k => k = gh))
    (hR : SV w (.slice Y.aR N.m Y.cR) N.m (fun a => .int .i64 (r a))) (hRn : ∀ x, Y.aR = some x → x.block ≠ gh) (hrow : w.rowIs gh 3 N.V f0) :
    Calls Try.prog 29 #[.pointer (some ⟨Y.p, 0, none⟩), .slice (some ⟨gh, 0, none⟩) N.V N.V, .int .i64 (N.t : Nat)] w fun e w' => RelPost w w' N r gh e := by
  have HS := hide hS
  have HR := hide (And.intro hR hRn)
  have OK := hide ok
  have SZ := hide sz
  have HW := hide hrow
  have c0 := hS.c0
  have hV := sz.V
  have ht := ok.t
  have hne : gh ≠ Y.p := fun e => hS.np e.symm
  clear hS hR hRn ok sz hrow
  go_enter Try.func29, Try.ntmps29
  go_wp2_with fail
  go_loopw [20] (fun i wr => ∃ k : Nat, k ≤ N.V ∧ i = .int .i64 k ∧ Hid (Chg w wr (fun k => k = gh)) ∧ Hid (wr.rowIs gh 3 N.V (fun x => if x < k then kn N.V else f0 x))) (fun i _ => N.V - (intOf i).toNat)
  case atStart => exact ⟨0, by omega, rfl, hide (Chg.refl _ _), hide (HW.out.congr (fun i hi => by simp))⟩
  case round =>
    obtain ⟨k, hk, rfl, HC, HK⟩ := hrel
    by_cases hkn : k < N.V
    · have hcell := HK.out.cell hkn
      have hfr := HK.out.frozen k
      rw [if_neg (by omega)] at hcell
      have HC2 : Hid (Chg w (wr.setCell ⟨gh, k, none⟩ (.int .i64 (N.V : Nat))) (fun k => k = gh)) := Chg.setCell (p := ⟨gh, k, none⟩) HC.out (fun _ => rfl) _
      have HK2 : Hid ((wr.setCell ⟨gh, k, none⟩ (.int .i64 (N.V : Nat))).rowIs gh 3 N.V (fun x => if x < k + 1 then kn N.V else f0 x)) := hide ((HK.out.set k (.int .i64 (N.V : Nat))).congr (fun i hi => by
        by_cases e : i = k
        · subst e; simp [kn]
        · by_cases e2 : i < k
          · simp [e, e2, show i < k + 1 by omega]
          · simp [e, e2, show ¬ i < k + 1 by omega]))
      generalize f0 k = old at *
      go_wp2_with fail
      go_roundw
      case rel => exact ⟨k + 1, by omega, by go_num, HC2, HK2⟩
      case measure => simp [intOf]; omega
    · have hkn' : N.V = k := by omega
      have hcell := HK.out.cell ht
      have hfr := HK.out.frozen N.t
      rw [if_pos (by omega)] at hcell
      unfold kn at hcell
      have HC2 : Hid (Chg w (wr.setCell ⟨gh, N.t, none⟩ (.int .i64 0)) (fun k => k = gh)) := Chg.setCell (p := ⟨gh, N.t, none⟩) HC.out (fun _ => rfl) _
      have HK2 : Hid ((wr.setCell ⟨gh, N.t, none⟩ (.int .i64 0)).rowIs gh 3 N.V (fun x => kn (if x = N.t then 0 else N.V))) := hide ((HK.out.set N.t (.int .i64 0)).congr (fun i hi => by
        by_cases e : i = N.t
        · simp [e, kn]
        · simp [e, show i < k by omega]))
      have hgw : Hid (gh < w.heap.size) := HW.out.lt
      go_upto_region 7 with fail
      generalize wr.setCell ⟨gh, N.t, none⟩ (.int .i64 0) = w1 at *
      have QS : Hid (∃ μ, SwRel w (w1.alloc (.cells #[.int .i64 (N.t : Nat)] 3)) N r gh (.slice (some ⟨w1.heap.size, 0, none⟩) 1 1) μ) := by
        refine ⟨N.V, [], [N.t], fun x => if x = N.t then 0 else N.V, by simp, ⟨HC2.out.alloc _, HK2.out.alloc _, Que.one w1 N.t, fun g hg => ?_⟩, Bfs.start OK.out r _ (by simp) (fun v _ hv => by simp [hv])⟩
        have : g = w1.heap.size := by simpa [Value.ownBlock] using hg.symm
        have := HC2.out.size
        omega
      clear hcell hfr HC HK HC2 HK2 hkn hkn' hk
      go_wp2_with fail
      go_loopw [8] (fun x wr => ∃ μ, SwRel w wr N r gh x μ) (fun x wr => least (fun μ => SwRel w wr N r gh x μ))
      case atStart => exact QS.out
      case round =>
        obtain ⟨hsp, _⟩ := least_spec hrel
        obtain ⟨μ0, hμ0⟩ : ∃ μ0, least (fun μ => SwRel w wr N r gh u8 μ) = μ0 := ⟨_, rfl⟩
        rw [hμ0] at hsp
        obtain ⟨D, q, h, hμ, hSw, hB⟩ := hsp
        have MU := hide (And.intro hμ0 hμ)
        clear hμ0 hμ hrel QS
        have SW := hide hSw
        have B := hide hB
        have hlq : D.length + q.length ≤ N.V := by
          have := nodup_len hB.nd hB.lt
          simpa using this
        clear hSw hB
        obtain ⟨wk, hwk⟩ : ∃ wk, wk = wr := ⟨wr, rfl⟩
        subst hwk
        cases q with
        | nil =>
          obtain ⟨a, c, hsh⟩ := SW.out.que.shape
          simp only [List.length_nil] at hsh
          obtain rfl := hsh
          go_wp2_with fail
          go_end0
          exact ⟨_, h, rfl, B.out.dist OK.out, SW.out.row, SW.out.chg⟩
        | cons y q' =>
          obtain ⟨a, c, hsh⟩ := SW.out.que.shape
          simp only [List.length_cons] at hsh hlq
          obtain rfl := hsh
          obtain ⟨v', hpop, hq', hown'⟩ := SW.out.que.pop
          obtain ⟨a', c', hsh'⟩ := hq'.shape
          obtain rfl := hsh'
          have HQ := hide (And.intro hq' hown')
          clear hq' hown'
          have hsv := SW.out.que.sv (by simp only [List.length_cons]; omega)
          simp only [List.length_cons] at hsv
          have hixq := fun w' ii h0 hi => idx_any (P := Try.prog) Try.underlying30 sz3 (n := q'.length + 1) (a := a) c (sv_some' hsv) w' ii h0 hi
          have hcq := sv_cell' hsv 0 (by omega)
          simp only [List.getD_cons_zero] at hcq
          unfold kn at hcq
          clear hsv
          have hyV : y < N.V := B.out.lt y (by simp)
          have NW := hide (HS.out.chg SW.out.chg (fun _ _ h => h))
          have c0w := NW.out.c0
          have hix0 := fun w' ii h0 hi => idx_any (P := Try.prog) Try.underlying29 sz30 (n := N.V) (a := Y.aA) Y.cA (sv_some' NW.out.top) w' ii h0 hi
          have hc0 := sv_cell' NW.out.top y hyV
          have hq1 : (0 : Int) < (q'.length : Int) + 1 := by omega
          go_wp2_with fail
          have SW3 : Hid (SwAt w wk N gh h (.slice a' q'.length c') q') := ⟨SW.out.chg, SW.out.row, HQ.out.1, fun g hg => SW.out.own g (by rw [← HQ.out.2]; exact hg)⟩
          have B3 : Hid (BfsI N r h D y q' 0) := B.out.open
          have HLY := hide (SZ.out.L y hyV)
          clear hixq hcq hpop SW B HQ hix0 hc0 c0w NW
          go_loopw [8, 49] (fun x i wr => ∃ (j : Nat) (q2 : List Nat) (h2 : Nat → Nat) (a2 : Option Addr) (c2 : Nat), j ≤ N.L y ∧ i = .int .i64 j ∧ x = .slice a2 q2.length c2 ∧ Hid (SwAt w wr N gh h2 (.slice a2 q2.length c2) q2) ∧ Hid (BfsI N r h2 D y q2 j)) (fun _ i _ => N.L y - (intOf i).toNat)
          case atStart => exact ⟨0, q', h, a', c', by omega, rfl, rfl, SW3, B3⟩
          case round =>
            obtain ⟨j, q2, h2, a2, c2, hj, rfl, rfl, SW, B⟩ := hrel
            clear SW3 B3
            have hlq2 : D.length + (q2.length + 1) ≤ N.V := by
              have := nodup_len B.out.nd B.out.lt
              simpa using this
            by_cases hjn : j < N.L y
            · have NW := hide (HS.out.chg SW.out.chg (fun _ _ h => h))
              have hix1 := fun w' ii h0 hi => idx_any (P := Try.prog) Try.underlying30 sz3 (n := N.L y) (a := Y.A y) (Y.C y) (sv_some' (NW.out.row y hyV)) w' ii h0 hi
              have hc1 := sv_cell' (NW.out.row y hyV) j hjn
              obtain ⟨ham, hat⟩ := OK.out.arc y j hyV hjn
              have hzV := OK.out.hd _ ham
              have htm := tw_lt OK.out.even ham
              have hix2 := fun w' ii h0 hi => idx_any (P := Try.prog) Try.underlying30 sz3 (n := N.m) (a := Y.aH) Y.cH (sv_some' NW.out.hd) w' ii h0 hi
              have hc2 := sv_cell' NW.out.hd _ ham
              have hRw := HR.out.1.chg SW.out.chg HR.out.2
              have hix3 := fun w' ii h0 hi => idx_any (P := Try.prog) Try.underlying31 sz2 (n := N.m) (a := Y.aR) Y.cR (sv_some' hRw) w' ii h0 hi
              have hc3 := sv_cell' hRw _ htm
              have hxor := xor_i64 (N.arc y j) (by have := SZ.out.m; omega)
              have f1 := NW.out.c1
              have f2 := NW.out.c2
              have hcz := SW.out.row.cell hzV
              have hcy := SW.out.row.cell hyV
              have hfz := SW.out.row.frozen (N.hd (N.arc y j))
              have hmm := SZ.out.m
              have hLy := HLY.out
              have hyl := B.out.hlt (y := y) (by simp)
              unfold kn at hc1 hc2 hcz hcy
              clear hRw
              by_cases hr : 0 < r (tw (N.arc y j))
              · by_cases hh : h2 (N.hd (N.arc y j)) = N.V
                · have BN := hide (B.out.add OK.out hjn hr hh)
                  have hQw : Que (wr.setCell ⟨gh, N.hd (N.arc y j), none⟩ (.int .i64 ((h2 y : Int) + 1))) (.slice a2 q2.length c2) q2 := SW.out.que.of_block (fun g hg => heap_setCell_other _ _ _ _ (by
                    have := SW.out.own g hg
                    have := hgw.out
                    show g ≠ gh
                    omega))
                  obtain ⟨v5, w5, hrun, hq5, hown5, hchg5⟩ := hQw.push (N.hd (N.arc y j)) (by omega)
                  obtain ⟨a5, c5, hsh5⟩ := hq5.shape
                  simp only [List.length_append, List.length_cons, List.length_nil] at hsh5
                  obtain rfl := hsh5
                  have SN : Hid (SwAt w w5 N gh (fun v => if v = N.hd (N.arc y j) then h2 y + 1 else h2 v) (.slice a5 (q2 ++ [N.hd (N.arc y j)]).length c5) (q2 ++ [N.hd (N.arc y j)])) := by
                    refine ⟨?_, ?_, ?_, ?_⟩
                    · exact (Chg.setCell (p := ⟨gh, N.hd (N.arc y j), none⟩) SW.out.chg (fun _ => rfl) _).trans' hchg5 (fun i hi e => by have := SW.out.own i e; omega)
                    · have h1 := SW.out.row.set (N.hd (N.arc y j)) (.int .i64 ((h2 y : Int) + 1))
                      have h2' := h1.of_block (hchg5.block gh h1.lt (fun e => by have := SW.out.own gh e; have := hgw.out; omega))
                      refine h2'.congr (fun i hi => ?_)
                      by_cases e : i = N.hd (N.arc y j)
                      · simp [e, kn]
                      · simp [e]
                    · simpa using hq5
                    · intro g hg
                      rcases hown5 g (by simpa [Value.ownBlock] using hg) with e | e
                      · exact SW.out.own g e
                      · have := SW.out.chg.size
                        simp at e
                        omega
                  have hQ5 := hide hq5
                  clear hQw hq5 hown5 hchg5
                  have hst : wr.cell? ⟨gh, N.hd (N.arc y j), none⟩ = some (.int .i64 (N.V : Nat)) := by rw [← hh]; exact hcz
                  have hszc : (wr.setCell ⟨gh, N.hd (N.arc y j), none⟩ (.int .i64 ((h2 y : Int) + 1))).heap.size = wr.heap.size := by simp
                  rw [hszc] at hrun
                  clear hszc hcz
                  have HH := hide hh
                  clear hh
                  generalize tw (N.arc y j) = ta at *
                  generalize r ta = rt at *
                  generalize N.hd (N.arc y j) = z at *
                  generalize N.arc y j = ar at *
                  go_wp2_with (at_builtin; refine wpList_append_eq rfl _ _ 30 rfl _ _ _ _ rfl rfl hrun ?_)
                  go_roundw
                  case rel => exact ⟨j + 1, q2 ++ [z], _, a5, c5, by omega, by go_num, by simp, SN, BN⟩
                  case measure => simp [intOf]; omega
                · have BN := hide (B.out.skip (fun _ => hh) hzV)
                  have hhI : ¬ ((h2 (N.hd (N.arc y j)) : Int) = (N.V : Int)) := by omega
                  generalize tw (N.arc y j) = ta at *
                  generalize r ta = rt at *
                  generalize N.hd (N.arc y j) = z at *
                  generalize N.arc y j = ar at *
                  generalize h2 z = hz at *
                  go_wp2_with fail
                  go_roundw
                  case rel => exact ⟨j + 1, q2, h2, a2, c2, by omega, by go_num, rfl, SW, BN⟩
                  case measure => simp [intOf]; omega
              · have BN := hide (B.out.skip (fun h => absurd h hr) hzV)
                generalize N.arc y j = ar at *
                generalize tw ar = ta at *
                generalize r ta = rt at *
                generalize N.hd ar = z at *
                go_wp2_with fail
                go_roundw
                case rel => exact ⟨j + 1, q2, h2, a2, c2, by omega, by go_num, rfl, SW, BN⟩
                case measure => simp [intOf]; omega
            · have hjn' : N.L y = j := by omega
              have BC : Hid (Bfs N r h2 (D ++ [y]) q2) := by
                have := B.out
                rw [← hjn'] at this
                exact this.close OK.out
              have MR : Hid (SwRel w wr N r gh (.slice a2 q2.length c2) (μ0 - 1)) := ⟨D ++ [y], q2, h2, by
                have := MU.out.2
                simp
                omega, SW.out, BC.out⟩
              have hm1 : Hid (0 < μ0) := by have := MU.out.2; unfold Hid; omega
              clear hjn' hj B SW BC
              go_wp2_with fail
              go_roundw
              case rel => exact ⟨_, MR.out⟩
              case measure =>
                have h1 := (least_spec (p := fun μ => SwRel w wr N r gh (.slice a2 q2.length c2) μ) ⟨_, MR.out⟩).2 _ MR.out
                have h2 := hm1.out
                have h3 := MU.out.1
                simp at h3 ⊢
                omega
end Go.Proofs.Qxb6602686a
