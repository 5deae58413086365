import Derived.Test.Qxb6602686aEkM
namespace Go.Proofs.Qxb6602686a
open Go.RowKit

set_option maxHeartbeats 8000000 in
set_option maxRecDepth 100000 in
theorem ek24_any (N : Net) (ok : NetOk N) (sz : NetSz N) (aA aH aR : Option Addr) (cA cH cR : Nat) (A : Nat → Option Addr) (C : Nat → Nat) (lo hi gr : Nat) (r0 : Nat → Int) (cap : Cap N r0) (w : World)
    (hD : NetD w N aA cA aH cH A C lo hi) (hR : ResO w N.m aR gr r0) (hgr : gr < w.heap.size) (hgo : gr < lo ∨ hi ≤ gr) :
    Calls Try.prog 24 #[.slice aA N.V cA, .slice aH N.m cH, .slice aR N.m cR, .int .i64 (N.s : Nat), .int .i64 (N.t : Nat)] w fun e w' => EkPost w w' N gr r0 e := by
  have HD := hide hD
  have OK := hide ok
  have SZ := hide sz
  have CP := hide cap
  have HGO : Hid (∀ k, lo ≤ k → k < hi → ¬ k = gr) := hide (fun k h1 h2 e => by omega)
  have hV := sz.V
  have hmm := sz.m
  have hs := ok.s
  have ht := ok.t
  have hmk := fun w => run_make_row' (P := Try.prog) 30 3 (.int .i64 0) 8 Try.underlying30 info3 rfl .i64 .i64 N.V (by omega) (by omega) w
  have HRB : Hid (∀ a, a < N.m → 0 ≤ r0 a ∧ 0 ≤ r0 (tw a) ∧ r0 a + r0 (tw a) ≤ 9223372036854775807) := hide (fun a ha => ⟨cap.nn a ha, cap.nn _ (tw_lt ok.even ha), cap.two a ha⟩)
  have hixA := fun w' i h0 hi => idx_any (P := Try.prog) Try.underlying29 sz30 (n := N.V) (a := aA) cA (sv_some' hD.top) w' i h0 hi
  have hixH := fun w' i h0 hi => idx_any (P := Try.prog) Try.underlying30 sz3 (n := N.m) (a := aH) cH (sv_some' hD.hd) w' i h0 hi
  have E0 := hide (EM.start (N := N) hR hgr)
  clear hD ok sz cap hgo hR hgr
  go_enter Try.func24, Try.ntmps24
  go_wp2_with fail
  generalize ((w.alloc (.cells (madeCells #[.int .i64 0] N.V) 3)).alloc (.cells (madeCells #[.int .i64 0] N.V) 3)) = w0 at *
  have START : Hid (∃ μ, EkRel w w0 N gr aR r0 μ) := hide ⟨_, r0, _, _, rfl, E0.out, ⟨CP.out.nn, fun _ _ => rfl, fun _ _ _ _ => rfl⟩⟩
  clear E0 hmk
  go_loopw [14] (fun _ wr => ∃ μ, EkRel w wr N gr aR r0 μ) (fun _ wr => least (fun μ => EkRel w wr N gr aR r0 μ))
  case atStart => exact START.out
  case round =>
    obtain ⟨hsp, _⟩ := least_spec hrel
    obtain ⟨μ0, hμ0⟩ : ∃ μ0, least (fun μ => EkRel w wr N gr aR r0 μ) = μ0 := ⟨_, rfl⟩
    rw [hμ0] at hsp
    obtain ⟨r, p, q, hμ, hM, hE⟩ := hsp
    have MU := hide (And.intro hμ0 hμ)
    have M0 := hide hM
    have ES := hide hE
    clear hμ0 hμ hrel START hM hE
    obtain ⟨wk, hwk⟩ : ∃ wk, wk = wr := ⟨wr, rfl⟩
    subst hwk
    go_wp2_with fail
    go_loopw [14] (fun i wr => ∃ (k : Nat) (p' : Nat → Int), k ≤ N.V ∧ i = .int .i64 (k : Int) ∧ Hid (EM w wr N gr aR r p' q ∧ ∀ v, v < k → p' v = -1)) (fun i _ => N.V - (intOf i).toNat)
    case atStart => exact ⟨0, p, by omega, rfl, hide ⟨M0.out, fun v hv => by omega⟩⟩
    case round =>
      obtain ⟨k, p', hk, rfl, HK⟩ := hrel
      by_cases hkV : k < N.V
      · as_aux_lemma =>
        have cP := HK.out.1.par.cell hkV
        have fP := HK.out.1.par.frozen k
        have HN : Hid (EM w (wr.setCell ⟨w.heap.size, k, none⟩ (.int .i64 (-1))) N gr aR r (fun u => if u = k then -1 else p' u) q ∧ ∀ v, v < k + 1 → (if v = k then -1 else p' v) = -1) := hide ⟨HK.out.1.setP k (-1), fun v hv => by
          by_cases e : v = k
          · rw [if_pos e]
          · rw [if_neg e]; exact HK.out.2 v (by omega)⟩
        clear HK M0
        go_wp2_with fail
        go_roundw
        case rel => exact ⟨k + 1, _, by omega, by go_num, HN⟩
        case measure => simp [intOf]; omega
      have hkV' : ¬ ((k : Int) < (N.V : Int)) := by omega
      have HP : Hid (EM w wr N gr aR r p' q ∧ ∀ v, v < N.V → p' v = -1) := hide ⟨HK.out.1, fun v hv => HK.out.2 v (by omega)⟩
      clear HK hkV hk M0
      have cP := HP.out.1.par.cell hs
      have fP := HP.out.1.par.frozen N.s
      go_upto_region 9 with fail
      have M1 := hide (HP.out.1.setP N.s (-2))
      generalize wr.setCell ⟨w.heap.size, N.s, none⟩ (.int .i64 (-2)) = w1 at *
      clear cP fP hkV'
      have h0V : 0 < N.V := by omega
      have cQ := M1.out.que.cell h0V
      have fQ := M1.out.que.frozen 0
      go_upto_region 10 with fail
      have M2 := hide (M1.out.setQ 0 N.s)
      generalize w1.setCell ⟨w.heap.size + 1, 0, none⟩ (.int .i64 (N.s : Int)) = w2 at *
      have B0 : Hid (BfRel w w2 N gr aR r [N.s] 0 0 0 0) := hide ⟨_, _, M2.out, EkI.start OK.out r (fun v hv hn => by
        show (if v = N.s then (-2 : Int) else p' v) = -1
        rw [if_neg hn]; exact HP.out.2 v hv) 0, fun i y hy => by
          cases i with
          | zero => simp at hy; simp [hy]
          | succ i => simp at hy, by simp, fun i hi => by omega, fun hn => absurd (by
          show (if N.t = N.s then (-2 : Int) else p' N.t) = -1
          rw [if_neg (fun e => OK.out.st e.symm)]; exact HP.out.2 _ ht) hn⟩
      clear cQ fQ M1 M2 HP h0V
      go_wp2_with fail
      go_loopw [15, 16] (fun a b wr => ∃ (h : Nat) (Q : List Nat), a = .int .i64 (h : Int) ∧ b = .int .i64 ((Q.length : Nat) : Int) ∧ h ≤ Q.length ∧ Q.length ≤ N.V ∧ Hid (BfRel w wr N gr aR r Q h 0 0 h)) (fun a _ _ => N.V - (intOf a).toNat)
      case atStart => exact ⟨0, [N.s], rfl, rfl, by simp, by simp; omega, B0⟩
      case round =>
        obtain ⟨h, Q, rfl, rfl, hhQ, hQV, BR⟩ := hrel
        obtain ⟨p2, q2, hM, hE, hHQ, hps, hnt, htq⟩ := BR.out
        have MM := hide hM
        have EE := hide hE
        have HQ := hide hHQ
        have HPS := hide hps
        have HNT := hide hnt
        have HTQ := hide htq
        clear hM hE hHQ hps hnt htq BR B0
        have cT : wr.cell? ⟨w.heap.size, N.t, none⟩ = some (.int .i64 (p2 N.t)) := MM.out.par.cell ht
        by_cases ht1 : p2 N.t = -1
        · have HT1 := hide ht1
          rw [ht1] at cT
          clear ht1
          by_cases hlt : h < Q.length
          · as_aux_lemma =>
            obtain ⟨x, hx⟩ : ∃ x, Q[h]? = some x := ⟨_, List.getElem?_eq_getElem hlt⟩
            have HX := hide hx
            have hxV := EE.out.lt x (List.mem_of_getElem? hx)
            have cQ : wr.cell? ⟨w.heap.size + 1, h, none⟩ = some (.int .i64 ((x : Nat) : Int)) := by
              have := MM.out.que.cell (i := h) (by omega)
              rw [HQ.out h x hx] at this
              exact this
            clear hx
            have ND := hide (HD.out.chg MM.out.chg HGO.out)
            have cA0 : wr.cell? (adr aA x) = some (.slice (A x) (N.L x) (C x)) := sv_cell' ND.out.top x hxV
            have hLx := SZ.out.L x hxV
            have BI : Hid (BfRel w wr N gr aR r Q h x 0 (h + 1) ∧ Q[h]? = some x) := hide ⟨⟨p2, q2, MM.out, EE.out.open x, HQ.out, HPS.out, fun i hi e => by
              by_cases e2 : i = h
              · subst e2
                rw [HX.out] at e
                cases e
                obtain ⟨a, k, h1, _⟩ := EE.out.par i N.t HX.out (fun e => OK.out.st e.symm)
                rw [HT1.out] at h1
                omega
              · exact HNT.out i (by omega) e, HTQ.out⟩, HX.out⟩
            clear MM EE HQ HPS HNT HTQ HX ND
            obtain ⟨wj, hwj⟩ : ∃ wj, wj = wr := ⟨wr, rfl⟩
            subst hwj
            go_wp2_with fail
            clear cA0 cQ cT
            go_loopw [16, 70] (fun b i wr => ∃ (j : Nat) (Q : List Nat), j ≤ N.L x ∧ i = .int .i64 (j : Int) ∧ b = .int .i64 ((Q.length : Nat) : Int) ∧ Q.length ≤ N.V ∧ h < Q.length ∧ Hid (BfRel w wr N gr aR r Q h x j (h + 1) ∧ Q[h]? = some x)) (fun _ i _ => N.L x - (intOf i).toNat)
            case atStart => exact ⟨0, Q, by omega, rfl, rfl, hQV, hlt, BI⟩
            case round =>
              obtain ⟨j, Q', hj, rfl, rfl, hQV', hlt', BJ⟩ := hrel
              obtain ⟨⟨p3, q3, hM, hE, hHQ, hps, hnt, htq⟩, hx⟩ := BJ.out
              have MM := hide hM
              have EE := hide hE
              have HQ := hide hHQ
              have HPS := hide hps
              have HNT := hide hnt
              have HTQ := hide htq
              have HX := hide hx
              clear hM hE hHQ hps hnt htq hx BJ BI
              by_cases hjL : j < N.L x
              · obtain ⟨ham, hat⟩ := OK.out.arc x j hxV hjL
                have hwV := OK.out.hd _ ham
                have ND := hide (HD.out.chg MM.out.chg HGO.out)
                have cRw : wr.cell? (adr (A x) j) = some (.int .i64 ((N.arc x j : Nat) : Int)) := sv_cell' (ND.out.row x hxV) j hjL
                have hixr := fun w' i h0 hi => idx_any (P := Try.prog) Try.underlying30 sz3 (n := N.L x) (a := A x) (C x) (sv_some' (ND.out.row x hxV)) w' i h0 hi
                have cH0 : wr.cell? (adr aH (N.arc x j)) = some (.int .i64 ((N.hd (N.arc x j) : Nat) : Int)) := sv_cell' ND.out.hd _ ham
                obtain ⟨haR, hrow⟩ := MM.out.res (by omega)
                subst haR
                have cR0 : wr.cell? ⟨gr, N.arc x j, none⟩ = some (.int .i64 (r (N.arc x j))) := hrow.cell ham
                have cP0 : wr.cell? ⟨w.heap.size, N.hd (N.arc x j), none⟩ = some (.int .i64 (p3 (N.hd (N.arc x j)))) := MM.out.par.cell hwV
                clear hrow hat
                by_cases hr : 0 < r (N.arc x j)
                · by_cases hp : p3 (N.hd (N.arc x j)) = -1
                  · have hadd := EE.out.add OK.out HX.out hjL hr hp HPS.out
                    have EN := hide hadd.2
                    have hQ1 : Q'.length + 1 ≤ N.V := by have := hadd.2.len; simpa using this
                    clear hadd
                    rw [hp] at cP0
                    clear hp
                    generalize r (N.arc x j) = ra at *
                    generalize N.hd (N.arc x j) = wd at *
                    generalize N.arc x j = ar at *
                    have fP := MM.out.par.frozen wd
                    go_upto_region 21 with fail
                    have M1 := hide (MM.out.setP wd (ar : Int))
                    generalize wr.setCell ⟨w.heap.size, wd, none⟩ (.int .i64 (ar : Int)) = w3 at *
                    clear fP cP0 cR0 cH0 cRw hixr
                    have cQ1 := M1.out.que.cell (i := Q'.length) (by omega)
                    have fQ1 := M1.out.que.frozen Q'.length
                    go_upto_region 22 with fail
                    have M2 := hide (M1.out.setQ Q'.length wd)
                    generalize w3.setCell ⟨w.heap.size + 1, Q'.length, none⟩ (.int .i64 (wd : Int)) = w4 at *
                    clear cQ1 fQ1
                    have FIN : Hid (BfRel w w4 N gr (some ⟨gr, 0, none⟩) r (Q' ++ [wd]) h x (j + 1) (h + 1) ∧ (Q' ++ [wd])[h]? = some x) := hide ⟨⟨_, _, M2.out, EN.out, fun i y hy => by
                      by_cases e : i = Q'.length
                      · subst e
                        rw [List.getElem?_append_right (by omega)] at hy
                        simp at hy
                        simp [hy]
                      · have hil : i < Q'.length := by
                          have := (List.getElem?_eq_some_iff.1 hy).1
                          simp at this
                          omega
                        rw [List.getElem?_append_left hil] at hy
                        show (if i = Q'.length then wd else q3 i) = y
                        rw [if_neg e]
                        exact HQ.out i y hy, by
                      show (if N.s = wd then (ar : Int) else p3 N.s) ≠ -1
                      split
                      · omega
                      · exact HPS.out, fun i hi => by
                      rw [List.getElem?_append_left (by omega)]
                      exact HNT.out i hi, fun hn => by
                      by_cases e : N.t = wd
                      · rw [e]; simp
                      · have hn' : p3 N.t ≠ -1 := by simpa [e] using hn
                        exact List.mem_append.2 (.inl (HTQ.out hn'))⟩, by rw [List.getElem?_append_left hlt']; exact HX.out⟩
                    clear MM EE HQ HPS HNT HTQ HX EN M1 M2 ND
                    go_wp2_with fail
                    go_roundw
                    case rel => exact ⟨j + 1, Q' ++ [wd], by omega, by go_num, by simp, by simpa using hQ1, by simp; omega, FIN⟩
                    case measure => simp [intOf]; omega
                  · have hb : (p3 (N.hd (N.arc x j)) == -1) = false := by simp [hp]
                    have FIN : Hid (BfRel w wr N gr (some ⟨gr, 0, none⟩) r Q' h x (j + 1) (h + 1) ∧ Q'[h]? = some x) := hide ⟨⟨p3, q3, MM.out, EE.out.skip hwV (fun _ => hp), HQ.out, HPS.out, HNT.out, HTQ.out⟩, HX.out⟩
                    clear hp MM EE HQ HPS HNT HTQ HX ND
                    generalize p3 (N.hd (N.arc x j)) = pw at *
                    generalize r (N.arc x j) = ra at *
                    generalize N.hd (N.arc x j) = wd at *
                    generalize N.arc x j = ar at *
                    go_wp2_with fail
                    go_roundw
                    case rel => exact ⟨j + 1, Q', by omega, by go_num, rfl, hQV', hlt', FIN⟩
                    case measure => simp [intOf]; omega
                · have FIN : Hid (BfRel w wr N gr (some ⟨gr, 0, none⟩) r Q' h x (j + 1) (h + 1) ∧ Q'[h]? = some x) := hide ⟨⟨p3, q3, MM.out, EE.out.skip hwV (fun h => absurd h hr), HQ.out, HPS.out, HNT.out, HTQ.out⟩, HX.out⟩
                  clear MM EE HQ HPS HNT HTQ HX ND
                  generalize p3 (N.hd (N.arc x j)) = pw at *
                  generalize r (N.arc x j) = ra at *
                  generalize N.hd (N.arc x j) = wd at *
                  generalize N.arc x j = ar at *
                  go_wp2_with fail
                  go_roundw
                  case rel => exact ⟨j + 1, Q', by omega, by go_num, rfl, hQV', hlt', FIN⟩
                  case measure => simp [intOf]; omega
              · have hjL' : N.L x = j := by omega
                have FIN : Hid (BfRel w wr N gr aR r Q' (h + 1) 0 0 (h + 1)) := hide ⟨p3, q3, MM.out, EkI.close (by rw [hjL']; exact EE.out) HX.out 0, HQ.out, HPS.out, HNT.out, HTQ.out⟩
                have hjN : ¬ ((j : Int) < (N.L x : Int)) := by omega
                clear MM EE HQ HPS HNT HTQ HX hjL' hjL
                go_wp2_with fail
                go_roundw
                case rel => exact ⟨h + 1, Q', by go_num, rfl, by omega, hQV', FIN⟩
                case measure => simp [intOf]; omega
          · have NP := hide (EE.out.noPath OK.out (by omega) HT1.out)
            have hmk2 := fun w => run_make_row' (P := Try.prog) 32 4 (.bool false) 1 Try.underlying32 info4 rfl .i64 .i64 N.V (by omega) (by omega) w
            have hge := MM.out.size
            have S0 : Hid (SW w (wr.alloc (.cells (madeCells #[.bool false] N.V) 4)) N gr aR r wr.heap.size (fun _ => false)) := by
              have hg := MM.out.lt
              have hc := MM.out.chg.alloc (.cells (madeCells #[.bool false] N.V) 4)
              have hc2 : Chg wr (wr.alloc (.cells (madeCells #[.bool false] N.V) 4)) (fun _ => False) := (Chg.refl _ _).alloc _
              exact hide ⟨hc, hg, by omega, fun h0 => ⟨(MM.out.res h0).1, (MM.out.res h0).2.of_block (hc2.block _ (by omega) (fun h => h))⟩, World.rowIs_made wr _ N.V 4⟩
            have hhN : ¬ ((h : Int) < ((Q.length : Nat) : Int)) := by omega
            clear MM EE HQ HPS HNT HTQ hlt
            generalize hq : ((Q.length : Nat) : Int) = ql at *
            clear hq
            go_upto_region 38 with fail
            generalize wr.heap.size = gs at *
            generalize wr.alloc (.cells (madeCells #[.bool false] N.V) 4) = w8 at *
            clear hmk2 hhN cT
            have cS := S0.out.row.cell ht
            have fS := S0.out.row.frozen N.t
            go_upto_region 39 with fail
            have S1 := hide (S0.out.set N.t)
            generalize w8.setCell ⟨gs, N.t, none⟩ (.bool true) = w9 at *
            clear cS fS
            have SR : Hid (∃ μ, SwpRel w N gr aR r gs (.bool true) w9 μ) := hide ⟨_, true, _, rfl, rfl, S1.out, ⟨by simp, fun v hv => by
              by_cases e : v = N.t
              · rw [e]; exact .t
              · simp [e] at hv, fun h => by cases h⟩⟩
            clear S0 S1
            go_wp2_with fail
            go_loopw [26] (fun ch wr => (∃ b0 : Bool, ch = .bool b0) ∧ ∃ μ, SwpRel w N gr aR r gs ch wr μ) (fun ch wr => least (fun μ => SwpRel w N gr aR r gs ch wr μ))
            case atStart => exact ⟨⟨true, rfl⟩, SR.out⟩
            case round =>
              obtain ⟨⟨b, rfl⟩, hrel⟩ := hrel
              obtain ⟨hsp, _⟩ := least_spec hrel
              obtain ⟨μ1, hμ1⟩ : ∃ μ1, least (fun μ => SwpRel w N gr aR r gs (.bool b) wr μ) = μ1 := ⟨_, rfl⟩
              rw [hμ1] at hsp
              obtain ⟨b', c, hbb, hμ, hS, hO⟩ := hsp
              obtain rfl : b = b' := by simpa using hbb
              clear hbb
              have MU1 := hide (And.intro hμ1 hμ)
              have SS1 := hide hS
              have SO1 := hide hO
              clear hμ1 hμ hrel hS hO SR
              cases b with
              | false =>
                have FIN : Hid (EkPost w wr N gr r0 (.returned (.slice (some ⟨gs, 0, none⟩) N.V N.V))) := hide ⟨r, c, gs, rfl, SS1.out.ge, flw_ek ES.out SO1.out NP.out, SS1.out.row, SS1.out.chg⟩
                clear SS1 SO1 MU1
                go_wp2_with fail
                go_ret
                exact FIN.out
              | true =>
                obtain ⟨wj, hwj⟩ : ∃ wj, wj = wr := ⟨wr, rfl⟩
                subst hwj
                go_wp2_with fail
                go_loopw [26, 27] (fun ch i wr => ∃ (b : Bool) (a : Nat) (c' : Nat → Bool), ch = .bool b ∧ i = .int .i64 (a : Int) ∧ a ≤ N.m ∧ Hid (SW w wr N gr aR r gs c' ∧ SwI N r c c' b a)) (fun _ i _ => N.m - (intOf i).toNat)
                case atStart => exact ⟨false, 0, c, rfl, rfl, by omega, hide ⟨SS1.out, SO1.out.open⟩⟩
                case round =>
                  obtain ⟨b, a, c', rfl, rfl, ham, HI⟩ := hrel
                  by_cases hak : a < N.m
                  · as_aux_lemma =>
                    have htw : tw a < N.m := tw_lt OK.out.even hak
                    have htl := OK.out.tl hak
                    have hhd := OK.out.hd _ hak
                    have ND := hide (HD.out.chg HI.out.1.chg HGO.out)
                    have ch1 : wr.cell? (adr aH (tw a)) = some (.int .i64 ((N.tl a : Nat) : Int)) := sv_cell' ND.out.hd _ htw
                    have ch2 : wr.cell? (adr aH a) = some (.int .i64 ((N.hd a : Nat) : Int)) := sv_cell' ND.out.hd _ hak
                    have cs1 : wr.cell? ⟨gs, N.tl a, none⟩ = some (.bool (c' (N.tl a))) := HI.out.1.row.cell htl
                    have cs2 : wr.cell? ⟨gs, N.hd a, none⟩ = some (.bool (c' (N.hd a))) := HI.out.1.row.cell hhd
                    obtain ⟨haR, hrow⟩ := HI.out.1.res (by omega)
                    subst haR
                    have cR0 : wr.cell? ⟨gr, a, none⟩ = some (.int .i64 (r a)) := hrow.cell hak
                    have hxor := xor_i64 a (by omega)
                    clear hrow
                    by_cases hr : 0 < r a
                    · cases h2 : c' (N.hd a) with
                      | false =>
                        rw [h2] at cs2
                        have FIN : Hid (SW w wr N gr (some ⟨gr, 0, none⟩) r gs c' ∧ SwI N r c c' b (a + 1)) := hide ⟨HI.out.1, HI.out.2.skip (fun _ h => by rw [h2] at h; cases h)⟩
                        clear h2 HI ND
                        generalize r a = ra at *
                        generalize N.hd a = hda at *
                        generalize N.tl a = tla at *
                        generalize tw a = ta at *
                        go_wp2_with fail
                        go_roundw
                        case rel => exact ⟨b, a + 1, c', rfl, by go_num, by omega, FIN⟩
                        case measure => simp [intOf]; omega
                      | true =>
                        rw [h2] at cs2
                        cases h1 : c' (N.tl a) with
                        | true =>
                          rw [h1] at cs1
                          have FIN : Hid (SW w wr N gr (some ⟨gr, 0, none⟩) r gs c' ∧ SwI N r c c' b (a + 1)) := hide ⟨HI.out.1, HI.out.2.skip (fun _ _ => h1)⟩
                          clear h1 h2 HI ND
                          generalize r a = ra at *
                          generalize N.hd a = hda at *
                          generalize N.tl a = tla at *
                          generalize tw a = ta at *
                          go_wp2_with fail
                          go_roundw
                          case rel => exact ⟨b, a + 1, c', rfl, by go_num, by omega, FIN⟩
                          case measure => simp [intOf]; omega
                        | false =>
                          rw [h1] at cs1
                          have fS1 := HI.out.1.row.frozen (N.tl a)
                          have FIN : Hid (SW w (wr.setCell ⟨gs, N.tl a, none⟩ (.bool true)) N gr (some ⟨gr, 0, none⟩) r gs (fun v => if v = N.tl a then true else c' v) ∧ SwI N r c (fun v => if v = N.tl a then true else c' v) true (a + 1)) := hide ⟨HI.out.1.set _, HI.out.2.add OK.out hak hr h2 h1⟩
                          clear h1 h2 HI ND
                          generalize r a = ra at *
                          generalize N.hd a = hda at *
                          generalize N.tl a = tla at *
                          generalize tw a = ta at *
                          go_wp2_with fail
                          go_roundw
                          case rel => exact ⟨true, a + 1, _, rfl, by go_num, by omega, FIN⟩
                          case measure => simp [intOf]; omega
                    · have FIN : Hid (SW w wr N gr (some ⟨gr, 0, none⟩) r gs c' ∧ SwI N r c c' b (a + 1)) := hide ⟨HI.out.1, HI.out.2.skip (fun h => absurd h hr)⟩
                      clear HI ND
                      generalize c' (N.tl a) = b1 at *
                      generalize c' (N.hd a) = b2 at *
                      generalize r a = ra at *
                      generalize N.hd a = hda at *
                      generalize N.tl a = tla at *
                      generalize tw a = ta at *
                      go_wp2_with fail
                      go_roundw
                      case rel => exact ⟨b, a + 1, c', rfl, by go_num, by omega, FIN⟩
                      case measure => simp [intOf]; omega
                  · have hak' : N.m = a := by omega
                    have hI : SwI N r c c' b N.m := by rw [hak']; exact HI.out.2
                    have REL : Hid (SwpRel w N gr aR r gs (.bool b) wr (2 * (cntF N c').toNat + (if b = true then 1 else 0))) := hide ⟨b, c', rfl, rfl, HI.out.1, hI.close⟩
                    have SM : Hid (2 * (cntF N c').toNat + (if b = true then 1 else 0) < μ1) := by
                      have h1 := cntF_nn N c'
                      have h2 : μ1 = 2 * (cntF N c).toNat + 1 := by simpa using MU1.out.2
                      cases b with
                      | true => have h3 := hI.less rfl; exact hide (by rw [if_pos rfl]; omega)
                      | false => have h3 := hI.same rfl; exact hide (by rw [if_neg (by simp)]; omega)
                    have hka : ¬ ((a : Int) < (N.m : Int)) := by omega
                    clear hak hak' ham hI HI SS1 SO1
                    go_wp2_with fail
                    go_roundw
                    case rel => exact ⟨⟨_, rfl⟩, _, REL.out⟩
                    case measure =>
                      have h1 := least_le (p := fun μ => SwpRel w N gr aR r gs (.bool b) wr μ) REL.out
                      have h2 := SM.out
                      have h3 := MU1.out.1
                      omega
        · as_aux_lemma =>
          have hb1 : (p2 N.t == -1) = false := by simp [ht1]
          have hlt : h < Q.length := by
            obtain ⟨i, hi, e⟩ := List.getElem_of_mem (HTQ.out ht1)
            have h1 : Q[i]? = some N.t := by rw [List.getElem?_eq_getElem hi, e]
            have h2 : ¬ i < h := fun h2 => HNT.out i h2 h1
            omega
          obtain ⟨Mm, rk, hP⟩ := EE.out.path OK.out ht1
          have PT := hide hP
          clear hP HQ HPS HNT HTQ EE ht1
          have ND := hide (HD.out.chg MM.out.chg HGO.out)
          go_wp2_with fail
          clear cT hb1
          go_loop [21, 22] (fun b v => ∃ (k : Nat) (bb : Int), b = .int .i64 bb ∧ v = .int .i64 ((itn N p2 k : Nat) : Int) ∧ 0 < bb ∧ bb ≤ 9223372036854775807 ∧ Hid (BN N r p2 k bb)) (fun _ v => rk (intOf v).toNat)
          case atStart => exact ⟨0, _, rfl, rfl, by omega, by omega, hide BN.start⟩
          case round =>
            obtain ⟨k, bb, rfl, rfl, hb0, hbm, HB⟩ := hrel
            by_cases hks : itn N p2 k = N.s
            · as_aux_lemma =>
              have hbs : (((itn N p2 k : Nat) : Int) != ((N.s : Nat) : Int)) = false := by simp [hks]
              have HKS := hide hks
              clear hks
              obtain ⟨wj, hwj⟩ : ∃ wj, wj = wr := ⟨wr, rfl⟩
              subst hwj
              go_wp2_with fail
              clear hbs
              go_loopw [23] (fun v wr => ∃ (k2 : Nat) (r' : Nat → Int), v = .int .i64 ((itn N p2 k2 : Nat) : Int) ∧ Hid (EM w wr N gr aR r' p2 q2 ∧ Aug N r0 r p2 k bb r' k2)) (fun v _ => rk (intOf v).toNat)
              case atStart => exact ⟨0, r, rfl, hide ⟨MM.out, Aug.start ES.out HB.out⟩⟩
              case round =>
                obtain ⟨k2, r', rfl, HA⟩ := hrel
                by_cases hks : itn N p2 k2 = N.s
                · as_aux_lemma =>
                  have hbs : (((itn N p2 k2 : Nat) : Int) != ((N.s : Nat) : Int)) = false := by simp [hks]
                  have hkk : k2 = k := by
                    have h1 := HA.out.2.kK
                    by_cases e : k2 = k
                    · exact e
                    · exact absurd hks (HB.out.ns k2 (by omega))
                  have hA := HA.out.2
                  rw [hkk] at hA
                  have hd := hA.done OK.out ES.out HKS.out
                  have REL : Hid (EkRel w wr N gr aR r0 (N.bal r' N.s).toNat) := hide ⟨r', p2, q2, rfl, HA.out.1, hd.1⟩
                  have SM : Hid ((N.bal r' N.s).toNat < μ0) := by
                    have h1 := bal_nn OK.out hd.1.rn hs
                    have h2 := hd.2
                    have h3 := MU.out.2
                    exact hide (by omega)
                  clear hks hkk hA hd HA
                  generalize itn N p2 k2 = vk at *
                  go_wp2_with fail
                  go_roundw
                  case rel => exact ⟨_, REL.out⟩
                  case measure =>
                    have h1 := least_le (p := fun μ => EkRel w wr N gr aR r0 μ) REL.out
                    have h2 := SM.out
                    have h3 := MU.out.1
                    omega
                · as_aux_lemma =>
                  have hbs : (((itn N p2 k2 : Nat) : Int) != ((N.s : Nat) : Int)) = true := by
                    rw [bne_iff_ne]
                    exact fun e => hks (by omega)
                  have hkk : k2 < k := by
                    have h1 := HA.out.2.kK
                    by_cases e : k2 = k
                    · rw [e] at hks; exact absurd HKS.out hks
                    · omega
                  obtain ⟨hpa, ham, hra, hhd, htl, hrk⟩ := PT.out.arc (k := k2) (fun i hi => HB.out.ns i (by omega))
                  have hvV := PT.out.lt _ (PT.out.at (k := k2) (fun i hi => HB.out.ns i (by omega)))
                  have htw : tw (itA N p2 k2) < N.m := tw_lt OK.out.even ham
                  obtain ⟨st1, st2, st3⟩ := HA.out.2.step OK.out CP.out PT.out HB.out hkk
                  have hrn := HA.out.2.rn _ ham
                  have hrnt := HA.out.2.rn _ htw
                  have hcap := HRB.out _ ham
                  have hsum := HA.out.2.rp _ ham
                  have hrm : r' (itA N p2 k2) ≤ 9223372036854775807 := by omega
                  have A3 := hide st3
                  have cP0 : wr.cell? ⟨w.heap.size, itn N p2 k2, none⟩ = some (.int .i64 ((itA N p2 k2 : Nat) : Int)) := by
                    rw [← hpa]; exact HA.out.1.par.cell hvV
                  obtain ⟨haR, hrow⟩ := HA.out.1.res (by omega)
                  subst haR
                  have cR0 : wr.cell? ⟨gr, itA N p2 k2, none⟩ = some (.int .i64 (r' (itA N p2 k2))) := hrow.cell ham
                  have fR0 := hrow.frozen (itA N p2 k2)
                  have hxor := xor_i64 (itA N p2 k2) (by omega)
                  have hne := tw_ne (itA N p2 k2)
                  have HRK := hide hrk
                  have HTL : Hid (N.hd (tw (itA N p2 k2)) = itn N p2 (k2 + 1)) := hide htl
                  have HPA := hide hpa
                  have EM1 := hide HA.out.1
                  clear hpa hrow htl hrk hhd hcap hsum hks st3 HA
                  generalize hR1 : r' (itA N p2 k2) = ra at *
                  generalize hR2 : r' (tw (itA N p2 k2)) = rb at *
                  have HR1 := hide hR1
                  have HR2 := hide hR2
                  clear hR1 hR2
                  generalize tw (itA N p2 k2) = ta at *
                  generalize itA N p2 k2 = ar at *
                  generalize hn1 : itn N p2 (k2 + 1) = n1 at *
                  generalize itn N p2 k2 = n0 at *
                  have HN1 := hide hn1
                  clear hn1
                  go_upto_region 36 with fail
                  have M1 := hide (EM1.out.setR ar (ra - bb))
                  generalize wr.setCell ⟨gr, ar, none⟩ (.int .i64 (ra - bb)) = w5 at *
                  clear cR0 fR0 cP0
                  have hrow5 := (M1.out.res (by omega)).2
                  have cR1 : w5.cell? ⟨gr, ta, none⟩ = some (.int .i64 rb) := by
                    rw [hrow5.cell htw, if_neg hne, HR2.out]
                  have fR1 := hrow5.frozen ta
                  clear hrow5
                  go_upto_region 33 with fail
                  have M2 := hide (M1.out.setR ta (rb + bb))
                  generalize w5.setCell ⟨gr, ta, none⟩ (.int .i64 (rb + bb)) = w6 at *
                  clear cR1 fR1
                  have cP2 : w6.cell? ⟨w.heap.size, n0, none⟩ = some (.int .i64 ((ar : Nat) : Int)) := by
                    rw [M2.out.par.cell hvV, HPA.out]
                  have cH2 : w6.cell? (adr aH ta) = some (.int .i64 ((n1 : Nat) : Int)) := by
                    rw [← HTL.out]; exact sv_cell' (HD.out.chg M2.out.chg HGO.out).hd ta htw
                  have FIN : Hid (EM w w6 N gr (some ⟨gr, 0, none⟩) (upd (upd r' ar (-bb)) ta bb) p2 q2 ∧ Aug N r0 r p2 k bb (upd (upd r' ar (-bb)) ta bb) (k2 + 1)) := hide ⟨M2.out.congrR (fun a ha => by
                    unfold upd
                    by_cases e1 : a = ta
                    · rw [if_pos e1, if_pos e1, if_neg (by rw [e1]; exact hne), e1, HR2.out]
                    · rw [if_neg e1, if_neg e1]
                      by_cases e2 : a = ar
                      · rw [if_pos e2, if_pos e2, e2, HR1.out]; omega
                      · rw [if_neg e2, if_neg e2]), A3.out⟩
                  clear M1 M2 EM1 A3
                  go_wp2_with fail
                  go_roundw
                  case rel => exact ⟨k2 + 1, _, by rw [HN1.out], FIN⟩
                  case measure => simpa [intOf] using HRK.out
            · as_aux_lemma =>
              have hbs : (((itn N p2 k : Nat) : Int) != ((N.s : Nat) : Int)) = true := by
                rw [bne_iff_ne]
                exact fun e => hks (by omega)
              obtain ⟨hpa, ham, hra, hhd, htl, hrk⟩ := PT.out.arc (k := k) (fun i hi => by
                by_cases e : i = k
                · rw [e]; exact hks
                · exact HB.out.ns i (by omega))
              have hvV := PT.out.lt _ (PT.out.at (k := k) HB.out.ns)
              have htw : tw (itA N p2 k) < N.m := tw_lt OK.out.even ham
              have cP0 : wr.cell? ⟨w.heap.size, itn N p2 k, none⟩ = some (.int .i64 ((itA N p2 k : Nat) : Int)) := by
                rw [← hpa]; exact MM.out.par.cell hvV
              obtain ⟨haR, hrow⟩ := MM.out.res (by omega)
              subst haR
              have cR0 : wr.cell? ⟨gr, itA N p2 k, none⟩ = some (.int .i64 (r (itA N p2 k))) := hrow.cell ham
              have cH0 : wr.cell? (adr aH (tw (itA N p2 k))) = some (.int .i64 ((itn N p2 (k + 1) : Nat) : Int)) := by
                rw [← htl]; exact sv_cell' ND.out.hd _ htw
              have hxor := xor_i64 (itA N p2 k) (by omega)
              have HRK := hide hrk
              have hcap := HRB.out _ ham
              have hsum := ES.out.rp _ ham
              have hrt := ES.out.rn _ htw
              have hrm : r (itA N p2 k) ≤ 9223372036854775807 := by omega
              have B1 : Hid (r (itA N p2 k) < bb → BN N r p2 (k + 1) (r (itA N p2 k))) := hide (fun h => HB.out.step hks (by omega) (by omega) hra)
              have B2 : Hid (¬ r (itA N p2 k) < bb → BN N r p2 (k + 1) bb) := hide (fun h => HB.out.step hks (by omega) (by omega) hb0)
              clear hpa hrow htl hrk hhd hcap hsum hrt hks HB
              generalize r (itA N p2 k) = ra at *
              generalize tw (itA N p2 k) = ta at *
              generalize itA N p2 k = ar at *
              by_cases hlt2 : ra < bb
              · have BB := hide (B1.out hlt2)
                clear B1 B2
                generalize hn1 : itn N p2 (k + 1) = n1 at *
                generalize itn N p2 k = n0 at *
                have HN1 := hide hn1
                clear hn1
                go_wp2_with fail
                go_round
                case rel => exact ⟨k + 1, ra, rfl, by rw [HN1.out], hra, hrm, BB⟩
                case measure => simpa [intOf] using HRK.out
              · have BB := hide (B2.out hlt2)
                clear B1 B2
                generalize hn1 : itn N p2 (k + 1) = n1 at *
                generalize itn N p2 k = n0 at *
                have HN1 := hide hn1
                clear hn1
                go_wp2_with fail
                go_round
                case rel => exact ⟨k + 1, bb, rfl, by rw [HN1.out], hb0, hbm, BB⟩
                case measure => simpa [intOf] using HRK.out
end Go.Proofs.Qxb6602686a
