import Derived.Test.Qxb6602686aDom
import Derived.Test.Qxb6602686aMem
namespace Go.Proofs.Qxb6602686a
open Go.RowKit

set_option maxHeartbeats 8000000 in
set_option maxRecDepth 100000 in
theorem domain19_any (v0 v1 v2 : Value) (s t : Int) (n m k : Nat) (A : Nat → Option Addr) (L C : Nat → Nat) (G : Nat → Nat → Int) (H R : Nat → Int) (w : World)
    (h0 : SS w v0 n A L C (fun i j => .int .i64 (G i j))) (h1 : SV w v1 m (fun a => .int .i64 (H a))) (h2 : SV w v2 k (fun a => .int .i64 (R a))) (fit : FitN n m k L) (hR : ∀ a, a < k → R a ≤ 9223372036854775807) :
    Calls Try.prog 19 #[v0, v1, v2, .int .i64 s, .int .i64 t] w fun e w' => RB e (DomN n m k L G H R s t ∧ w.heap.size < w'.heap.size) ∧ Below w.heap.size w w' := by
  obtain ⟨q0, q1, q2, hL⟩ := fit
  have H0 := hide h0
  have H1 := hide h1
  have H2 := hide h2
  obtain ⟨a1, c1, rfl, b1, ha1, hc1⟩ := h1
  obtain ⟨a2, c2, rfl, b2, ha2, hc2⟩ := h2
  obtain ⟨⟨a0, c0, rfl, b0, ha0, hc0⟩, hF⟩ := h0
  have HL := hide hL
  have HRm := hide hR
  clear hF hL hc0 hR
  have hix0 := fun w' i h0 hi => idx_any (P := Try.prog) Try.underlying29 sz30 (n := n) (a := a0) c0 ha0 w' i h0 hi
  have hix1 := fun w' i h0 hi => idx_any (P := Try.prog) Try.underlying30 sz3 (n := m) (a := a1) c1 ha1 w' i h0 hi
  have hix2 := fun w' i h0 hi => idx_any (P := Try.prog) Try.underlying31 sz2 (n := k) (a := a2) c2 ha2 w' i h0 hi
  have hmk := fun w => run_make_row' (P := Try.prog) 32 4 (.bool false) 1 Try.underlying32 info4 rfl .i64 .i64 m (by omega) (by omega) w
  clear ha0 ha1 ha2
  by_cases hs0 : s < 0
  · go_enter Try.func19, Try.ntmps19
    go_wp2_with fail
    go_ret
    exact ⟨RB.no _, Below.refl _ _⟩
  by_cases hsn : (n : Int) ≤ s
  · go_enter Try.func19, Try.ntmps19
    go_wp2_with fail
    go_ret
    exact ⟨RB.no _, Below.refl _ _⟩
  by_cases ht0 : t < 0
  · go_enter Try.func19, Try.ntmps19
    go_wp2_with fail
    go_ret
    exact ⟨RB.no _, Below.refl _ _⟩
  by_cases htn : (n : Int) ≤ t
  · go_enter Try.func19, Try.ntmps19
    go_wp2_with fail
    go_ret
    exact ⟨RB.no _, Below.refl _ _⟩
  by_cases hst : s = t
  · have hb : (s == t) = true := by simp [hst]
    clear hst
    go_enter Try.func19, Try.ntmps19
    go_wp2_with fail
    go_ret
    exact ⟨RB.no _, Below.refl _ _⟩
  have hb1 : (s == t) = false := by simp [hst]
  have HST := hide hst
  clear hst
  by_cases hkm : k = m
  rotate_left
  · have hb : (((k : Nat) : Int) != ((m : Nat) : Int)) = true := by rw [bne_iff_ne]; omega
    go_enter Try.func19, Try.ntmps19
    go_wp2_with fail
    go_ret
    exact ⟨RB.no _, Below.refl _ _⟩
  subst hkm
  have hb2 : (((k : Nat) : Int) != ((k : Nat) : Int)) = false := by simp
  by_cases hev : k % 2 = 0
  rotate_left
  · have hb : ((k : Int) % 2 != 0) = true := by rw [bne_iff_ne]; omega
    go_enter Try.func19, Try.ntmps19
    go_wp2_with fail
    go_ret
    exact ⟨RB.no _, Below.refl _ _⟩
  have hb3 : ((k : Int) % 2 != 0) = false := by rw [bne_eq_false_iff_eq]; omega
  have HEV := hide hev
  clear hev
  go_enter Try.func19, Try.ntmps19
  go_wp2_with fail
  go_loop [13] (fun i => ∃ j : Nat, j ≤ k ∧ i = .int .i64 j ∧ Hid (∀ a, a < j → 0 ≤ H a ∧ H a < n ∧ 0 ≤ R a)) (fun i => k - (intOf i).toNat)
  case atStart => exact ⟨0, by omega, rfl, hide (fun i hi => by omega)⟩
  case round =>
    obtain ⟨j, hj, rfl, HK⟩ := hrel
    by_cases hjk : j < k
    · have cH := hc1 j hjk
      have cR := hc2 j hjk
      by_cases g1 : H j < 0
      · go_wp2_with fail
        go_ret
        exact ⟨RB.no _, Below.refl _ _⟩
      by_cases g2 : (n : Int) ≤ H j
      · go_wp2_with fail
        go_ret
        exact ⟨RB.no _, Below.refl _ _⟩
      by_cases g3 : R j < 0
      · go_wp2_with fail
        go_ret
        exact ⟨RB.no _, Below.refl _ _⟩
      go_wp2_with fail
      go_round
      case rel => exact ⟨j + 1, by omega, by go_num, hide (fun a ha => by
        by_cases e : a = j
        · subst e; omega
        · exact HK.out a (by omega))⟩
      case measure => simp [intOf]; omega
    have hjk' : j = k := by omega
    subst hjk'
    have HH := HK
    clear HK hj hjk
    have HC1 := hide hc1
    have HC2 := hide hc2
    clear hc1 hc2
    go_wp2_with fail
    go_loopw [14] (fun i wr => ∃ e d : Nat, Hid (e % 2 = 0) ∧ e ≤ j ∧ i = .int .i64 (e : Int) ∧ wr = w.drewN d ∧ Hid (∀ c, 2 * c < e → R (2 * c) + R (2 * c + 1) ≤ 9223372036854775807)) (fun i _ => j - (intOf i).toNat)
    case atStart => exact ⟨0, 0, hide rfl, by omega, rfl, rfl, hide (fun i hi => by omega)⟩
    case round =>
      obtain ⟨e, d, HE, hej, rfl, rfl, HK⟩ := hrel
      by_cases hek : e < j
      · have hek2 : e + 1 < j := by have := HEV.out; have := HE.out; omega
        have cR := HC2.out e hek
        have cR' := HC2.out (e + 1) hek2
        have r1 := (HH.out e hek).2.2
        have r2 := (HH.out (e + 1) hek2).2.2
        have r3 := HRm.out (e + 1) hek2
        have hx1 : ∀ w', (Instr.indexAt 31 (.slice a2 j c2) (.int .i64 (e : Int))).run Try.prog w' = .ok (.pointer (some (adr a2 e))) w' := fun w' => by
          rw [hix2 w' _ (by omega) (by omega)]; rfl
        have hx2 : ∀ w', (Instr.indexAt 31 (.slice a2 j c2) (.int .i64 ((e : Int) + 1))).run Try.prog w' = .ok (.pointer (some (adr a2 (e + 1)))) w' := fun w' => by
          rw [hix2 w' _ (by omega) (by omega)]; rfl
        clear hix2
        by_cases hle : 9223372036854775807 - R (e + 1) < R e
        · go_wp2_with fail
          go_quiet (fail)
          go_wp2_with fail
          go_ret
          exact ⟨RB.no _, below_drewN (below_drewN (Below.refl _ _) _) _⟩
        · go_wp2_with fail
          go_quiet (fail)
          go_wp2_with fail
          go_roundw
          case rel => exact ⟨e + 2, _, hide (by have := HE.out; omega), by omega, by go_num, rfl, hide (fun c hc => by
            have := HE.out
            by_cases e2 : 2 * c = e
            · subst e2; omega
            · exact HK.out c (by omega))⟩
          case measure => simp [intOf]; omega
      have hek' : e = j := by omega
      subst hek'
      have HP : Hid (∀ c, 2 * c < e → R (2 * c) + R (2 * c + 1) ≤ 9223372036854775807) := hide (fun c hc => HK.out c (by omega))
      have BEL := hide (below_drewN (Below.refl w.heap.size w) d)
      generalize w.drewN d = w1 at *
      clear HK hek hej HC1 HC2
      go_wp2_with fail
      have BEL2 := hide (BEL.out.alloc BEL.out.size (.cells (madeCells #[.bool false] e) 4))
      have SEEN := hide (World.rowIs_made w1 (.bool false) e 4)
      have hg := BEL.out.size
      generalize w1.heap.size = g at *
      generalize w1.alloc (.cells (madeCells #[.bool false] e) 4) = w2 at *
      clear BEL hmk
      go_loopw [16] (fun i wr => ∃ (v : Nat) (seen : Nat → Bool), v ≤ n ∧ i = .int .i64 (v : Int) ∧ Hid (Below w.heap.size w wr ∧ wr.rowIs g 4 e (fun a => .bool (seen a)) ∧ SeenI e L G H seen v 0)) (fun i _ => n - (intOf i).toNat)
      case atStart => exact ⟨0, fun _ => false, by omega, rfl, hide ⟨BEL2.out, SEEN.out, SeenI.start _ _ _ _⟩⟩
      case round =>
        obtain ⟨v, seen, hvn, rfl, HI⟩ := hrel
        by_cases hv : v < n
        · have hcA : wr.cell? (adr a0 v) = some (.slice (A v) (L v) (C v)) := sv_cell' (H0.out.1.below HI.out.1) v hv
          have hlv := HL.out v hv
          obtain ⟨wk, hwk⟩ : ∃ wk, wk = wr := ⟨wr, rfl⟩
          subst hwk
          go_wp2_with fail
          go_loopw [110] (fun i wr => ∃ (j : Nat) (seen : Nat → Bool), j ≤ L v ∧ i = .int .i64 (j : Int) ∧ Hid (Below w.heap.size w wr ∧ wr.rowIs g 4 e (fun a => .bool (seen a)) ∧ SeenI e L G H seen v j)) (fun i _ => L v - (intOf i).toNat)
          case atStart => exact ⟨0, seen, by omega, rfl, HI⟩
          case round =>
            obtain ⟨j, seen', hjl, rfl, HJ⟩ := hrel
            by_cases hj : j < L v
            · have hcr : wr.cell? (adr (A v) j) = some (.int .i64 (G v j)) := sv_cell' ((H0.out.2 v hv).below HJ.out.1) j hj
              have hixr := fun w' i h0 hi => idx_any (P := Try.prog) Try.underlying30 sz3 (n := L v) (a := A v) (C v) (sv_some' (H0.out.2 v hv)) w' i h0 hi
              by_cases g1 : G v j < 0
              · generalize G v j = gv at *
                go_wp2_with fail
                go_ret
                exact ⟨RB.no _, HJ.out.1⟩
              by_cases g2 : (e : Int) ≤ G v j
              · generalize G v j = gv at *
                go_wp2_with fail
                go_ret
                exact ⟨RB.no _, HJ.out.1⟩
              obtain ⟨a, ha⟩ : ∃ a : Nat, G v j = a := ⟨(G v j).toNat, by omega⟩
              have hae : a < e := by omega
              have HA := hide ha
              rw [ha] at hcr
              clear g1 g2 ha
              have hcs : wr.cell? ⟨g, a, none⟩ = some (.bool (seen' a)) := HJ.out.2.1.cell hae
              have hfz := HJ.out.2.1.frozen a
              have hxor := xor_i64 a (by omega)
              have htw : tw a < e := tw_lt HEV.out hae
              have hcH : wr.cell? (adr a1 (tw a)) = some (.int .i64 (H (tw a))) := sv_cell' (H1.out.below HJ.out.1) (tw a) htw
              cases hsa : seen' a with
              | true =>
                rw [hsa] at hcs
                clear hsa
                go_wp2_with fail
                go_ret
                exact ⟨RB.no _, HJ.out.1⟩
              | false =>
                rw [hsa] at hcs
                have HSA := hide hsa
                clear hsa
                by_cases hh : H (tw a) = v
                · have hbb : (H (tw a) != (v : Int)) = false := by simp [hh]
                  have HN : Hid (Below w.heap.size w (wr.setCell ⟨g, a, none⟩ (.bool true)) ∧ (wr.setCell ⟨g, a, none⟩ (.bool true)).rowIs g 4 e (fun i => .bool (if i = a then true else seen' i)) ∧ SeenI e L G H (fun i => if i = a then true else seen' i) v (j + 1)) :=
                    hide ⟨HJ.out.1.setCell hg _, (HJ.out.2.1.set a (.bool true)).congr (fun i _ => by by_cases e1 : i = a <;> simp [e1]), HJ.out.2.2.step HA.out hae HSA.out hh⟩
                  clear hh
                  generalize H (tw a) = hz at *
                  generalize tw a = ta at *
                  go_wp2_with fail
                  go_roundw
                  case rel => exact ⟨j + 1, _, by omega, by go_num, HN⟩
                  case measure => simp [intOf]; omega
                · have hbb : (H (tw a) != (v : Int)) = true := by simp [hh]
                  clear hh
                  generalize H (tw a) = hz at *
                  generalize tw a = ta at *
                  go_wp2_with fail
                  go_ret
                  exact ⟨RB.no _, HJ.out.1⟩
            · have hjl' : L v = j := by omega
              have HN : Hid (Below w.heap.size w wr ∧ wr.rowIs g 4 e (fun a => .bool (seen' a)) ∧ SeenI e L G H seen' (v + 1) 0) := hide ⟨HJ.out.1, HJ.out.2.1, (show SeenI e L G H seen' v (L v) by rw [hjl']; exact HJ.out.2.2).close⟩
              clear hjl'
              go_wp2_with fail
              go_roundw
              case rel => exact ⟨v + 1, _, by omega, by go_num, HN⟩
              case measure => simp [intOf]; omega
        · have hvn' : n = v := by omega
          subst hvn'
          clear hv hvn
          obtain ⟨wk, hwk⟩ : ∃ wk, wk = wr := ⟨wr, rfl⟩
          subst hwk
          go_wp2_with fail
          go_loop [19] (fun i => ∃ a : Nat, a ≤ e ∧ i = .int .i64 (a : Int) ∧ Hid (∀ b, b < a → seen b = true)) (fun i => e - (intOf i).toNat)
          case atStart => exact ⟨0, by omega, rfl, hide (fun b hb => by omega)⟩
          case round =>
            obtain ⟨a, hae, rfl, HK⟩ := hrel
            by_cases hal : a < e
            · have hcs : wk.cell? ⟨g, a, none⟩ = some (.bool (seen a)) := HI.out.2.1.cell hal
              cases hsa : seen a with
              | true =>
                rw [hsa] at hcs
                have HN : Hid (∀ b, b < a + 1 → seen b = true) := hide (fun b hb => by
                  by_cases e1 : b = a
                  · rw [e1]; exact hsa
                  · exact HK.out b (by omega))
                clear hsa
                go_wp2_with fail
                go_round
                case rel => exact ⟨a + 1, by omega, by go_num, HN⟩
                case measure => simp [intOf]; omega
              | false =>
                rw [hsa] at hcs
                clear hsa
                go_wp2_with fail
                go_ret
                exact ⟨RB.no _, HI.out.1⟩
            · have HALL : Hid (∀ b, b < e → seen b = true) := hide (fun b hb => HK.out b (by omega))
              clear HK
              obtain ⟨sn, hsn'⟩ : ∃ sn : Nat, s = sn := ⟨s.toNat, by omega⟩
              subst hsn'
              have hsn2 : sn < n := by omega
              have hcA : wk.cell? (adr a0 sn) = some (.slice (A sn) (L sn) (C sn)) := sv_cell' (H0.out.1.below HI.out.1) sn hsn2
              have hls := HL.out sn hsn2
              go_wp2_with fail
              go_loop [20, 155] (fun o i => ∃ (j : Nat) (z : Int), j ≤ L sn ∧ i = .int .i64 (j : Int) ∧ o = .int .i64 z ∧ 0 ≤ z ∧ z ≤ 9223372036854775807 ∧ Hid (z = sm (fun i => R (G sn i).toNat) j)) (fun _ i => L sn - (intOf i).toNat)
              case atStart => exact ⟨0, 0, by omega, rfl, rfl, by omega, by omega, hide rfl⟩
              case round =>
                obtain ⟨j, z, hjl, rfl, rfl, hz0, hzm, HZ⟩ := hrel
                by_cases hj : j < L sn
                · have hcr : wk.cell? (adr (A sn) j) = some (.int .i64 (G sn j)) := sv_cell' ((H0.out.2 sn hsn2).below HI.out.1) j hj
                  have hixr := fun w' i h0 hi => idx_any (P := Try.prog) Try.underlying30 sz3 (n := L sn) (a := A sn) (C sn) (sv_some' (H0.out.2 sn hsn2)) w' i h0 hi
                  obtain ⟨g1, g2, _, _⟩ := HI.out.2.2.ok sn j (.inl ⟨hsn2, hj⟩)
                  obtain ⟨a', ha⟩ : ∃ a : Nat, G sn j = a := ⟨(G sn j).toNat, by omega⟩
                  have ham : a' < e := by omega
                  have HA := hide ha
                  rw [ha] at hcr
                  clear g1 g2 ha
                  have hcR : wk.cell? (adr a2 a') = some (.int .i64 (R a')) := sv_cell' (H2.out.below HI.out.1) a' ham
                  have hr0 := (HH.out a' ham).2.2
                  have hrm := HRm.out a' ham
                  have HZ' : Hid (z + R a' = sm (fun i => R (G sn i).toNat) (j + 1)) := hide (by
                    show z + R a' = sm (fun i => R (G sn i).toNat) j + R (G sn j).toNat
                    rw [← HZ.out, HA.out, Int.toNat_natCast])
                  generalize R a' = ra at *
                  by_cases hgt : 9223372036854775807 - z < ra
                  · go_wp2_with fail
                    go_ret
                    exact ⟨RB.no _, HI.out.1⟩
                  · go_wp2_with fail
                    go_round
                    case rel => exact ⟨j + 1, z + ra, by omega, by go_num, by go_num, by omega, by omega, HZ'⟩
                    case measure => simp [intOf]; omega
                · have hjl' : L sn = j := by omega
                  have FIN : Hid (DomN n e e L G H R (sn : Int) t) := hide (DomN.mk' hs0 hsn ht0 htn HST.out HEV.out HH.out HP.out HI.out.2.2 HALL.out (by
                    show sm (fun i => R (G (sn : Int).toNat i).toNat) (L (sn : Int).toNat) ≤ 9223372036854775807
                    rw [Int.toNat_natCast, hjl', ← HZ.out]; exact hzm))
                  clear hjl'
                  go_wp2_with fail
                  go_ret
                  exact ⟨RB.yes ⟨FIN.out, Nat.lt_of_le_of_lt hg HI.out.2.1.lt⟩, HI.out.1⟩
end Go.Proofs.Qxb6602686a
