import Derived.Test.Qxb6602675aWalkC
import Derived.WalkKit
import Derived.ProofKit
import Derived.OpenShut
import Derived.ShutString
namespace Go.Proofs.Qxb6602675a.fnTimeDigitsOrderAgreesWithText
open Go.ChangeShapes Go.WideShapes Go.ChangeAt Go.RowKit
open Go.ChangeMaps (open_string shut_string)
set_option linter.unusedVariables false      -- a walk need not use every 'w<i>' (that an integer argument fits its kind)

theorem own : ownKnob Try.prog.godebug = none := by kernel_rfl

/-! ### STEP 1: THE WALK: the Go text returns true. 'Grown w w'': the world has at most new blocks (Derived/RowKit3.lean). Part the cases AHEAD of 'go_enter' where a test parts the walk; take each callee by a contract of your own. -/
/-- how the digits and the texts compare, case by case -/
theorem order (a b : ByteArray) (ha : okTo a 19) (hb : okTo b 19) : ∃ n, n ≤ 19 ∧ (∀ j, j < n → bt a j = bt b j) ∧
    ((n = 19 ∧ dg a 19 = dg b 19) ∨ (n < 19 ∧ bt a n < bt b n ∧ dg a 19 < dg b 19) ∨ (n < 19 ∧ bt b n < bt a n ∧ dg b 19 < dg a 19)) := by
  obtain ⟨n, hn, he, hd⟩ := first_diff a b 19 (by omega)
  refine ⟨n, hn, he, ?_⟩
  by_cases h : n < 19
  · have hne := hd h
    by_cases g : bt a n < bt b n
    · exact .inr (.inl ⟨h, g, dg_lt19 n h ha hb he g⟩)
    · have g' : bt b n < bt a n := by omega
      exact .inr (.inr ⟨h, g', dg_lt19 n h hb ha (fun j hj => (he j hj).symm) g'⟩)
  · have e : n = 19 := by omega
    subst e
    exact .inl ⟨rfl, dg_congr 19 he⟩

set_option maxHeartbeats 2000000 in
theorem walk (a0 : ByteArray) (a1 : ByteArray) (w0 : a0.size ≤ maxLen) (w1 : a1.size ≤ maxLen) (w : World) :
    Calls Try.prog 4 #[.string a0, .string a1] w fun e w' => e = .returned (.bool true) ∧ Grown w w' := by
  by_cases hl : a0.size + a1.size ≤ 1048576
  · have h1 : ¬ (1048576 : Int) < (a0.size : Int) := by omega
    have h2 : ¬ (1048576 : Int) < (a1.size : Int) := by omega
    have h3 : ¬ (1048576 : Int) < (a0.size : Int) + (a1.size : Int) := by omega
    by_cases hs : a0.size = 19
    · obtain ⟨n, hn, hok, hbad⟩ := first_bad a0 19 (by omega)
      have HO : Hid (okTo a0 n) := hok
      have HD : Hid (n < 19 → okAt a0 n = false) := hbad
      have HS : Hid (a0.size = 19) := hs
      clear hok hbad hs
      by_cases hn19 : n = 19
      · subst hn19
        by_cases ks : a1.size = 19
        · obtain ⟨m, hm, kok, kbad⟩ := first_bad a1 19 (by omega)
          have KO : Hid (okTo a1 m) := kok
          have KD : Hid (m < 19 → okAt a1 m = false) := kbad
          have KS : Hid (a1.size = 19) := ks
          clear kok kbad ks
          by_cases hm19 : m = 19
          · subst hm19
            obtain ⟨p, hp, he, hcs⟩ := order a0 a1 HO.out KO.out
            have HE : Hid (∀ j, j < p → bt a0 j = bt a1 j) := he
            clear he
            rcases hcs with ⟨c1, c2⟩ | ⟨c1, c2, c3⟩ | ⟨c1, c2, c3⟩
            · have d1 : ¬ dg a0 19 < dg a1 19 := by omega
              have d2 : ¬ dg a1 19 < dg a0 19 := by omega
              clear c2
              go_enter Try.func4, Try.ntmps4
              go_wp2_with fail
              refine (bytes2_fit a0 a1 _ hl).mono ?_
              rintro e w' ⟨rfl, rfl⟩
              go_wp2_with fail
              refine (shape_full a0 _ HS.out 19 (by omega) HO.out HD.out true rfl).mono ?_
              rintro e w' ⟨rfl, rfl⟩
              go_wp2_with fail
              refine (shape_full a1 _ KS.out 19 (by omega) KO.out KD.out true rfl).mono ?_
              rintro e w' ⟨rfl, rfl⟩
              go_wp2_with fail
              refine (dig_full a0 _ HS.out 19 (by omega) HO.out HD.out true rfl (dg a0 19) rfl).mono ?_
              rintro e w' ⟨rfl, x, rfl⟩
              go_wp2_with fail
              refine (dig_full a1 _ KS.out 19 (by omega) KO.out KD.out true rfl (dg a1 19) rfl).mono ?_
              rintro e w' ⟨rfl, y, rfl⟩
              go_wp2_with fail
              refine (cmp_any a0 a1 _ HS.out KS.out p hp HE.out 0 (.inl ⟨c1, rfl⟩)).mono ?_
              rintro e w' ⟨rfl, z, rfl⟩
              go_wp2_with fail
              go_ret
              exact ⟨by simp, Grown.refl _⟩
            · go_enter Try.func4, Try.ntmps4
              go_wp2_with fail
              refine (bytes2_fit a0 a1 _ hl).mono ?_
              rintro e w' ⟨rfl, rfl⟩
              go_wp2_with fail
              refine (shape_full a0 _ HS.out 19 (by omega) HO.out HD.out true rfl).mono ?_
              rintro e w' ⟨rfl, rfl⟩
              go_wp2_with fail
              refine (shape_full a1 _ KS.out 19 (by omega) KO.out KD.out true rfl).mono ?_
              rintro e w' ⟨rfl, rfl⟩
              go_wp2_with fail
              refine (dig_full a0 _ HS.out 19 (by omega) HO.out HD.out true rfl (dg a0 19) rfl).mono ?_
              rintro e w' ⟨rfl, x, rfl⟩
              go_wp2_with fail
              refine (dig_full a1 _ KS.out 19 (by omega) KO.out KD.out true rfl (dg a1 19) rfl).mono ?_
              rintro e w' ⟨rfl, y, rfl⟩
              go_wp2_with fail
              refine (cmp_any a0 a1 _ HS.out KS.out p hp HE.out (-1) (.inr (.inl ⟨c1, c2, rfl⟩))).mono ?_
              rintro e w' ⟨rfl, z, rfl⟩
              go_wp2_with fail
              go_ret
              exact ⟨by simp, Grown.refl _⟩
            · have d1 : ¬ dg a0 19 < dg a1 19 := by omega
              go_enter Try.func4, Try.ntmps4
              go_wp2_with fail
              refine (bytes2_fit a0 a1 _ hl).mono ?_
              rintro e w' ⟨rfl, rfl⟩
              go_wp2_with fail
              refine (shape_full a0 _ HS.out 19 (by omega) HO.out HD.out true rfl).mono ?_
              rintro e w' ⟨rfl, rfl⟩
              go_wp2_with fail
              refine (shape_full a1 _ KS.out 19 (by omega) KO.out KD.out true rfl).mono ?_
              rintro e w' ⟨rfl, rfl⟩
              go_wp2_with fail
              refine (dig_full a0 _ HS.out 19 (by omega) HO.out HD.out true rfl (dg a0 19) rfl).mono ?_
              rintro e w' ⟨rfl, x, rfl⟩
              go_wp2_with fail
              refine (dig_full a1 _ KS.out 19 (by omega) KO.out KD.out true rfl (dg a1 19) rfl).mono ?_
              rintro e w' ⟨rfl, y, rfl⟩
              go_wp2_with fail
              refine (cmp_any a0 a1 _ HS.out KS.out p hp HE.out 1 (.inr (.inr ⟨c1, c2, rfl⟩))).mono ?_
              rintro e w' ⟨rfl, z, rfl⟩
              go_wp2_with fail
              go_ret
              exact ⟨by simp, Grown.refl _⟩
          · go_enter Try.func4, Try.ntmps4
            go_wp2_with fail
            refine (bytes2_fit a0 a1 _ hl).mono ?_
            rintro e w' ⟨rfl, rfl⟩
            go_wp2_with fail
            refine (shape_full a0 _ HS.out 19 (by omega) HO.out HD.out true rfl).mono ?_
            rintro e w' ⟨rfl, rfl⟩
            go_wp2_with fail
            refine (shape_full a1 _ KS.out m hm KO.out KD.out false (by simp [hm19])).mono ?_
            rintro e w' ⟨rfl, rfl⟩
            go_wp2_with fail
            go_ret
            exact ⟨rfl, Grown.refl _⟩
        · go_enter Try.func4, Try.ntmps4
          go_wp2_with fail
          refine (bytes2_fit a0 a1 _ hl).mono ?_
          rintro e w' ⟨rfl, rfl⟩
          go_wp2_with fail
          refine (shape_full a0 _ HS.out 19 (by omega) HO.out HD.out true rfl).mono ?_
          rintro e w' ⟨rfl, rfl⟩
          go_wp2_with fail
          refine (shape_short a1 _ ks).mono ?_
          rintro e w' ⟨rfl, rfl⟩
          go_wp2_with fail
          go_ret
          exact ⟨rfl, Grown.refl _⟩
      · go_enter Try.func4, Try.ntmps4
        go_wp2_with fail
        refine (bytes2_fit a0 a1 _ hl).mono ?_
        rintro e w' ⟨rfl, rfl⟩
        go_wp2_with fail
        refine (shape_full a0 _ HS.out n hn HO.out HD.out false (by simp [hn19])).mono ?_
        rintro e w' ⟨rfl, rfl⟩
        go_wp2_with fail
        go_ret
        exact ⟨rfl, Grown.refl _⟩
    · go_enter Try.func4, Try.ntmps4
      go_wp2_with fail
      refine (bytes2_fit a0 a1 _ hl).mono ?_
      rintro e w' ⟨rfl, rfl⟩
      go_wp2_with fail
      refine (shape_short a0 _ hs).mono ?_
      rintro e w' ⟨rfl, rfl⟩
      go_wp2_with fail
      go_ret
      exact ⟨rfl, Grown.refl _⟩
  · go_enter Try.func4, Try.ntmps4
    go_wp2_with fail
    refine (bytes2_long a0 a1 _ w0 w1 hl).mono ?_
    rintro e w' ⟨rfl, rfl⟩
    go_wp2_with fail
    go_ret
    exact ⟨rfl, Grown.refl _⟩

/-! ### THE ROW's STEP: WRITTEN OUT: LEAVE IT -/
set_option maxRecDepth 100000 in
theorem lifted (os : Os) (started : os.Started) (H : Type) (enc : TypeId × Value → H) :
    ReturnsInHanded {} Try.checked os 4 .any (Rows.fnTimeDigitsOrderAgreesWithTextSpec.pre6 enc Try.prog Try.f4 Rows.fnTimeDigitsOrderAgreesWithTextRow.domain false) (Rows.fnTimeDigitsOrderAgreesWithTextSpec.post enc Try.prog Try.f4 false true false false) := by
  refine returnsInHanded_of_change (C := Try.checked) own started (by kernel_rfl) Try.func4
    (ChangeSpec.witness6 (enc := enc) (C := Try.checked) false ⟨#[], #[.string ByteArray.empty, .string ByteArray.empty], []⟩ 8 (by kernel_rfl) (by kernel_rfl) (by kernel_rfl) (by kernel_rfl)) ?_
  intro W base args ds gs before hval0 hW hcnd _
  have hval : ∀ (j : Nat) t v, Try.f4.params[j]? = some t → args[j]? = some v → Value.okWide Try.prog W .any base t v := hval0
  have hW' := hW
  obtain ⟨p, q, hA0, hV, rfl, hfz, hnd⟩ := hW
  have hA : DataW.TrodAll enc Try.prog W 0 (fun _ => true) true Try.f4.params.toList args.toList ds p := hA0
  rw [Try.params4] at hA hval
  obtain ⟨v0, vs0, d0, ds0, p0, q0, hargs, rfl, rfl, h0, r0⟩ := trodAll_cons hA
  obtain ⟨v1, vs1, d1, ds1, p1, q1, rfl, rfl, rfl, h1, r1⟩ := trodAll_cons r0
  obtain ⟨rfl, rfl, rfl⟩ := trodAll_nil r1
  obtain rfl : args = #[v0, v1] := by cases args; simp_all
  obtain ⟨rfl, rfl⟩ := trodVars_none hV
  obtain ⟨a0, rfl, rfl, rfl, w0⟩ := open_string Try.underlying9 (hval 0 9 v0 rfl rfl) h0
  obtain ⟨a1, rfl, rfl, rfl, w1⟩ := open_string Try.underlying9 (hval 1 9 v1 rfl rfl) h1
  clear hA0 hval0
  simp only [List.append_nil] at hW'
  refine (walk a0 a1 w0 w1 W).mono fun e W' ⟨he, hg⟩ => ?_
  subst he
  exact ⟨_, rfl, post_of_same (pa := []) (pv := []) hW' (fun _ _ _ => (trodAll_cons_mk (shut_bool Try.underlying4 _) trodAll_mk0)) (fun sp _ => (trodAll_cons_mk (shut_string Try.underlying9 w0) (trodAll_cons_mk (shut_string Try.underlying9 w1) trodAll_mk0))) (fun _ _ => rfl) rfl
    (hg.frame _) hg.2.1 (ok_one (by kernel_rfl) rfl (okWide_bool_mk Try.underlying4 _))⟩

theorem over : Rows.fnTimeDigitsOrderAgreesWithTextRow.holds Try.pinned (OpenSpec.ofChange Rows.fnTimeDigitsOrderAgreesWithTextSpec) :=
  OpenClaim.holds_of_wide 4 Try.f4 rfl rfl rfl rfl rfl rfl rfl ⟨rfl, rfl, rfl, rfl, rfl⟩ rfl rfl rfl rfl rfl (by kernel_rfl) Try.func4 (by kernel_rfl)
    (of_decide_eq_true (by kernel_rfl)) (by unfold Func.isWrapper; first | (rw [if_pos (by decide +kernel)]; kernel_rfl) | (rw [if_neg (by decide +kernel)]; exact ⟨rfl, rfl⟩))
    (fun os started H enc _ => lifted os started H enc)

/-- ████ THE STATEMENT ████ -/
theorem proved : Rows.FnTimeDigitsOrderAgreesWithTextSaid :=
  over
end Go.Proofs.Qxb6602675a.fnTimeDigitsOrderAgreesWithText
