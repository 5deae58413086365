import Derived.Test.Qxb6604601aFn6
import Derived.ProofKit
import Derived.OpenShut
import Derived.Laws.IdiomArrays
namespace Go.Proofs.Qxb6604601a.fn6
open Go.ChangeShapes Go.WideShapes Go.ChangeAt Go.RowKit

theorem own : ownKnob Try.prog.godebug = none := by kernel_rfl
theorem cells22 : Try.prog.cellsOf 22 = 1 := by kernel_rfl
theorem cells34 : Try.prog.cellsOf 34 = 4 := by kernel_rfl

theorem list4 {α : Type} (l : List α) (h : (⟨l⟩ : Array α).size = 4) : ∃ a b c d, l = [a, b, c, d] := by
  match l, h with
  | [a, b, c, d], _ => exact ⟨a, b, c, d, rfl⟩
theorem wd {x0 x1 x2 x3 : Int} (w0 : (Lit.int .u64 x0).wf = true) (w1 : (Lit.int .u64 x1).wf = true) (w2 : (Lit.int .u64 x2).wf = true) (w3 : (Lit.int .u64 x3).wf = true) : Wd x0 x1 x2 x3 := by
  intro k
  unfold nx
  have b0 := bounds_u64 w0
  have b1 := bounds_u64 w1
  have b2 := bounds_u64 w2
  have b3 := bounds_u64 w3
  split
  · exact b0
  · split
    · exact b1
    · split
      · exact b2
      · exact b3

set_option maxHeartbeats 400000 in
set_option maxRecDepth 100000 in
theorem lifted (os : Os) (started : os.Started) (H : Type) (enc : TypeId × Value → H) :
    ReturnsInHanded {} Try.checked os 6 .any (Rows.fnByteSetAddCountsNewMembersSpec.pre6 enc Try.prog Try.f6 Rows.fnByteSetAddCountsNewMembersRow.domain false) (Rows.fnByteSetAddCountsNewMembersSpec.post enc Try.prog Try.f6 false true false false) := by
  refine returnsInHanded_of_change (C := Try.checked) own started (by kernel_rfl) Try.func6
    (ChangeSpec.witness6 (enc := enc) (C := Try.checked) false ⟨#[], #[.agg #[.int .u64 0, .int .u64 0, .int .u64 0, .int .u64 0], .int .u8 0, .int .u8 0], []⟩ 8 (by kernel_rfl) (by kernel_rfl) (by kernel_rfl) (by kernel_rfl)) ?_
  intro W base args ds gs before hval0 hW hcnd _
  have hval : ∀ (j : Nat) t v, Try.f6.params[j]? = some t → args[j]? = some v → Value.okWide Try.prog W .any base t v := hval0
  have hW' := hW
  obtain ⟨p, q, hA0, hV, rfl, hfz, hnd⟩ := hW
  have hA : DataW.TrodAll enc Try.prog W 0 (fun _ => true) true Try.f6.params.toList args.toList ds p := hA0
  rw [Try.params6] at hA hval
  obtain ⟨v0, vs0, d0, ds0, p0, q0, hargs, rfl, rfl, h0, r0⟩ := trodAll_cons hA
  obtain ⟨v1, vs1, d1, ds1, p1, q1, rfl, rfl, rfl, h1, r1⟩ := trodAll_cons r0
  obtain ⟨v2, vs2, d2, ds2, p2, q2, rfl, rfl, rfl, h2, r2⟩ := trodAll_cons r1
  obtain ⟨rfl, rfl, rfl⟩ := trodAll_nil r2
  obtain rfl : args = #[v0, v1, v2] := by cases args; simp_all
  obtain ⟨rfl, rfl⟩ := trodVars_none hV
  obtain ⟨cs, rfl, hsz, _⟩ : ∃ cs, v0 = .agg cs ∧ cs.size = Try.prog.cellsOf 34 ∧ Row.okWide Try.prog W .any base 34 cs := by
    have := hval 0 34 v0 rfl rfl
    simpa [Value.okWide, Try.underlying34] using this
  rw [cells34] at hsz
  obtain ⟨l⟩ := cs
  obtain ⟨c0, c1, c2, c3, rfl⟩ := list4 l hsz
  obtain ⟨fuel, hf⟩ := h0
  obtain ⟨y0, y1, y2, y3, m, hx, hy0, hy1, hy2, hy3⟩ := trod_array4 Try.underlying34 cells22 hf
  obtain ⟨x0, e0, rfl, w0⟩ := DataW.trod_int Try.underlying22 hy0
  obtain ⟨x1, e1, rfl, w1⟩ := DataW.trod_int Try.underlying22 hy1
  obtain ⟨x2, e2, rfl, w2⟩ := DataW.trod_int Try.underlying22 hy2
  obtain ⟨x3, e3, rfl, w3⟩ := DataW.trod_int Try.underlying22 hy3
  simp at e0 e1 e2 e3
  subst e0 e1 e2 e3
  simp only [Prod.mk.injEq] at hx
  obtain ⟨rfl, rfl⟩ := hx
  obtain ⟨a, rfl, rfl, rfl, wa⟩ := open_int Try.underlying5 (hval 1 5 v1 rfl rfl) h1
  obtain ⟨b, rfl, rfl, rfl, wb⟩ := open_int Try.underlying5 (hval 2 5 v2 rfl rfl) h2
  have ba := bounds_u8 wa
  have bb := bounds_u8 wb
  clear hA0 hval0
  simp only [List.append_nil] at hW'
  refine (walk6 x0 x1 x2 x3 a b (wd w0 w1 w2 w3) ba.1 (by omega) bb.1 (by omega) W).mono fun e W' ⟨he, hg⟩ => ?_
  subst he
  have rdA : ∀ sp : Nat → Bool, DataW.Trod enc Try.prog W' 0 sp true 34 (.agg #[.int .u64 x0, .int .u64 x1, .int .u64 x2, .int .u64 x3]) (DataW.agg [.lit (.int .u64 x0), .lit (.int .u64 x1), .lit (.int .u64 x2), .lit (.int .u64 x3)]) [] := fun sp => ⟨2, by simp [DataW.trod, Value.cells, Try.underlying34, Try.underlying22, cells34, cells22, w0, w1, w2, w3, show List.range 4 = [0, 1, 2, 3] from rfl]⟩
  exact ⟨_, rfl, post_of_same (pa := []) (pv := []) hW' (fun _ _ _ => (trodAll_cons_mk (shut_bool Try.underlying4 _) trodAll_mk0)) (fun sp _ => (trodAll_cons_mk (rdA sp) (trodAll_cons_mk (shut_int Try.underlying5 wa) (trodAll_cons_mk (shut_int Try.underlying5 wb) trodAll_mk0)))) (fun _ _ => rfl) rfl
    (hg.frame _) hg.2.1 (ok_one (by kernel_rfl) rfl (okWide_bool_mk Try.underlying4 _))⟩

theorem proved : Rows.FnByteSetAddCountsNewMembersSaid :=
  OpenClaim.holds_of_wide 6 Try.f6 rfl rfl rfl rfl rfl rfl rfl ⟨rfl, rfl, rfl, rfl, rfl⟩ rfl rfl rfl rfl rfl (by kernel_rfl) Try.func6 (by kernel_rfl)
    (of_decide_eq_true (by kernel_rfl)) (by unfold Func.isWrapper; first | (rw [if_pos (by decide +kernel)]; kernel_rfl) | (rw [if_neg (by decide +kernel)]; exact ⟨rfl, rfl⟩))
    (fun os started H enc _ => lifted os started H enc)
end Go.Proofs.Qxb6604601a.fn6
