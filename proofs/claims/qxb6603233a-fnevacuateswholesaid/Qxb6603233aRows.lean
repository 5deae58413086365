/-
  No cell of these rows narrows 'for every input' (looked for: loops, veiled, ifaces, maps, wideKeys, modest, calm, conditions, laid).
  DERIVED. THE GIVEN ROWS OF THIS SEAT. 4 by the template 'for every input the law returns true; each argument reads behind the call as it read before'; 0 by the template 'total and deterministic' (their statements: Qxb6603233aTotals.lean).
  GIVEN WITH THE SEED: the statements are not yours to turn. If you find one false, say at which input.
  Laid BY PROGRAM, IN A SANDBOX (cutbox-rows.mjs): the forced cells as the released guide's own fill.sh prints them over the translation 24370b4ff4996e27… (all of the seat's roots in one cut). By AI agents, Wed Nov 11 2026. No macro, syntax, notation, axiom, sorry.
-/
import Derived.Test.Qxb6603233aChecked
import GoSem.Claim
import GoSem.ClaimJoined
import GoSem.ClaimMapViews
import Derived.JoinedTies
import Derived.KernelRfl
namespace Go.Proofs.Qxb6603233a
/- THE CELL 'sum', in the pinned program and in every row, IS THE sha256 OF THE DUMP (.gsa) THAT Qxb6603233aProg.lean LOADS. Nothing in Lean hashes anything: it is a label: what it is worth is what the hold of that sum in a sandbox is worth. -/
noncomputable def Try.pinned : Pinned := { name := "qxb6603233a", sum := "24370b4ff4996e271e7fd445e415532409f8535ef4f1bf6c9889a1e969a650de", checked := Try.checked }
namespace Rows
def none {H : Type} : Left H := { results := [], args := [] }

/-- 'zzlaws_pkg_nova_b1.FnKindWhole': WHATEVER THE INPUT: true; the input reads as it did. -/
def fnKindWholeSpec : ChangeSpec := { name := "fnKindWhole", fn := fun _ => fun
  | [d1, d2, d3, d4, d5, d6, d7, d8, d9, d10] => { results := [.lit (.bool true)], args := [d1, d2, d3, d4, d5, d6, d7, d8, d9, d10] }
  | _ => none }
def fnKindWholeRow : OpenClaim := { program := "qxb6603233a", sum := "24370b4ff4996e271e7fd445e415532409f8535ef4f1bf6c9889a1e969a650de", func := "example.com/hostwise/hostwise/zzlaws_pkg_nova_b1.FnKindWhole", spec := "fnKindWhole", apart := false }
def FnKindWholeSaid : Prop := fnKindWholeRow.holds Try.pinned (OpenSpec.ofChange fnKindWholeSpec)

/-- ITS FALSE NEIGHBOUR: 'it returns false'. Refute it at one input. -/
def fnKindWholeWrong : ChangeSpec := { name := "fnKindWhole", fn := fun _ => fun
  | [d1, d2, d3, d4, d5, d6, d7, d8, d9, d10] => { results := [.lit (.bool false)], args := [d1, d2, d3, d4, d5, d6, d7, d8, d9, d10] }
  | _ => none }
def FnKindWholeWrongFalsely : Prop := fnKindWholeRow.holds Try.pinned (OpenSpec.ofChange fnKindWholeWrong)

/-- 'zzlaws_pkg_nova_b1.FnEvacuatesWhole': WHATEVER THE INPUT: true; the input reads as it did. -/
def fnEvacuatesWholeSpec : ChangeSpec := { name := "fnEvacuatesWhole", fn := fun _ => fun
  | [d1, d2, d3, d4, d5, d6, d7, d8, d9, d10] => { results := [.lit (.bool true)], args := [d1, d2, d3, d4, d5, d6, d7, d8, d9, d10] }
  | _ => none }
def fnEvacuatesWholeRow : OpenClaim := { program := "qxb6603233a", sum := "24370b4ff4996e271e7fd445e415532409f8535ef4f1bf6c9889a1e969a650de", func := "example.com/hostwise/hostwise/zzlaws_pkg_nova_b1.FnEvacuatesWhole", spec := "fnEvacuatesWhole", apart := false }
def FnEvacuatesWholeSaid : Prop := fnEvacuatesWholeRow.holds Try.pinned (OpenSpec.ofChange fnEvacuatesWholeSpec)

/-- ITS FALSE NEIGHBOUR: 'it returns false'. Refute it at one input. -/
def fnEvacuatesWholeWrong : ChangeSpec := { name := "fnEvacuatesWhole", fn := fun _ => fun
  | [d1, d2, d3, d4, d5, d6, d7, d8, d9, d10] => { results := [.lit (.bool false)], args := [d1, d2, d3, d4, d5, d6, d7, d8, d9, d10] }
  | _ => none }
def FnEvacuatesWholeWrongFalsely : Prop := fnEvacuatesWholeRow.holds Try.pinned (OpenSpec.ofChange fnEvacuatesWholeWrong)

/-- 'zzlaws_pkg_nova_b1.FnEvacuatesIgnoreOrderFree': WHATEVER THE INPUT: true; the input reads as it did. -/
def fnEvacuatesIgnoreOrderFreeSpec : ChangeSpec := { name := "fnEvacuatesIgnoreOrderFree", fn := fun _ => fun
  | [d1, d2, d3, d4, d5] => { results := [.lit (.bool true)], args := [d1, d2, d3, d4, d5] }
  | _ => none }
def fnEvacuatesIgnoreOrderFreeRow : OpenClaim := { program := "qxb6603233a", sum := "24370b4ff4996e271e7fd445e415532409f8535ef4f1bf6c9889a1e969a650de", func := "example.com/hostwise/hostwise/zzlaws_pkg_nova_b1.FnEvacuatesIgnoreOrderFree", spec := "fnEvacuatesIgnoreOrderFree", apart := false }
def FnEvacuatesIgnoreOrderFreeSaid : Prop := fnEvacuatesIgnoreOrderFreeRow.holds Try.pinned (OpenSpec.ofChange fnEvacuatesIgnoreOrderFreeSpec)

/-- ITS FALSE NEIGHBOUR: 'it returns false'. Refute it at one input. -/
def fnEvacuatesIgnoreOrderFreeWrong : ChangeSpec := { name := "fnEvacuatesIgnoreOrderFree", fn := fun _ => fun
  | [d1, d2, d3, d4, d5] => { results := [.lit (.bool false)], args := [d1, d2, d3, d4, d5] }
  | _ => none }
def FnEvacuatesIgnoreOrderFreeWrongFalsely : Prop := fnEvacuatesIgnoreOrderFreeRow.holds Try.pinned (OpenSpec.ofChange fnEvacuatesIgnoreOrderFreeWrong)

/-- 'zzlaws_pkg_nova_b1.FnEvacuatesUnionOfIgnoreLists': WHATEVER THE INPUT: true; the input reads as it did. -/
def fnEvacuatesUnionOfIgnoreListsSpec : ChangeSpec := { name := "fnEvacuatesUnionOfIgnoreLists", fn := fun _ => fun
  | [d1, d2, d3, d4, d5, d6] => { results := [.lit (.bool true)], args := [d1, d2, d3, d4, d5, d6] }
  | _ => none }
def fnEvacuatesUnionOfIgnoreListsRow : OpenClaim := { program := "qxb6603233a", sum := "24370b4ff4996e271e7fd445e415532409f8535ef4f1bf6c9889a1e969a650de", func := "example.com/hostwise/hostwise/zzlaws_pkg_nova_b1.FnEvacuatesUnionOfIgnoreLists", spec := "fnEvacuatesUnionOfIgnoreLists", apart := false }
def FnEvacuatesUnionOfIgnoreListsSaid : Prop := fnEvacuatesUnionOfIgnoreListsRow.holds Try.pinned (OpenSpec.ofChange fnEvacuatesUnionOfIgnoreListsSpec)

/-- ITS FALSE NEIGHBOUR: 'it returns false'. Refute it at one input. -/
def fnEvacuatesUnionOfIgnoreListsWrong : ChangeSpec := { name := "fnEvacuatesUnionOfIgnoreLists", fn := fun _ => fun
  | [d1, d2, d3, d4, d5, d6] => { results := [.lit (.bool false)], args := [d1, d2, d3, d4, d5, d6] }
  | _ => none }
def FnEvacuatesUnionOfIgnoreListsWrongFalsely : Prop := fnEvacuatesUnionOfIgnoreListsRow.holds Try.pinned (OpenSpec.ofChange fnEvacuatesUnionOfIgnoreListsWrong)

end Rows
end Go.Proofs.Qxb6603233a
