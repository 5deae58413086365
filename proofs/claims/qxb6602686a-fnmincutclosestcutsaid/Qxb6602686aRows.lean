/-
  No cell of these rows narrows 'for every input' (looked for: loops, veiled, ifaces, maps, wideKeys, modest, calm, conditions, laid).
  DERIVED. THE GIVEN ROWS OF THIS SEAT. 4 by the template 'for every input the law returns true; each argument reads behind the call as it read before'; 0 by the template 'total and deterministic' (their statements: Qxb6602686aTotals.lean).
  GIVEN WITH THE SEED: the statements are not yours to turn. If you find one false, say at which input.
  Laid BY PROGRAM, IN A SANDBOX (cutbox-rows.mjs): the forced cells as the released guide's own fill.sh prints them over the translation ddef1f791a1ec172… (all of the seat's roots in one cut). By AI agents, Wed Nov 11 2026. No macro, syntax, notation, axiom, sorry.
-/
import Derived.Test.Qxb6602686aChecked
import GoSem.Claim
import GoSem.ClaimJoined
import GoSem.ClaimMapViews
import Derived.JoinedTies
import Derived.KernelRfl
namespace Go.Proofs.Qxb6602686a
/- THE CELL 'sum', in the pinned program and in every row, IS THE sha256 OF THE DUMP (.gsa) THAT Qxb6602686aProg.lean LOADS. Nothing in Lean hashes anything: it is a label: what it is worth is what the hold of that sum in a sandbox is worth. -/
noncomputable def Try.pinned : Pinned := { name := "qxb6602686a", sum := "ddef1f791a1ec172cd74e95a253b72ce88ad1f7d65883585705102f3780fd212", checked := Try.checked }
namespace Rows
def none {H : Type} : Left H := { results := [], args := [] }

/-- 'zzlaws_root_b1.FnNewCycleReaderExact': WHATEVER THE INPUT: true; the input reads as it did. -/
def fnNewCycleReaderExactSpec : ChangeSpec := { name := "fnNewCycleReaderExact", fn := fun _ => fun
  | [d1, d2, d3, d4] => { results := [.lit (.bool true)], args := [d1, d2, d3, d4] }
  | _ => none }
def fnNewCycleReaderExactRow : OpenClaim := { program := "qxb6602686a", sum := "ddef1f791a1ec172cd74e95a253b72ce88ad1f7d65883585705102f3780fd212", func := "example.com/gordian/gordian/zzlaws_root_b1.FnNewCycleReaderExact", spec := "fnNewCycleReaderExact", apart := false }
def FnNewCycleReaderExactSaid : Prop := fnNewCycleReaderExactRow.holds Try.pinned (OpenSpec.ofChange fnNewCycleReaderExactSpec)

/-- ITS FALSE NEIGHBOUR: 'it returns false'. Refute it at one input. -/
def fnNewCycleReaderExactWrong : ChangeSpec := { name := "fnNewCycleReaderExact", fn := fun _ => fun
  | [d1, d2, d3, d4] => { results := [.lit (.bool false)], args := [d1, d2, d3, d4] }
  | _ => none }
def FnNewCycleReaderExactWrongFalsely : Prop := fnNewCycleReaderExactRow.holds Try.pinned (OpenSpec.ofChange fnNewCycleReaderExactWrong)

/-- 'zzlaws_root_b1.FnNewCycleReaderRelabel': WHATEVER THE INPUT: true; the input reads as it did. -/
def fnNewCycleReaderRelabelSpec : ChangeSpec := { name := "fnNewCycleReaderRelabel", fn := fun _ => fun
  | [d1, d2, d3, d4, d5] => { results := [.lit (.bool true)], args := [d1, d2, d3, d4, d5] }
  | _ => none }
def fnNewCycleReaderRelabelRow : OpenClaim := { program := "qxb6602686a", sum := "ddef1f791a1ec172cd74e95a253b72ce88ad1f7d65883585705102f3780fd212", func := "example.com/gordian/gordian/zzlaws_root_b1.FnNewCycleReaderRelabel", spec := "fnNewCycleReaderRelabel", apart := false }
def FnNewCycleReaderRelabelSaid : Prop := fnNewCycleReaderRelabelRow.holds Try.pinned (OpenSpec.ofChange fnNewCycleReaderRelabelSpec)

/-- ITS FALSE NEIGHBOUR: 'it returns false'. Refute it at one input. -/
def fnNewCycleReaderRelabelWrong : ChangeSpec := { name := "fnNewCycleReaderRelabel", fn := fun _ => fun
  | [d1, d2, d3, d4, d5] => { results := [.lit (.bool false)], args := [d1, d2, d3, d4, d5] }
  | _ => none }
def FnNewCycleReaderRelabelWrongFalsely : Prop := fnNewCycleReaderRelabelRow.holds Try.pinned (OpenSpec.ofChange fnNewCycleReaderRelabelWrong)

/-- 'zzlaws_root_b1.FnMinCutClosestCut': WHATEVER THE INPUT: true; the input reads as it did. -/
def fnMinCutClosestCutSpec : ChangeSpec := { name := "fnMinCutClosestCut", fn := fun _ => fun
  | [d1, d2, d3, d4, d5] => { results := [.lit (.bool true)], args := [d1, d2, d3, d4, d5] }
  | _ => none }
def fnMinCutClosestCutRow : OpenClaim := { program := "qxb6602686a", sum := "ddef1f791a1ec172cd74e95a253b72ce88ad1f7d65883585705102f3780fd212", func := "example.com/gordian/gordian/zzlaws_root_b1.FnMinCutClosestCut", spec := "fnMinCutClosestCut", unfollowed := true, recurses := true, apart := false }
def FnMinCutClosestCutSaid : Prop := fnMinCutClosestCutRow.holds Try.pinned (OpenSpec.ofChange fnMinCutClosestCutSpec)

/-- ITS FALSE NEIGHBOUR: 'it returns false'. Refute it at one input. -/
def fnMinCutClosestCutWrong : ChangeSpec := { name := "fnMinCutClosestCut", fn := fun _ => fun
  | [d1, d2, d3, d4, d5] => { results := [.lit (.bool false)], args := [d1, d2, d3, d4, d5] }
  | _ => none }
def FnMinCutClosestCutWrongFalsely : Prop := fnMinCutClosestCutRow.holds Try.pinned (OpenSpec.ofChange fnMinCutClosestCutWrong)

/-- 'zzlaws_root_b1.FnMinCutCertificate': WHATEVER THE INPUT: true; the input reads as it did. -/
def fnMinCutCertificateSpec : ChangeSpec := { name := "fnMinCutCertificate", fn := fun _ => fun
  | [d1, d2, d3, d4, d5] => { results := [.lit (.bool true)], args := [d1, d2, d3, d4, d5] }
  | _ => none }
def fnMinCutCertificateRow : OpenClaim := { program := "qxb6602686a", sum := "ddef1f791a1ec172cd74e95a253b72ce88ad1f7d65883585705102f3780fd212", func := "example.com/gordian/gordian/zzlaws_root_b1.FnMinCutCertificate", spec := "fnMinCutCertificate", unfollowed := true, recurses := true, apart := false }
def FnMinCutCertificateSaid : Prop := fnMinCutCertificateRow.holds Try.pinned (OpenSpec.ofChange fnMinCutCertificateSpec)

/-- ITS FALSE NEIGHBOUR: 'it returns false'. Refute it at one input. -/
def fnMinCutCertificateWrong : ChangeSpec := { name := "fnMinCutCertificate", fn := fun _ => fun
  | [d1, d2, d3, d4, d5] => { results := [.lit (.bool false)], args := [d1, d2, d3, d4, d5] }
  | _ => none }
def FnMinCutCertificateWrongFalsely : Prop := fnMinCutCertificateRow.holds Try.pinned (OpenSpec.ofChange fnMinCutCertificateWrong)

end Rows
end Go.Proofs.Qxb6602686a
