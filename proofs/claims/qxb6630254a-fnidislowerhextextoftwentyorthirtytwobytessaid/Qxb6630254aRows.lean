/-
  No cell of these rows narrows 'for every input' (looked for: loops, veiled, ifaces, maps, wideKeys, modest, calm, conditions, laid).
  DERIVED. THE GIVEN ROWS OF THIS SEAT. 2 by the template 'for every input the law returns true; each argument reads behind the call as it read before'; 0 by the template 'total and deterministic' (their statements: Qxb6630254aTotals.lean).
  GIVEN WITH THE SEED: the statements are not yours to turn. If you find one false, say at which input.
  Laid BY PROGRAM, IN A SANDBOX (cutbox-rows.mjs): the forced cells as the released guide's own fill.sh prints them over the translation 65cf504520547139… (all of the seat's roots in one cut). By AI agents, Wed Nov 11 2026. No macro, syntax, notation, axiom, sorry.
-/
import Derived.Test.Qxb6630254aChecked
import GoSem.Claim
import GoSem.ClaimJoined
import GoSem.ClaimMapViews
import Derived.JoinedTies
import Derived.KernelRfl
namespace Go.Proofs.Qxb6630254a
/- THE CELL 'sum', in the pinned program and in every row, IS THE sha256 OF THE DUMP (.gsa) THAT Qxb6630254aProg.lean LOADS. Nothing in Lean hashes anything: it is a label: what it is worth is what the hold of that sum in a sandbox is worth. -/
noncomputable def Try.pinned : Pinned := { name := "qxb6630254a", sum := "65cf504520547139ca957ebfc6701440b0a5f59805778c3df441b6bd25305338", checked := Try.checked }
namespace Rows
def none {H : Type} : Left H := { results := [], args := [] }

/-- 'zzlaws_internal_git_b1.FnGluedHexTextIsIDExactlyAtTwentyOrThirtyTwoBytes': WHATEVER THE INPUT: true; the input reads as it did. -/
def fnGluedHexTextIsIDExactlyAtTwentyOrThirtyTwoBytesSpec : ChangeSpec := { name := "fnGluedHexTextIsIDExactlyAtTwentyOrThirtyTwoBytes", fn := fun _ => fun
  | [d1, d2] => { results := [.lit (.bool true)], args := [d1, d2] }
  | _ => none }
def fnGluedHexTextIsIDExactlyAtTwentyOrThirtyTwoBytesRow : OpenClaim := { program := "qxb6630254a", sum := "65cf504520547139ca957ebfc6701440b0a5f59805778c3df441b6bd25305338", func := "example.com/pushquay/pushquay/zzlaws_internal_git_b1.FnGluedHexTextIsIDExactlyAtTwentyOrThirtyTwoBytes", spec := "fnGluedHexTextIsIDExactlyAtTwentyOrThirtyTwoBytes", apart := false }
def FnGluedHexTextIsIDExactlyAtTwentyOrThirtyTwoBytesSaid : Prop := fnGluedHexTextIsIDExactlyAtTwentyOrThirtyTwoBytesRow.holds Try.pinned (OpenSpec.ofChange fnGluedHexTextIsIDExactlyAtTwentyOrThirtyTwoBytesSpec)

/-- ITS FALSE NEIGHBOUR: 'it returns false'. Refute it at one input. -/
def fnGluedHexTextIsIDExactlyAtTwentyOrThirtyTwoBytesWrong : ChangeSpec := { name := "fnGluedHexTextIsIDExactlyAtTwentyOrThirtyTwoBytes", fn := fun _ => fun
  | [d1, d2] => { results := [.lit (.bool false)], args := [d1, d2] }
  | _ => none }
def FnGluedHexTextIsIDExactlyAtTwentyOrThirtyTwoBytesWrongFalsely : Prop := fnGluedHexTextIsIDExactlyAtTwentyOrThirtyTwoBytesRow.holds Try.pinned (OpenSpec.ofChange fnGluedHexTextIsIDExactlyAtTwentyOrThirtyTwoBytesWrong)

/-- 'zzlaws_internal_git_b1.FnIDIsLowerHexTextOfTwentyOrThirtyTwoBytes': WHATEVER THE INPUT: true; the input reads as it did. -/
def fnIDIsLowerHexTextOfTwentyOrThirtyTwoBytesSpec : ChangeSpec := { name := "fnIDIsLowerHexTextOfTwentyOrThirtyTwoBytes", fn := fun _ => fun
  | [d] => { results := [.lit (.bool true)], args := [d] }
  | _ => none }
def fnIDIsLowerHexTextOfTwentyOrThirtyTwoBytesRow : OpenClaim := { program := "qxb6630254a", sum := "65cf504520547139ca957ebfc6701440b0a5f59805778c3df441b6bd25305338", func := "example.com/pushquay/pushquay/zzlaws_internal_git_b1.FnIDIsLowerHexTextOfTwentyOrThirtyTwoBytes", spec := "fnIDIsLowerHexTextOfTwentyOrThirtyTwoBytes", apart := false }
def FnIDIsLowerHexTextOfTwentyOrThirtyTwoBytesSaid : Prop := fnIDIsLowerHexTextOfTwentyOrThirtyTwoBytesRow.holds Try.pinned (OpenSpec.ofChange fnIDIsLowerHexTextOfTwentyOrThirtyTwoBytesSpec)

/-- ITS FALSE NEIGHBOUR: 'it returns false'. Refute it at one input. -/
def fnIDIsLowerHexTextOfTwentyOrThirtyTwoBytesWrong : ChangeSpec := { name := "fnIDIsLowerHexTextOfTwentyOrThirtyTwoBytes", fn := fun _ => fun
  | [d] => { results := [.lit (.bool false)], args := [d] }
  | _ => none }
def FnIDIsLowerHexTextOfTwentyOrThirtyTwoBytesWrongFalsely : Prop := fnIDIsLowerHexTextOfTwentyOrThirtyTwoBytesRow.holds Try.pinned (OpenSpec.ofChange fnIDIsLowerHexTextOfTwentyOrThirtyTwoBytesWrong)

end Rows
end Go.Proofs.Qxb6630254a
