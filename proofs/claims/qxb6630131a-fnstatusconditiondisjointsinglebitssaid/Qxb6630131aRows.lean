/-
  No cell of these rows narrows 'for every input' (looked for: loops, veiled, ifaces, maps, wideKeys, modest, calm, conditions, laid).
  DERIVED. THE GIVEN ROWS OF THIS SEAT. 2 by the template 'for every input the law returns true; each argument reads behind the call as it read before'; 0 by the template 'total and deterministic' (their statements: Qxb6630131aTotals.lean).
  GIVEN WITH THE SEED: the statements are not yours to turn. If you find one false, say at which input.
  Laid BY PROGRAM, IN A SANDBOX (cutbox-rows.mjs): the forced cells as the released guide's own fill.sh prints them over the translation d5b13e43b2e3035b… (all of the seat's roots in one cut). By AI agents, Wed Nov 11 2026. No macro, syntax, notation, axiom, sorry.
-/
import Derived.Test.Qxb6630131aChecked
import GoSem.Claim
import GoSem.ClaimJoined
import GoSem.ClaimMapViews
import Derived.JoinedTies
import Derived.KernelRfl
namespace Go.Proofs.Qxb6630131a
/- THE CELL 'sum', in the pinned program and in every row, IS THE sha256 OF THE DUMP (.gsa) THAT Qxb6630131aProg.lean LOADS. Nothing in Lean hashes anything: it is a label: what it is worth is what the hold of that sum in a sandbox is worth. -/
noncomputable def Try.pinned : Pinned := { name := "qxb6630131a", sum := "d5b13e43b2e3035b271e648f259e0afe6455c3ae660fa6773ac364b27ba8bf53", checked := Try.checked }
namespace Rows
def none {H : Type} : Left H := { results := [], args := [] }

/-- 'zzlaws_config_b1.FnStatusConditionDisjointSingleBits': WHATEVER THE INPUT: true; the input reads as it did. -/
def fnStatusConditionDisjointSingleBitsSpec : ChangeSpec := { name := "fnStatusConditionDisjointSingleBits", fn := fun _ => fun
  | [d1, d2] => { results := [.lit (.bool true)], args := [d1, d2] }
  | _ => none }
def fnStatusConditionDisjointSingleBitsRow : OpenClaim := { program := "qxb6630131a", sum := "d5b13e43b2e3035b271e648f259e0afe6455c3ae660fa6773ac364b27ba8bf53", func := "example.com/routeloom/routeloom/zzlaws_config_b1.FnStatusConditionDisjointSingleBits", spec := "fnStatusConditionDisjointSingleBits", apart := false }
def FnStatusConditionDisjointSingleBitsSaid : Prop := fnStatusConditionDisjointSingleBitsRow.holds Try.pinned (OpenSpec.ofChange fnStatusConditionDisjointSingleBitsSpec)

/-- ITS FALSE NEIGHBOUR: 'it returns false'. Refute it at one input. -/
def fnStatusConditionDisjointSingleBitsWrong : ChangeSpec := { name := "fnStatusConditionDisjointSingleBits", fn := fun _ => fun
  | [d1, d2] => { results := [.lit (.bool false)], args := [d1, d2] }
  | _ => none }
def FnStatusConditionDisjointSingleBitsWrongFalsely : Prop := fnStatusConditionDisjointSingleBitsRow.holds Try.pinned (OpenSpec.ofChange fnStatusConditionDisjointSingleBitsWrong)

/-- 'zzlaws_config_b1.FnStatusConditionSuccessorDoubles': WHATEVER THE INPUT: true; the input reads as it did. -/
def fnStatusConditionSuccessorDoublesSpec : ChangeSpec := { name := "fnStatusConditionSuccessorDoubles", fn := fun _ => fun
  | [d] => { results := [.lit (.bool true)], args := [d] }
  | _ => none }
def fnStatusConditionSuccessorDoublesRow : OpenClaim := { program := "qxb6630131a", sum := "d5b13e43b2e3035b271e648f259e0afe6455c3ae660fa6773ac364b27ba8bf53", func := "example.com/routeloom/routeloom/zzlaws_config_b1.FnStatusConditionSuccessorDoubles", spec := "fnStatusConditionSuccessorDoubles", apart := false }
def FnStatusConditionSuccessorDoublesSaid : Prop := fnStatusConditionSuccessorDoublesRow.holds Try.pinned (OpenSpec.ofChange fnStatusConditionSuccessorDoublesSpec)

/-- ITS FALSE NEIGHBOUR: 'it returns false'. Refute it at one input. -/
def fnStatusConditionSuccessorDoublesWrong : ChangeSpec := { name := "fnStatusConditionSuccessorDoubles", fn := fun _ => fun
  | [d] => { results := [.lit (.bool false)], args := [d] }
  | _ => none }
def FnStatusConditionSuccessorDoublesWrongFalsely : Prop := fnStatusConditionSuccessorDoublesRow.holds Try.pinned (OpenSpec.ofChange fnStatusConditionSuccessorDoublesWrong)

end Rows
end Go.Proofs.Qxb6630131a
