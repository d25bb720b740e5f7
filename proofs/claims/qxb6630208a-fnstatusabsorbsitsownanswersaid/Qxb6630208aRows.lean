/-
  No cell of these rows narrows 'for every input' (looked for: loops, veiled, ifaces, maps, wideKeys, modest, calm, conditions, laid).
  DERIVED. THE GIVEN ROWS OF THIS SEAT. 2 by the template 'for every input the law returns true; each argument reads behind the call as it read before'; 0 by the template 'total and deterministic' (their statements: Qxb6630208aTotals.lean).
  GIVEN WITH THE SEED: the statements are not yours to turn. If you find one false, say at which input.
  Laid BY PROGRAM, IN A SANDBOX (cutbox-rows.mjs): the forced cells as the released guide's own fill.sh prints them over the translation 5a6b97611a6ca7ba… (all of the seat's roots in one cut). By AI agents, Wed Nov 11 2026. No macro, syntax, notation, axiom, sorry.
-/
import Derived.Test.Qxb6630208aChecked
import GoSem.Claim
import GoSem.ClaimJoined
import GoSem.ClaimMapViews
import Derived.JoinedTies
import Derived.KernelRfl
namespace Go.Proofs.Qxb6630208a
/- THE CELL 'sum', in the pinned program and in every row, IS THE sha256 OF THE DUMP (.gsa) THAT Qxb6630208aProg.lean LOADS. Nothing in Lean hashes anything: it is a label: what it is worth is what the hold of that sum in a sandbox is worth. -/
noncomputable def Try.pinned : Pinned := { name := "qxb6630208a", sum := "5a6b97611a6ca7ba254420b2357b1e1acebd766b7ea0bb7479edbccc730c659d", checked := Try.checked }
namespace Rows
def none {H : Type} : Left H := { results := [], args := [] }

/-- 'zzlaws_internal_catalog_b1.FnStatusJoinAtAnyCut': WHATEVER THE INPUT: true; the input reads as it did. -/
def fnStatusJoinAtAnyCutSpec : ChangeSpec := { name := "fnStatusJoinAtAnyCut", fn := fun _ => fun
  | [d1, d2, d3, d4, d5, d6, d7, d8] => { results := [.lit (.bool true)], args := [d1, d2, d3, d4, d5, d6, d7, d8] }
  | _ => none }
def fnStatusJoinAtAnyCutRow : OpenClaim := { program := "qxb6630208a", sum := "5a6b97611a6ca7ba254420b2357b1e1acebd766b7ea0bb7479edbccc730c659d", func := "example.com/muster/muster/zzlaws_internal_catalog_b1.FnStatusJoinAtAnyCut", spec := "fnStatusJoinAtAnyCut", apart := false }
def FnStatusJoinAtAnyCutSaid : Prop := fnStatusJoinAtAnyCutRow.holds Try.pinned (OpenSpec.ofChange fnStatusJoinAtAnyCutSpec)

/-- ITS FALSE NEIGHBOUR: 'it returns false'. Refute it at one input. -/
def fnStatusJoinAtAnyCutWrong : ChangeSpec := { name := "fnStatusJoinAtAnyCut", fn := fun _ => fun
  | [d1, d2, d3, d4, d5, d6, d7, d8] => { results := [.lit (.bool false)], args := [d1, d2, d3, d4, d5, d6, d7, d8] }
  | _ => none }
def FnStatusJoinAtAnyCutWrongFalsely : Prop := fnStatusJoinAtAnyCutRow.holds Try.pinned (OpenSpec.ofChange fnStatusJoinAtAnyCutWrong)

/-- 'zzlaws_internal_catalog_b1.FnStatusAbsorbsItsOwnAnswer': WHATEVER THE INPUT: true; the input reads as it did. -/
def fnStatusAbsorbsItsOwnAnswerSpec : ChangeSpec := { name := "fnStatusAbsorbsItsOwnAnswer", fn := fun _ => fun
  | [d1, d2, d3, d4, d5, d6, d7, d8, d9] => { results := [.lit (.bool true)], args := [d1, d2, d3, d4, d5, d6, d7, d8, d9] }
  | _ => none }
def fnStatusAbsorbsItsOwnAnswerRow : OpenClaim := { program := "qxb6630208a", sum := "5a6b97611a6ca7ba254420b2357b1e1acebd766b7ea0bb7479edbccc730c659d", func := "example.com/muster/muster/zzlaws_internal_catalog_b1.FnStatusAbsorbsItsOwnAnswer", spec := "fnStatusAbsorbsItsOwnAnswer", apart := false }
def FnStatusAbsorbsItsOwnAnswerSaid : Prop := fnStatusAbsorbsItsOwnAnswerRow.holds Try.pinned (OpenSpec.ofChange fnStatusAbsorbsItsOwnAnswerSpec)

/-- ITS FALSE NEIGHBOUR: 'it returns false'. Refute it at one input. -/
def fnStatusAbsorbsItsOwnAnswerWrong : ChangeSpec := { name := "fnStatusAbsorbsItsOwnAnswer", fn := fun _ => fun
  | [d1, d2, d3, d4, d5, d6, d7, d8, d9] => { results := [.lit (.bool false)], args := [d1, d2, d3, d4, d5, d6, d7, d8, d9] }
  | _ => none }
def FnStatusAbsorbsItsOwnAnswerWrongFalsely : Prop := fnStatusAbsorbsItsOwnAnswerRow.holds Try.pinned (OpenSpec.ofChange fnStatusAbsorbsItsOwnAnswerWrong)

end Rows
end Go.Proofs.Qxb6630208a
