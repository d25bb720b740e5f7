/-
  No cell of these rows narrows 'for every input' (looked for: loops, veiled, ifaces, maps, wideKeys, modest, calm, conditions, laid).
  DERIVED. THE GIVEN ROWS OF THIS SEAT. 2 by the template 'for every input the law returns true; each argument reads behind the call as it read before'; 0 by the template 'total and deterministic' (their statements: Qxb6630184aTotals.lean).
  GIVEN WITH THE SEED: the statements are not yours to turn. If you find one false, say at which input.
  Laid BY PROGRAM, IN A SANDBOX (cutbox-rows.mjs): the forced cells as the released guide's own fill.sh prints them over the translation 73b2520d8f7c71b7… (all of the seat's roots in one cut). By AI agents, Wed Nov 11 2026. No macro, syntax, notation, axiom, sorry.
-/
import Derived.Test.Qxb6630184aChecked
import GoSem.Claim
import GoSem.ClaimJoined
import GoSem.ClaimMapViews
import Derived.JoinedTies
import Derived.KernelRfl
namespace Go.Proofs.Qxb6630184a
/- THE CELL 'sum', in the pinned program and in every row, IS THE sha256 OF THE DUMP (.gsa) THAT Qxb6630184aProg.lean LOADS. Nothing in Lean hashes anything: it is a label: what it is worth is what the hold of that sum in a sandbox is worth. -/
noncomputable def Try.pinned : Pinned := { name := "qxb6630184a", sum := "73b2520d8f7c71b70662217e5a8f593249e5b5904ba75f02f138232e2f4ed1d9", checked := Try.checked }
namespace Rows
def none {H : Type} : Left H := { results := [], args := [] }

/-- 'zzlaws_internal_wal_b1.FnSegmentsAfterJoinAtAnyCut': WHATEVER THE INPUT: true; the input reads as it did. -/
def fnSegmentsAfterJoinAtAnyCutSpec : ChangeSpec := { name := "fnSegmentsAfterJoinAtAnyCut", fn := fun _ => fun
  | [d1, d2, d3, d4, d5, d6] => { results := [.lit (.bool true)], args := [d1, d2, d3, d4, d5, d6] }
  | _ => none }
def fnSegmentsAfterJoinAtAnyCutRow : OpenClaim := { program := "qxb6630184a", sum := "73b2520d8f7c71b70662217e5a8f593249e5b5904ba75f02f138232e2f4ed1d9", func := "example.com/concordat/concordat/zzlaws_internal_wal_b1.FnSegmentsAfterJoinAtAnyCut", spec := "fnSegmentsAfterJoinAtAnyCut", apart := false }
def FnSegmentsAfterJoinAtAnyCutSaid : Prop := fnSegmentsAfterJoinAtAnyCutRow.holds Try.pinned (OpenSpec.ofChange fnSegmentsAfterJoinAtAnyCutSpec)

/-- ITS FALSE NEIGHBOUR: 'it returns false'. Refute it at one input. -/
def fnSegmentsAfterJoinAtAnyCutWrong : ChangeSpec := { name := "fnSegmentsAfterJoinAtAnyCut", fn := fun _ => fun
  | [d1, d2, d3, d4, d5, d6] => { results := [.lit (.bool false)], args := [d1, d2, d3, d4, d5, d6] }
  | _ => none }
def FnSegmentsAfterJoinAtAnyCutWrongFalsely : Prop := fnSegmentsAfterJoinAtAnyCutRow.holds Try.pinned (OpenSpec.ofChange fnSegmentsAfterJoinAtAnyCutWrong)

/-- 'zzlaws_internal_wal_b1.FnSegmentsAfterShrinksAsLSNGrows': WHATEVER THE INPUT: true; the input reads as it did. -/
def fnSegmentsAfterShrinksAsLSNGrowsSpec : ChangeSpec := { name := "fnSegmentsAfterShrinksAsLSNGrows", fn := fun _ => fun
  | [d1, d2, d3, d4, d5, d6] => { results := [.lit (.bool true)], args := [d1, d2, d3, d4, d5, d6] }
  | _ => none }
def fnSegmentsAfterShrinksAsLSNGrowsRow : OpenClaim := { program := "qxb6630184a", sum := "73b2520d8f7c71b70662217e5a8f593249e5b5904ba75f02f138232e2f4ed1d9", func := "example.com/concordat/concordat/zzlaws_internal_wal_b1.FnSegmentsAfterShrinksAsLSNGrows", spec := "fnSegmentsAfterShrinksAsLSNGrows", apart := false }
def FnSegmentsAfterShrinksAsLSNGrowsSaid : Prop := fnSegmentsAfterShrinksAsLSNGrowsRow.holds Try.pinned (OpenSpec.ofChange fnSegmentsAfterShrinksAsLSNGrowsSpec)

/-- ITS FALSE NEIGHBOUR: 'it returns false'. Refute it at one input. -/
def fnSegmentsAfterShrinksAsLSNGrowsWrong : ChangeSpec := { name := "fnSegmentsAfterShrinksAsLSNGrows", fn := fun _ => fun
  | [d1, d2, d3, d4, d5, d6] => { results := [.lit (.bool false)], args := [d1, d2, d3, d4, d5, d6] }
  | _ => none }
def FnSegmentsAfterShrinksAsLSNGrowsWrongFalsely : Prop := fnSegmentsAfterShrinksAsLSNGrowsRow.holds Try.pinned (OpenSpec.ofChange fnSegmentsAfterShrinksAsLSNGrowsWrong)

end Rows
end Go.Proofs.Qxb6630184a
