/-
  OUR OWN TEXT (by an AI prover), after the guide's frame (howto/template, howto/shells): the row 'Rows.FnStatusAbsorbsItsOwnAnswerSaid'.
-/
import Derived.Test.Qxb6630208aAbs
import Derived.Test.Qxb6630208aOpen
import Derived.WalkKit
import Derived.ProofKit
import Derived.OpenShut
import Derived.ShutString
import Derived.ChangeOld
import Derived.Below
namespace Go.Proofs.Qxb6630208a.fnStatusAbsorbsItsOwnAnswer
open Go.ChangeShapes Go.WideShapes Go.ChangeAt Go.RowKit
open Go.ChangeMaps (open_string shut_string)
set_option linter.unusedVariables false

theorem own : ownKnob Try.prog.godebug = none := by kernel_rfl
theorem laidOut : laidOutB Try.prog = true := by kernel_rfl

theorem walk (s1 s2 s3 : ByteArray) (a0 : Option Addr) (n0 c0 : Nat) (T0 : Nat → ByteArray) (p : Int) (a1 : Option Addr) (n1 c1 : Nat) (T : Nat → ByteArray) (a2 : Option Addr) (n2 c2 : Nat) (O : Nat → ByteArray) (cut : Int) (s4 : ByteArray) (w : World)
    (z1 : s1.size ≤ maxLen) (z2 : s2.size ≤ maxLen) (z3 : s3.size ≤ maxLen) (z4 : s4.size ≤ maxLen) (v0 : SView w a0 n0 c0 T0) (v1 : SView w a1 n1 c1 T) (v2 : SView w a2 n2 c2 O) :
    Calls Try.prog 4 #[.string s1, .string s2, .string s3, .slice a0 n0 c0, .int .u16 p, .slice a1 n1 c1, .slice a2 n2 c2, .int .i64 cut, .string s4] w fun e w' => e = .returned (.bool true) ∧ Below w.heap.size w w' := by
  unfold maxLen at z1 z2 z3 z4
  by_cases hin : 0 ≤ cut ∧ cut ≤ (n1 : Int)
  · obtain ⟨c, rfl⟩ : ∃ c : Nat, cut = (c : Int) := ⟨cut.toNat, by omega⟩
    exact absIn s1 s2 s3 a0 n0 c0 T0 p a1 n1 c1 T a2 n2 c2 O c s4 w z1 z2 z3 z4 v0 v1 v2 (by omega)
  · exact absOut s1 s2 s3 a0 n0 c0 T0 p a1 n1 c1 T a2 n2 c2 O cut s4 w z1 z2 z3 z4 v0 v1 v2 (by omega)

set_option maxRecDepth 100000 in
theorem lifted (os : Os) (started : os.Started) (H : Type) (enc : TypeId × Value → H) :
    ReturnsInHanded {} Try.checked os 4 .any (Rows.fnStatusAbsorbsItsOwnAnswerSpec.pre6 enc Try.prog Try.f4 Rows.fnStatusAbsorbsItsOwnAnswerRow.domain false) (Rows.fnStatusAbsorbsItsOwnAnswerSpec.post enc Try.prog Try.f4 false true false false) := by
  refine returnsInHanded_of_change (C := Try.checked) own started (by kernel_rfl) Try.func4
    (ChangeSpec.witness6 (enc := enc) (C := Try.checked) false ⟨#[], #[.string ByteArray.empty, .string ByteArray.empty, .string ByteArray.empty, .slice none 0 0, .int .u16 0, .slice none 0 0, .slice none 0 0, .int .i64 0, .string ByteArray.empty], []⟩ 8 (by kernel_rfl) (by kernel_rfl) (by kernel_rfl) (by kernel_rfl)) ?_
  intro W base args ds gs before hval0 hW hcnd _
  have hval : ∀ (j : Nat) t v, Try.f4.params[j]? = some t → args[j]? = some v → Value.okWide Try.prog W .any base t v := hval0
  have hW' := hW
  obtain ⟨p, q, hA0, hV, rfl, hfz, hnd⟩ := hW
  have hA : DataW.TrodAll enc Try.prog W 0 (fun _ => true) true Try.f4.params.toList args.toList ds p := hA0
  rw [Try.params4] at hA hval
  obtain ⟨v0, vs0, d0, ds0, p0, q0, hargs, rfl, rfl, h0, r0⟩ := trodAll_cons hA
  obtain ⟨v1, vs1, d1, ds1, p1, q1, rfl, rfl, rfl, h1, r1⟩ := trodAll_cons r0
  obtain ⟨v2, vs2, d2, ds2, p2, q2, rfl, rfl, rfl, h2, r2⟩ := trodAll_cons r1
  obtain ⟨v3, vs3, d3, ds3, p3, q3, rfl, rfl, rfl, h3, r3⟩ := trodAll_cons r2
  obtain ⟨v4, vs4, d4, ds4, p4, q4, rfl, rfl, rfl, h4, r4⟩ := trodAll_cons r3
  obtain ⟨v5, vs5, d5, ds5, p5, q5, rfl, rfl, rfl, h5, r5⟩ := trodAll_cons r4
  obtain ⟨v6, vs6, d6, ds6, p6, q6, rfl, rfl, rfl, h6, r6⟩ := trodAll_cons r5
  obtain ⟨v7, vs7, d7, ds7, p7, q7, rfl, rfl, rfl, h7, r7⟩ := trodAll_cons r6
  obtain ⟨v8, vs8, d8, ds8, p8, q8, rfl, rfl, rfl, h8, r8⟩ := trodAll_cons r7
  obtain ⟨rfl, rfl, rfl⟩ := trodAll_nil r8
  obtain rfl : args = #[v0, v1, v2, v3, v4, v5, v6, v7, v8] := by cases args; simp_all
  obtain ⟨rfl, rfl⟩ := trodVars_none hV
  obtain ⟨s0, rfl, rfl, rfl, w0⟩ := open_string Try.underlying9 (hval 0 9 v0 rfl rfl) h0
  obtain ⟨s1, rfl, rfl, rfl, w1⟩ := open_string Try.underlying9 (hval 1 9 v1 rfl rfl) h1
  obtain ⟨s2, rfl, rfl, rfl, w2⟩ := open_string Try.underlying9 (hval 2 9 v2 rfl rfl) h2
  obtain ⟨a3, len3, cap3, rfl⟩ := okWide_slice Try.underlying22 (hval 3 22 v3 rfl rfl)
  have lt3 : ∀ x ∈ p3, x.block < W.heap.size := by obtain ⟨m, hm⟩ := h3; exact DataW.trod_lt m _ _ _ hm
  obtain ⟨S3, w3⟩ := open_sview h3
  obtain ⟨a4, rfl, rfl, rfl, w4⟩ := open_int Try.underlying23 (hval 4 23 v4 rfl rfl) h4
  obtain ⟨a5, len5, cap5, rfl⟩ := okWide_slice Try.underlying22 (hval 5 22 v5 rfl rfl)
  have lt5 : ∀ x ∈ p5, x.block < W.heap.size := by obtain ⟨m, hm⟩ := h5; exact DataW.trod_lt m _ _ _ hm
  obtain ⟨S5, w5⟩ := open_sview h5
  obtain ⟨a6, len6, cap6, rfl⟩ := okWide_slice Try.underlying22 (hval 6 22 v6 rfl rfl)
  have lt6 : ∀ x ∈ p6, x.block < W.heap.size := by obtain ⟨m, hm⟩ := h6; exact DataW.trod_lt m _ _ _ hm
  obtain ⟨S6, w6⟩ := open_sview h6
  obtain ⟨a7, rfl, rfl, rfl, w7⟩ := open_int Try.underlying3 (hval 7 3 v7 rfl rfl) h7
  obtain ⟨s8, rfl, rfl, rfl, w8⟩ := open_string Try.underlying9 (hval 8 9 v8 rfl rfl) h8
  clear hA0 hval0
  refine (walk s0 s1 s2 a3 len3 cap3 S3 a4 a5 len5 cap5 S5 a6 len6 cap6 S6 a7 s8 W w0 w1 w2 w8 w3 w5 w6).mono fun e W' ⟨he, bel⟩ => ?_
  subst he
  exact ⟨_, rfl, _, _, _, [], _, [], hW', trodAll_mk1 (shut_bool Try.underlying4 _),
    (trodAll_cons_mk (shut_string Try.underlying9 w0) (trodAll_cons_mk (shut_string Try.underlying9 w1) (trodAll_cons_mk (shut_string Try.underlying9 w2) (trodAll_cons_mk (Below.trod laidOut (by kernel_rfl) (of_decide_eq_true (by kernel_rfl)) h3 bel lt3) (trodAll_cons_mk (shut_int Try.underlying23 w4) (trodAll_cons_mk (Below.trod laidOut (by kernel_rfl) (of_decide_eq_true (by kernel_rfl)) h5 bel lt5) (trodAll_cons_mk (Below.trod laidOut (by kernel_rfl) (of_decide_eq_true (by kernel_rfl)) h6 bel lt6) (trodAll_cons_mk (shut_int Try.underlying3 w7) (trodAll_cons_mk (shut_string Try.underlying9 w8) trodAll_mk0))))))))),
    rfl, bel.frame _, fun h => by cases h⟩

theorem over : Rows.fnStatusAbsorbsItsOwnAnswerRow.holds Try.pinned (OpenSpec.ofChange Rows.fnStatusAbsorbsItsOwnAnswerSpec) :=
  OpenClaim.holds_of_wide 4 Try.f4 rfl rfl rfl rfl rfl rfl rfl ⟨rfl, rfl, rfl, rfl, rfl⟩ rfl rfl rfl rfl rfl (by kernel_rfl) Try.func4 (by kernel_rfl)
    (of_decide_eq_true (by kernel_rfl)) (by unfold Func.isWrapper; first | (rw [if_pos (by decide +kernel)]; kernel_rfl) | (rw [if_neg (by decide +kernel)]; exact ⟨rfl, rfl⟩))
    (fun os started H enc _ => lifted os started H enc)

end Go.Proofs.Qxb6630208a.fnStatusAbsorbsItsOwnAnswer

namespace Go.Proofs.Qxb6630208a
/-- THE STATEMENT. -/
theorem fnStatusAbsorbsItsOwnAnswer_proved : Rows.FnStatusAbsorbsItsOwnAnswerSaid := fnStatusAbsorbsItsOwnAnswer.over
end Go.Proofs.Qxb6630208a
