/-
  OUR OWN TEXT (by an AI prover), after the guide's frame (howto/template, howto/shells): the row 'Rows.FnSegmentsAfterJoinAtAnyCutSaid'.
-/
import Derived.Test.Qxb6630184aJnA
import Derived.Test.Qxb6630184aJnB
import Derived.Test.Qxb6630184aJnC
import Derived.Test.Qxb6630184aJn0
import Derived.Test.Qxb6630184aOpen
import Derived.WalkKit
import Derived.ProofKit
import Derived.OpenShut
import Derived.ShutString
import Derived.ChangeOld
import Derived.Below
namespace Go.Proofs.Qxb6630184a.fnSegmentsAfterJoinAtAnyCut
open Go.ChangeShapes Go.WideShapes Go.ChangeAt Go.RowKit
open Go.ChangeMaps (open_string shut_string)
set_option linter.unusedVariables false

theorem own : ownKnob Try.prog.godebug = none := by kernel_rfl
theorem laidOut : laidOutB Try.prog = true := by kernel_rfl

theorem walk (ac : Option Addr) (nc cc : Nat) (C : Nat → Int) (a : Option Addr) (n cap : Nat) (Z : Nat → Int) (at' : Option Addr) (nt ct : Nat) (S : Nat → ByteArray) (l : Bool) (lsn cut : Int) (w : World)
    (vc : View w ac nc cc C) (vz : View w a n cap Z) (hnil : a = none → cap = 0) (vt : SView w at' nt ct S) (wl : (Lit.int .u64 lsn).wf = true) :
    Calls Try.prog 3 #[.slice ac nc cc, .slice a n cap, .slice at' nt ct, .bool l, .int .u64 lsn, .int .i64 cut] w fun e w' => e = .returned (.bool true) ∧ Below w.heap.size w w' := by
  have b1 := bounds_u64 wl
  by_cases hin : 0 ≤ cut ∧ cut ≤ (n : Int)
  · obtain ⟨c, rfl⟩ : ∃ c : Nat, cut = (c : Int) := ⟨cut.toNat, by omega⟩
    have hcn : c ≤ n := by omega
    by_cases hn : 0 < n
    · rcases vz.at' with h0 | ⟨b, off, rfl, hb, hc⟩
      · omega
      · by_cases h1 : c = n
        · subst h1
          exact jnA ac nc cc C b off c cap Z at' nt ct S l lsn w vc vz hn vt b1.1 b1.2
        · by_cases h2 : c = 0
          · subst h2
            exact jnB ac nc cc C b off n cap Z at' nt ct S l lsn w vc vz hn vt b1.1 b1.2
          · exact jnC ac nc cc C b off n cap c Z at' nt ct S l lsn w vc vz hn (by omega) (by omega) vt b1.1 b1.2
    · obtain rfl : n = 0 := by omega
      obtain rfl : c = 0 := by omega
      cases a with
      | none =>
        obtain rfl := hnil rfl
        exact jn0n ac nc cc C at' nt ct S l lsn w vc vt b1.1 b1.2
      | some x => exact jn0s ac nc cc C x cap Z at' nt ct S l lsn w vc vz vt b1.1 b1.2
  · exact jnOut ac nc cc C a n cap Z at' nt ct S l lsn cut w vc vz vt (by omega)

set_option maxRecDepth 100000 in
theorem lifted (os : Os) (started : os.Started) (H : Type) (enc : TypeId × Value → H) :
    ReturnsInHanded {} Try.checked os 3 .any (Rows.fnSegmentsAfterJoinAtAnyCutSpec.pre6 enc Try.prog Try.f3 Rows.fnSegmentsAfterJoinAtAnyCutRow.domain false) (Rows.fnSegmentsAfterJoinAtAnyCutSpec.post enc Try.prog Try.f3 false true false false) := by
  refine returnsInHanded_of_change (C := Try.checked) own started (by kernel_rfl) Try.func3
    (ChangeSpec.witness6 (enc := enc) (C := Try.checked) false ⟨#[], #[.slice none 0 0, .slice none 0 0, .slice none 0 0, .bool false, .int .u64 0, .int .i64 0], []⟩ 8 (by kernel_rfl) (by kernel_rfl) (by kernel_rfl) (by kernel_rfl)) ?_
  intro W base args ds gs before hval0 hW hcnd _
  have hval : ∀ (j : Nat) t v, Try.f3.params[j]? = some t → args[j]? = some v → Value.okWide Try.prog W .any base t v := hval0
  have hW' := hW
  obtain ⟨p, q, hA0, hV, rfl, hfz, hnd⟩ := hW
  have hA : DataW.TrodAll enc Try.prog W 0 (fun _ => true) true Try.f3.params.toList args.toList ds p := hA0
  rw [Try.params3] at hA hval
  obtain ⟨v0, vs0, d0, ds0, p0, q0, hargs, rfl, rfl, h0, r0⟩ := trodAll_cons hA
  obtain ⟨v1, vs1, d1, ds1, p1, q1, rfl, rfl, rfl, h1, r1⟩ := trodAll_cons r0
  obtain ⟨v2, vs2, d2, ds2, p2, q2, rfl, rfl, rfl, h2, r2⟩ := trodAll_cons r1
  obtain ⟨v3, vs3, d3, ds3, p3, q3, rfl, rfl, rfl, h3, r3⟩ := trodAll_cons r2
  obtain ⟨v4, vs4, d4, ds4, p4, q4, rfl, rfl, rfl, h4, r4⟩ := trodAll_cons r3
  obtain ⟨v5, vs5, d5, ds5, p5, q5, rfl, rfl, rfl, h5, r5⟩ := trodAll_cons r4
  obtain ⟨rfl, rfl, rfl⟩ := trodAll_nil r5
  obtain rfl : args = #[v0, v1, v2, v3, v4, v5] := by cases args; simp_all
  obtain ⟨rfl, rfl⟩ := trodVars_none hV
  obtain ⟨a0, len0, cap0, rfl⟩ := okWide_slice Try.underlying22 (hval 0 22 v0 rfl rfl)
  have lt0 : ∀ x ∈ p0, x.block < W.heap.size := by obtain ⟨m, hm⟩ := h0; exact DataW.trod_lt m _ _ _ hm
  obtain ⟨Z0, w0⟩ := open_view h0
  obtain ⟨a1, len1, cap1, rfl⟩ := okWide_slice Try.underlying22 (hval 1 22 v1 rfl rfl)
  have lt1 : ∀ x ∈ p1, x.block < W.heap.size := by obtain ⟨m, hm⟩ := h1; exact DataW.trod_lt m _ _ _ hm
  have n1 : a1 = none → cap1 = 0 := by
    rintro rfl
    exact open_nil h1
  obtain ⟨Z1, w1⟩ := open_view h1
  obtain ⟨a2, len2, cap2, rfl⟩ := okWide_slice Try.underlying23 (hval 2 23 v2 rfl rfl)
  have lt2 : ∀ x ∈ p2, x.block < W.heap.size := by obtain ⟨m, hm⟩ := h2; exact DataW.trod_lt m _ _ _ hm
  obtain ⟨S2, w2⟩ := open_sview h2
  obtain ⟨a3, rfl, rfl, rfl⟩ := open_bool Try.underlying4 (hval 3 4 v3 rfl rfl) h3
  obtain ⟨a4, rfl, rfl, rfl, w4⟩ := open_int Try.underlying24 (hval 4 24 v4 rfl rfl) h4
  obtain ⟨a5, rfl, rfl, rfl, w5⟩ := open_int Try.underlying3 (hval 5 3 v5 rfl rfl) h5
  clear hA0 hval0
  refine (walk a0 len0 cap0 Z0 a1 len1 cap1 Z1 a2 len2 cap2 S2 a3 a4 a5 W w0 w1 n1 w2 w4).mono fun e W' ⟨he, bel⟩ => ?_
  subst he
  exact ⟨_, rfl, _, _, _, [], _, [], hW', trodAll_mk1 (shut_bool Try.underlying4 _),
    (trodAll_cons_mk (Below.trod laidOut (by kernel_rfl) (of_decide_eq_true (by kernel_rfl)) h0 bel lt0)
      (trodAll_cons_mk (Below.trod laidOut (by kernel_rfl) (of_decide_eq_true (by kernel_rfl)) h1 bel lt1)
        (trodAll_cons_mk (Below.trod laidOut (by kernel_rfl) (of_decide_eq_true (by kernel_rfl)) h2 bel lt2)
          (trodAll_cons_mk (shut_bool Try.underlying4 _) (trodAll_cons_mk (shut_int Try.underlying24 w4) (trodAll_cons_mk (shut_int Try.underlying3 w5) trodAll_mk0)))))),
    rfl, bel.frame _, fun h => by cases h⟩

theorem over : Rows.fnSegmentsAfterJoinAtAnyCutRow.holds Try.pinned (OpenSpec.ofChange Rows.fnSegmentsAfterJoinAtAnyCutSpec) :=
  OpenClaim.holds_of_wide 3 Try.f3 rfl rfl rfl rfl rfl rfl rfl ⟨rfl, rfl, rfl, rfl, rfl⟩ rfl rfl rfl rfl rfl (by kernel_rfl) Try.func3 (by kernel_rfl)
    (of_decide_eq_true (by kernel_rfl)) (by unfold Func.isWrapper; first | (rw [if_pos (by decide +kernel)]; kernel_rfl) | (rw [if_neg (by decide +kernel)]; exact ⟨rfl, rfl⟩))
    (fun os started H enc _ => lifted os started H enc)

end Go.Proofs.Qxb6630184a.fnSegmentsAfterJoinAtAnyCut

namespace Go.Proofs.Qxb6630184a
/-- THE STATEMENT. -/
theorem fnSegmentsAfterJoinAtAnyCut_proved : Rows.FnSegmentsAfterJoinAtAnyCutSaid := fnSegmentsAfterJoinAtAnyCut.over
end Go.Proofs.Qxb6630184a
