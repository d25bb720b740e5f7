/-
  The row 'Rows.FnStatusConditionDisjointSingleBitsSaid': the given shell of this program (its frame kept), the walk and the plain laws by an AI prover.
-/
import Derived.Test.Qxb6630131aWalks
import Derived.WalkSpells
import Derived.WalkKit
import Derived.ProofKit
import Derived.OpenShut
import Derived.ShutString
namespace Go.Proofs.Qxb6630131a.fnStatusConditionDisjointSingleBits
open Go.ChangeShapes Go.WideShapes Go.ChangeAt Go.RowKit
open Go.ChangeMaps (open_string shut_string)
set_option linter.unusedVariables false      -- a walk need not use every 'w<i>' (that an integer argument fits its kind)

theorem own : ownKnob Try.prog.godebug = none := by kernel_rfl

/-! ### THE PLAIN LAW: no Go in sight -/
theorem tab : ∀ i : Fin 17, ∀ j : Fin 17, (bits BinOp.and IntKind.u32 (sc (i.val : Int)) (sc (j.val : Int)) != 0) = (i.val == j.val && isc (i.val : Int)) := by decide +kernel

theorem isc_bd {a : Int} (h : isc a = true) : 1 ≤ a ∧ a ≤ 16 := by simpa [isc] using h

theorem sc_out {a : Int} (h : isc a = false) : sc a = 0 := by
  unfold sc
  rw [if_neg]
  intro ⟨h1, h2⟩
  simp [isc, h1, h2] at h

theorem scF (a : Int) : (sc a != 0) = isc a := by
  cases h : isc a
  · rw [sc_out h]; rfl
  · have hb := isc_bd h
    have hp : (0 : Int) < 2 ^ a.toNat := Int.pow_pos (by decide)
    have e : sc a = 2 ^ a.toNat := by simp [sc, hb.1, hb.2]
    rw [e, bne_iff_ne]
    exact Int.ne_of_gt hp

theorem single' (a : Int) (w : World) (h : isc a = true) : Calls Try.prog 7 #[.int .u32 (sc a), .int .i64 a] w fun e w' => e = .returned (.bool true) ∧ w' = w :=
  single a w (isc_bd h).1 (isc_bd h).2

theorem andF (a b : Int) : (bits BinOp.and IntKind.u32 (sc a) (sc b) != 0) = (a == b && isc a) := by
  cases hA : isc a
  · rw [sc_out hA]
    simp [bits, IntKind.wrap, IntKind.signed]
  · cases hB : isc b
    · have hn : (a == b) = false := by
        cases hab : (a == b)
        · rfl
        · have : a = b := by simpa using hab
          subst this; rw [hA] at hB; cases hB
      rw [sc_out hB, hn]
      simp [bits, IntKind.wrap, IntKind.signed]
    · have ha := isc_bd hA
      have hb := isc_bd hB
      have t := tab ⟨a.toNat, by omega⟩ ⟨b.toNat, by omega⟩
      have e1 : ((a.toNat : Nat) : Int) = a := by omega
      have e2 : ((b.toNat : Nat) : Int) = b := by omega
      simp only [e1, e2, hA] at t
      rw [t]
      by_cases hab : a = b
      · subst hab; simp
      · have h1 : (a.toNat == b.toNat) = false := beq_eq_false_iff_ne.2 (by omega)
        have h2 : (a == b) = false := beq_eq_false_iff_ne.2 hab
        rw [h1, h2]

/-! ### STEP 1: THE WALK: the Go text returns true. 'Grown w w'': the world has at most new blocks (Derived/RowKit3.lean). Part the cases AHEAD of 'go_enter' where a test parts the walk; take each callee by a contract of your own. -/
set_option maxHeartbeats 1000000 in
theorem walk (a0 : Int) (a1 : Int) (w0 : (Lit.int .i64 a0).wf = true) (w1 : (Lit.int .i64 a1).wf = true) (w : World) :
    Calls Try.prog 3 #[.int .i64 a0, .int .i64 a1] w fun e w' => e = .returned (.bool true) ∧ Grown w w' := by
  have H0 : (bits BinOp.and IntKind.u32 (sc a0) (sc a1) != 0) = (a0 == a1 && isc a0) := andF a0 a1
  have HA := scF a0
  have HB := scF a1
  cases hA : isc a0 <;> cases hB : isc a1
  · have h0 : (bits BinOp.and IntKind.u32 (sc a0) (sc a1) != 0) = false := by rw [H0, hA]; simp
    have h1 : (sc a0 != 0) = false := by rw [HA, hA]
    have h2 : (sc a1 != 0) = false := by rw [HB, hB]
    clear H0 HA HB
    cases hab : (a0 == a1)
    all_goals
      go_enter Try.func3, Try.ntmps3
      go_wp2_with (first | (go_at_call 5; refine (sc_any _ _).mono ?_; rintro e w' ⟨rfl, rfl⟩) | (go_at_call 6; refine (isc_any _ _).mono ?_; rintro e w' ⟨rfl, rfl⟩))
      go_ret
      exact ⟨rfl, Grown.refl _⟩
  · have h0 : (bits BinOp.and IntKind.u32 (sc a0) (sc a1) != 0) = false := by rw [H0, hA]; simp
    have h1 : (sc a0 != 0) = false := by rw [HA, hA]
    have h2 : (sc a1 != 0) = true := by rw [HB, hB]
    clear H0 HA HB
    cases hab : (a0 == a1)
    all_goals
      go_enter Try.func3, Try.ntmps3
      go_wp2_with (first | (go_at_call 5; refine (sc_any _ _).mono ?_; rintro e w' ⟨rfl, rfl⟩) | (go_at_call 6; refine (isc_any _ _).mono ?_; rintro e w' ⟨rfl, rfl⟩) | (go_at_call 7; refine (single' _ _ (by assumption)).mono ?_; rintro e w' ⟨rfl, rfl⟩))
      go_ret
      exact ⟨rfl, Grown.refl _⟩
  · have hn : (a0 == a1) = false := by
      cases hab : (a0 == a1)
      · rfl
      · have : a0 = a1 := by simpa using hab
        subst this; rw [hA] at hB; cases hB
    have h0 : (bits BinOp.and IntKind.u32 (sc a0) (sc a1) != 0) = false := by rw [H0, hn]; simp
    have h1 : (sc a0 != 0) = true := by rw [HA, hA]
    have h2 : (sc a1 != 0) = false := by rw [HB, hB]
    clear H0 HA HB
    go_enter Try.func3, Try.ntmps3
    go_wp2_with (first | (go_at_call 5; refine (sc_any _ _).mono ?_; rintro e w' ⟨rfl, rfl⟩) | (go_at_call 6; refine (isc_any _ _).mono ?_; rintro e w' ⟨rfl, rfl⟩) | (go_at_call 7; refine (single' _ _ (by assumption)).mono ?_; rintro e w' ⟨rfl, rfl⟩))
    go_ret
    exact ⟨rfl, Grown.refl _⟩
  · have h1 : (sc a0 != 0) = true := by rw [HA, hA]
    have h2 : (sc a1 != 0) = true := by rw [HB, hB]
    cases hab : (a0 == a1)
    · have h0 : (bits BinOp.and IntKind.u32 (sc a0) (sc a1) != 0) = false := by rw [H0, hab]; simp
      clear H0 HA HB
      go_enter Try.func3, Try.ntmps3
      go_wp2_with (first | (go_at_call 5; refine (sc_any _ _).mono ?_; rintro e w' ⟨rfl, rfl⟩) | (go_at_call 6; refine (isc_any _ _).mono ?_; rintro e w' ⟨rfl, rfl⟩) | (go_at_call 7; refine (single' _ _ (by assumption)).mono ?_; rintro e w' ⟨rfl, rfl⟩))
      go_ret
      exact ⟨rfl, Grown.refl _⟩
    · have h0 : (bits BinOp.and IntKind.u32 (sc a0) (sc a1) != 0) = true := by rw [H0, hab, hA]; simp
      clear H0 HA HB
      go_enter Try.func3, Try.ntmps3
      go_wp2_with (first | (go_at_call 5; refine (sc_any _ _).mono ?_; rintro e w' ⟨rfl, rfl⟩) | (go_at_call 6; refine (isc_any _ _).mono ?_; rintro e w' ⟨rfl, rfl⟩) | (go_at_call 7; refine (single' _ _ (by assumption)).mono ?_; rintro e w' ⟨rfl, rfl⟩))
      go_ret
      exact ⟨rfl, Grown.refl _⟩

/-! ### THE ROW's STEP: WRITTEN OUT: LEAVE IT -/
set_option maxRecDepth 100000 in
theorem lifted (os : Os) (started : os.Started) (H : Type) (enc : TypeId × Value → H) :
    ReturnsInHanded {} Try.checked os 3 .any (Rows.fnStatusConditionDisjointSingleBitsSpec.pre6 enc Try.prog Try.f3 Rows.fnStatusConditionDisjointSingleBitsRow.domain false) (Rows.fnStatusConditionDisjointSingleBitsSpec.post enc Try.prog Try.f3 false true false false) := by
  refine returnsInHanded_of_change (C := Try.checked) own started (by kernel_rfl) Try.func3
    (ChangeSpec.witness6 (enc := enc) (C := Try.checked) false ⟨#[], #[.int .i64 0, .int .i64 0], []⟩ 8 (by kernel_rfl) (by kernel_rfl) (by kernel_rfl) (by kernel_rfl)) ?_
  intro W base args ds gs before hval0 hW hcnd _
  have hval : ∀ (j : Nat) t v, Try.f3.params[j]? = some t → args[j]? = some v → Value.okWide Try.prog W .any base t v := hval0
  have hW' := hW
  obtain ⟨p, q, hA0, hV, rfl, hfz, hnd⟩ := hW
  have hA : DataW.TrodAll enc Try.prog W 0 (fun _ => true) true Try.f3.params.toList args.toList ds p := hA0
  rw [Try.params3] at hA hval
  obtain ⟨v0, vs0, d0, ds0, p0, q0, hargs, rfl, rfl, h0, r0⟩ := trodAll_cons hA
  obtain ⟨v1, vs1, d1, ds1, p1, q1, rfl, rfl, rfl, h1, r1⟩ := trodAll_cons r0
  obtain ⟨rfl, rfl, rfl⟩ := trodAll_nil r1
  obtain rfl : args = #[v0, v1] := by cases args; simp_all
  obtain ⟨rfl, rfl⟩ := trodVars_none hV
  obtain ⟨a0, rfl, rfl, rfl, w0⟩ := open_int Try.underlying3 (hval 0 3 v0 rfl rfl) h0
  obtain ⟨a1, rfl, rfl, rfl, w1⟩ := open_int Try.underlying3 (hval 1 3 v1 rfl rfl) h1
  clear hA0 hval0
  simp only [List.append_nil] at hW'
  refine (walk a0 a1 w0 w1 W).mono fun e W' ⟨he, hg⟩ => ?_
  subst he
  exact ⟨_, rfl, post_of_same (pa := []) (pv := []) hW' (fun _ _ _ => (trodAll_cons_mk (shut_bool Try.underlying4 _) trodAll_mk0)) (fun sp _ => (trodAll_cons_mk (shut_int Try.underlying3 w0) (trodAll_cons_mk (shut_int Try.underlying3 w1) trodAll_mk0))) (fun _ _ => rfl) rfl
    (hg.frame _) hg.2.1 (ok_one (by kernel_rfl) rfl (okWide_bool_mk Try.underlying4 _))⟩

theorem over : Rows.fnStatusConditionDisjointSingleBitsRow.holds Try.pinned (OpenSpec.ofChange Rows.fnStatusConditionDisjointSingleBitsSpec) :=
  OpenClaim.holds_of_wide 3 Try.f3 rfl rfl rfl rfl rfl rfl rfl ⟨rfl, rfl, rfl, rfl, rfl⟩ rfl rfl rfl rfl rfl (by kernel_rfl) Try.func3 (by kernel_rfl)
    (of_decide_eq_true (by kernel_rfl)) (by unfold Func.isWrapper; first | (rw [if_pos (by decide +kernel)]; kernel_rfl) | (rw [if_neg (by decide +kernel)]; exact ⟨rfl, rfl⟩))
    (fun os started H enc _ => lifted os started H enc)

/-- ████ THE STATEMENT ████ -/
theorem proved : Rows.FnStatusConditionDisjointSingleBitsSaid :=
  over
end Go.Proofs.Qxb6630131a.fnStatusConditionDisjointSingleBits

namespace Go.Proofs.Qxb6630131a
/-- THE STATEMENT, under a short name. -/
theorem fnStatusConditionDisjointSingleBits_proved : Rows.FnStatusConditionDisjointSingleBitsSaid := fnStatusConditionDisjointSingleBits.proved
end Go.Proofs.Qxb6630131a
