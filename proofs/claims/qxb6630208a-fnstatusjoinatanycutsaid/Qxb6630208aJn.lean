/-
  OUR OWN TEXT (by an AI prover). The walk of FnStatusJoinAtAnyCut (3).
-/
import Derived.Test.Qxb6630208aGuards
import Derived.Test.Qxb6630208aFirst
namespace Go.Proofs.Qxb6630208a
open Go.RowKit

theorem checks0 (id : ByteArray) (a : Option Addr) (n cap : Nat) (T : Nat → ByteArray) (ao : Option Addr) (no co : Nat) (O : Nat → ByteArray) (hi : Nat) (w : World) (hv : SView w a n cap T) (ho : SView w ao no co O) (hn : n ≤ 131072) (hno : no ≤ 131072)
    (hhn : hi ≤ n) :
    Calls Try.prog 8 #[.string id, .slice a n cap, .slice ao no co, .int .i64 0, .int .i64 hi] w
      fun e w' => ∃ g cap', e = .returned (.slice (some ⟨g, 0, none⟩) hi cap') ∧ CView w' (some ⟨g, 0, none⟩) hi cap' T ∧ Below w.heap.size w w' := by
  refine (checks_any id a n cap T ao no co O 0 hi w hv ho hn hno (Nat.zero_le _) hhn).mono fun e w' ⟨a', cap', h1, h2, h3⟩ => ?_
  rw [Nat.sub_zero] at h1 h2
  refine ⟨a', cap', h1, ?_, h3⟩
  have : (fun i => T (0 + i)) = T := by funext i; rw [Nat.zero_add]
  rwa [this] at h2

theorem size_empty : ({ data := #[] } : ByteArray).size ≤ 9223372036854775807 := by decide

set_option maxRecDepth 10000 in
set_option maxHeartbeats 1600000 in
theorem jnOut (s1 s2 s3 : ByteArray) (a0 : Option Addr) (n0 c0 : Nat) (T0 : Nat → ByteArray) (p : Int) (a1 : Option Addr) (n1 c1 : Nat) (T : Nat → ByteArray) (a2 : Option Addr) (n2 c2 : Nat) (O : Nat → ByteArray) (cut : Int) (w : World)
    (z1 : s1.size ≤ 9223372036854775807) (z2 : s2.size ≤ 9223372036854775807) (z3 : s3.size ≤ 9223372036854775807) (v0 : SView w a0 n0 c0 T0) (v1 : SView w a1 n1 c1 T) (v2 : SView w a2 n2 c2 O) (hcut : cut < 0 ∨ (n1 : Int) < cut) :
    Calls Try.prog 3 #[.string s1, .string s2, .string s3, .slice a0 n0 c0, .int .u16 p, .slice a1 n1 c1, .slice a2 n2 c2, .int .i64 cut] w fun e w' => e = .returned (.bool true) ∧ Below w.heap.size w w' := by
  rcases hcut with hcut | hcut
  · go_enter Try.func3, Try.ntmps3
    go_wp2_with (first | (go_at_call 5; refine (bytes5 _ _ _ _ _ _ T0 _ _ _ _ T _ _ _ O _ _ z1 z2 z3 v0 v1 v2).mono ?_; rintro e w' ⟨⟨r, rfl⟩, hw⟩; obtain rfl := hw.symm) | (go_at_call 6; refine (sizeok _ _ _ _ _ _ _ T0 _ _ _ T _ _ _ O _ z1 z2 z3 size_empty v0 v1 v2).mono ?_; rintro e w' ⟨⟨r', rfl, hr⟩, hw⟩; obtain rfl := hw.symm))
    all_goals (go_ret; exact ⟨rfl, Below.refl _ _⟩)
  · have h0 : ¬ cut < 0 := by omega
    go_enter Try.func3, Try.ntmps3
    go_wp2_with (first | (go_at_call 5; refine (bytes5 _ _ _ _ _ _ T0 _ _ _ _ T _ _ _ O _ _ z1 z2 z3 v0 v1 v2).mono ?_; rintro e w' ⟨⟨r, rfl⟩, hw⟩; obtain rfl := hw.symm) | (go_at_call 6; refine (sizeok _ _ _ _ _ _ _ T0 _ _ _ T _ _ _ O _ z1 z2 z3 size_empty v0 v1 v2).mono ?_; rintro e w' ⟨⟨r', rfl, hr⟩, hw⟩; obtain rfl := hw.symm))
    all_goals (go_ret; exact ⟨rfl, Below.refl _ _⟩)

set_option maxRecDepth 10000 in
set_option maxHeartbeats 1600000 in
theorem jnIn (s1 s2 s3 : ByteArray) (a0 : Option Addr) (n0 c0 : Nat) (T0 : Nat → ByteArray) (p : Int) (a1 : Option Addr) (n1 c1 : Nat) (T : Nat → ByteArray) (a2 : Option Addr) (n2 c2 : Nat) (O : Nat → ByteArray) (c : Nat) (w : World)
    (z1 : s1.size ≤ 9223372036854775807) (z2 : s2.size ≤ 9223372036854775807) (z3 : s3.size ≤ 9223372036854775807) (v0 : SView w a0 n0 c0 T0) (v1 : SView w a1 n1 c1 T) (v2 : SView w a2 n2 c2 O) (hc : c ≤ n1) :
    Calls Try.prog 3 #[.string s1, .string s2, .string s3, .slice a0 n0 c0, .int .u16 p, .slice a1 n1 c1, .slice a2 n2 c2, .int .i64 c] w fun e w' => e = .returned (.bool true) ∧ Below w.heap.size w w' := by
  have m1 := v1.max
  have l1 := v1.le
  go_enter Try.func3, Try.ntmps3
  go_wp2_with (first | (go_at_call 5; refine (bytes5 _ _ _ _ _ _ T0 _ _ _ _ T _ _ _ O _ _ z1 z2 z3 v0 v1 v2).mono ?_; rintro e w' ⟨⟨r, rfl⟩, hw⟩; obtain rfl := hw.symm) | (go_at_call 6; refine (sizeok _ _ _ _ _ _ _ T0 _ _ _ T _ _ _ O _ z1 z2 z3 size_empty v0 v1 v2).mono ?_; rintro e w' ⟨⟨r', rfl, hr⟩, hw⟩; obtain rfl := hw.symm))
  any_goals (go_ret; exact ⟨rfl, Below.refl _ _⟩)
  have hr'' : r' = true := by
    have h : (!r') = false := by assumption
    simpa using h
  have HK : Hid (n1 ≤ 65536 ∧ n2 ≤ 65536) := hr hr''
  clear hr z1 z2 z3 v0
  subst hr''
  have h1 : n1 ≤ 131072 := by have := HK.out; omega
  have h2 : n2 ≤ 131072 := by have := HK.out; omega
  have H1 : Hid (n1 ≤ 131072) := h1
  have H2 : Hid (n2 ≤ 131072) := h2
  clear h1 h2
  refine (checks0 _ _ _ _ T _ _ _ O _ _ v1 v2 H1.out H2.out (Nat.le_refl _)).mono ?_
  rintro e w1 ⟨x1, k1, rfl, vx1, hb1⟩
  go_wp2_with fail
  refine (inst_any _ _ _ _ _ _ _ _ _ _ _).mono ?_
  rintro e w2 ⟨rfl, hb2⟩
  have vx1 := vx1.below hb2
  go_wp2_with fail
  refine (status_any _ _ _ _ _ _ _ _ _ _ T _ vx1).mono ?_
  rintro e w3 ⟨rfl, hb3⟩
  have hB3 : Below w.heap.size w w3 := (hb1.trans (hb2.mono hb1.size)).trans (hb3.mono (Nat.le_trans hb1.size hb2.size))
  have v1b := v1.below hB3
  have v2b := v2.below hB3
  clear vx1 hb1 hb2 hb3 v2
  go_wp2_with fail
  refine (checks0 _ _ _ _ T _ _ _ O _ _ v1b v2b H1.out H2.out hc).mono ?_
  rintro e w4 ⟨x2, k2, rfl, vx2, hb4⟩
  go_wp2_with fail
  refine (inst_any _ _ _ _ _ _ _ _ _ _ _).mono ?_
  rintro e w5 ⟨rfl, hb5⟩
  have vx2 := vx2.below hb5
  go_wp2_with fail
  refine (status_any _ _ _ _ _ _ _ _ _ _ T _ vx2).mono ?_
  rintro e w6 ⟨rfl, hb6⟩
  have hB36 : Below w3.heap.size w3 w6 := (hb4.trans (hb5.mono hb4.size)).trans (hb6.mono (Nat.le_trans hb4.size hb5.size))
  have v1c := v1b.below hB36
  have v2c := v2b.below hB36
  have hB6 : Below w.heap.size w w6 := hB3.trans (hB36.mono hB3.size)
  clear vx2 hb4 hb5 hb6 v1b v2b hB36 hB3
  go_wp2_with fail
  refine (checks_any _ _ _ _ T _ _ _ O c n1 _ v1c v2c H1.out H2.out hc (Nat.le_refl _)).mono ?_
  rintro e w7 ⟨x3, k3, rfl, vx3, hb7⟩
  go_wp2_with fail
  refine (inst_any _ _ _ _ _ _ _ _ _ _ _).mono ?_
  rintro e w8 ⟨rfl, hb8⟩
  have vx3 := vx3.below hb8
  go_wp2_with fail
  refine (status_any _ _ _ _ _ _ _ _ _ _ (fun i => T (c + i)) _ vx3).mono ?_
  rintro e w9 ⟨rfl, hb9⟩
  have hB69 : Below w6.heap.size w6 w9 := (hb7.trans (hb8.mono hb7.size)).trans (hb9.mono (Nat.le_trans hb7.size hb8.size))
  have v1d := v1c.below hB69
  have hB9 : Below w.heap.size w w9 := hB6.trans (hB69.mono hB6.size)
  clear vx3 hb7 hb8 hb9 v1c v2c hB69 hB6 v1
  have HJ : Hid (worst T n1 = if sev (worst T c) < sev (worst (fun i => T (c + i)) (n1 - c)) then worst (fun i => T (c + i)) (n1 - c) else worst T c) := by
    have := worst_join T c (n1 - c)
    rw [show c + (n1 - c) = n1 by omega] at this
    exact this
  cases hw : wrs (worst (fun i => T (c + i)) (n1 - c)) (worst T c)
  · have hq : ((worst T n1).toList == (worst T c).toList) = true := by
      have := HJ.out
      rw [if_neg (by simpa [wrs] using hw)] at this
      rw [this]; simp
    go_wp2_with (first | (go_at_call 10; refine (worse_any _ _ _).mono ?_; rintro e w' ⟨rfl, hw9⟩; obtain rfl := hw9.symm) | (go_at_call 11; refine (first_any _ _ _ T _ v1d H1.out).mono ?_; rintro e w' ⟨rfl, hw9⟩; obtain rfl := hw9.symm))
    go_ret
    exact ⟨rfl, hB9⟩
  · have hq : ((worst T n1).toList == (worst (fun i => T (c + i)) (n1 - c)).toList) = true := by
      have := HJ.out
      rw [if_pos (by simpa [wrs] using hw)] at this
      rw [this]; simp
    go_wp2_with (first | (go_at_call 10; refine (worse_any _ _ _).mono ?_; rintro e w' ⟨rfl, hw9⟩; obtain rfl := hw9.symm) | (go_at_call 11; refine (first_any _ _ _ T _ v1d H1.out).mono ?_; rintro e w' ⟨rfl, hw9⟩; obtain rfl := hw9.symm))
    go_ret
    exact ⟨rfl, hB9⟩

end Go.Proofs.Qxb6630208a
