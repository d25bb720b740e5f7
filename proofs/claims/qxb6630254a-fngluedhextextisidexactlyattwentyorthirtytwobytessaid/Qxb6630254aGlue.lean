/-
  OUR OWN TEXT (by an AI prover). The walk of FnGluedHexTextIsIDExactlyAtTwentyOrThirtyTwoBytes (3).
-/
import Derived.Test.Qxb6630254aTexts
namespace Go.Proofs.Qxb6630254a
open Go.RowKit

/-- It answers some bool. (Behind a name, so that the walk does not part on the bool.) -/
def Says (e : Ending) : Prop := ∃ r : Bool, e = .returned (.bool r)
theorem Says.mk (r : Bool) : Says (.returned (.bool r)) := ⟨r, rfl⟩

theorem bytes5 (a0 : Option Addr) (n0 c0 : Nat) (a1 : Option Addr) (n1 c1 : Nat) (w : World) (h0 : n0 ≤ 9223372036854775807) (h1 : n1 ≤ 9223372036854775807) :
    Calls Try.prog 5 #[.slice a0 n0 c0, .slice a1 n1 c1] w fun e w' => Says e ∧ w' = w := by
  go_enter Try.func5, Try.ntmps5
  go_wp2
  all_goals (go_ret; exact ⟨Says.mk _, rfl⟩)

/-- zzHexText, its answer under a name. -/
theorem hex_var (a : Option Addr) (n cap : Nat) (Z : Nat → Int) (u : Bool) (w : World) (hv : BView w a n cap Z) (hn : n ≤ 262144) :
    Calls Try.prog 7 #[.slice a n cap, .bool u] w fun e w' => ∃ A : ByteArray, e = .returned (.string A) ∧ Hid (A = ⟨(hexT Z u n).toArray⟩) ∧ A.size ≤ 524288 ∧ Below w.heap.size w w' := by
  refine (hex_any a n cap Z u w hv hn).mono fun e w' ⟨h1, h2⟩ => ?_
  refine ⟨_, h1, rfl, ?_, h2⟩
  show (hexT Z u n).toArray.size ≤ _
  simp [hexT_length]
  omega

theorem glue_lower {Z0 Z1 : Nat → Int} (h0 : ∀ i, 0 ≤ Z0 i ∧ Z0 i ≤ 255) (h1 : ∀ i, 0 ≤ Z1 i ∧ Z1 i ≤ 255) {n0 n1 : Nat} {A B : ByteArray} (hA : A = ⟨(hexT Z0 false n0).toArray⟩) (hB : B = ⟨(hexT Z1 false n1).toArray⟩) :
    idb (A ++ B) = (n0 + n1 == 20 || n0 + n1 == 32) := by
  subst hA
  subst hB
  rw [idb_glue _ _ (n0 + n1) (by rw [hexT_length, hexT_length]; omega), hexL_lower h0, hexL_lower h1]
  simp

theorem glue_upper {Z0 Z1 : Nat → Int} (h0 : ∀ i, 0 ≤ Z0 i ∧ Z0 i ≤ 255) (h1 : ∀ i, 0 ≤ Z1 i ∧ Z1 i ≤ 255) {n0 n1 : Nat} {A B : ByteArray} (hA : A = ⟨(hexT Z0 true n0).toArray⟩) (hB : B = ⟨(hexT Z1 true n1).toArray⟩) :
    idb (A ++ B) = ((n0 + n1 == 20 || n0 + n1 == 32) && (noL Z0 n0 && noL Z1 n1)) := by
  subst hA
  subst hB
  rw [idb_glue _ _ (n0 + n1) (by rw [hexT_length, hexT_length]; omega), hexL_upper h0, hexL_upper h1]

set_option maxRecDepth 10000 in
set_option maxHeartbeats 1600000 in
theorem glueA (a0 : Option Addr) (n0 c0 : Nat) (Z0 : Nat → Int) (a1 : Option Addr) (n1 c1 : Nat) (Z1 : Nat → Int) (w : World) (v0 : BView w a0 n0 c0 Z0) (v1 : BView w a1 n1 c1 Z1) (hN0 : n0 ≤ 262144) (hN1 : n1 ≤ 262144) (hsum : n0 + n1 = 20) :
    Calls Try.prog 3 #[.slice a0 n0 c0, .slice a1 n1 c1] w fun e w' => e = .returned (.bool true) ∧ Below w.heap.size w w' := by
  have HN : Hid (n0 ≤ 262144 ∧ n1 ≤ 262144) := ⟨hN0, hN1⟩
  have hI0 : (n0 : Int) ≤ 262144 := by omega
  have hI1 : (n1 : Int) ≤ 262144 := by omega
  have D0 : Hid (∀ i, 0 ≤ Z0 i ∧ Z0 i ≤ 255) := v0.bd
  have D1 : Hid (∀ i, 0 ≤ Z1 i ∧ Z1 i ≤ 255) := v1.bd
  have WANT : Hid ((n0 + n1 == 20 || n0 + n1 == 32) = true) := by
    show _ = _
    rw [hsum]; rfl
  have f1 : ((n0 : Int) + (n1 : Int) == 20) = true := by simp; omega
  clear hsum hN0 hN1
  go_enter Try.func3, Try.ntmps3
  go_wp2_with (first | (go_at_call 5; refine (bytes5 _ _ _ _ _ _ _ (by omega) (by omega)).mono ?_; rintro e w' ⟨⟨r, rfl⟩, hw⟩; obtain rfl := hw.symm))
  any_goals (go_ret; exact ⟨rfl, Below.refl _ _⟩)
  refine (hex_var _ _ _ Z0 false _ v0 (by have := HN.out; omega)).mono ?_
  rintro e w1 ⟨A, rfl, HA, sA, bA⟩
  have v1a := v1.below bA
  have v0a := v0.below bA
  go_wp2_with fail
  refine (hex_var _ _ _ Z1 false _ v1a (by have := HN.out; omega)).mono ?_
  rintro e w2 ⟨B, rfl, HB, sB, bB⟩
  have q1 : Below w.heap.size w w2 := bA.trans (bB.mono bA.size)
  have v0b := v0a.below bB
  have v1b := v1a.below bB
  clear v0 v1 v0a v1a bA bB
  have E1 : idb (A ++ B) = true := by rw [glue_lower D0.out D1.out HA.out HB.out]; exact WANT.out
  go_wp2_with fail
  refine (id_any _ _).mono ?_
  rintro e w3 ⟨rfl, b3⟩
  have q2 : Below w.heap.size w w3 := q1.trans (b3.mono q1.size)
  have v0c := v0b.below b3
  have v1c := v1b.below b3
  clear v0b v1b b3 q1
  go_wp2_with fail
  refine (hex_var _ _ _ Z1 false _ v1c (by have := HN.out; omega)).mono ?_
  rintro e w4 ⟨C, rfl, HC, sC, bC⟩
  have v0d := v0c.below bC
  have v1d := v1c.below bC
  go_wp2_with fail
  refine (hex_var _ _ _ Z0 false _ v0d (by have := HN.out; omega)).mono ?_
  rintro e w5 ⟨D, rfl, HD, sD, bD⟩
  have q3 : Below w3.heap.size w3 w5 := bC.trans (bD.mono bC.size)
  have q4 : Below w.heap.size w w5 := q2.trans (q3.mono q2.size)
  have v0e := v0c.below q3
  have v1e := v1c.below q3
  clear v0c v1c v0d v1d bC bD q3 q2
  have E2 : idb (C ++ D) = true := by rw [glue_lower D1.out D0.out HC.out HD.out, Nat.add_comm]; exact WANT.out
  go_wp2_with fail
  refine (id_any _ _).mono ?_
  rintro e w6 ⟨rfl, b6⟩
  have q5 : Below w.heap.size w w6 := q4.trans (b6.mono q4.size)
  have v0f := v0e.below b6
  have v1f := v1e.below b6
  clear v0e v1e b6 q4
  cases x0 : noL Z0 n0 <;> cases x1 : noL Z1 n1
  · go_wp2_with (go_at_call 8; refine (nol_any _ _ _ _ _ (by assumption)).mono ?_; rintro e w' ⟨rfl, hw⟩; obtain rfl := hw.symm)
    refine (hex_var _ _ _ Z0 true _ v0f (by have := HN.out; omega)).mono ?_
    rintro e w7 ⟨F, rfl, HF, sF, bF⟩
    have v1g := v1f.below bF
    go_wp2_with fail
    refine (hex_var _ _ _ Z1 true _ v1g (by have := HN.out; omega)).mono ?_
    rintro e w8 ⟨G, rfl, HG, sG, bG⟩
    have q6 : Below w.heap.size w w8 := (q5.trans (bF.mono q5.size)).trans (bG.mono (Nat.le_trans q5.size bF.size))
    have E3 : idb (F ++ G) = false := by rw [glue_upper D0.out D1.out HF.out HG.out, WANT.out, x0, x1]; rfl
    clear v0f v1f v1g bF bG q5
    go_wp2_with fail
    refine (id_any _ _).mono ?_
    rintro e w9 ⟨rfl, b9⟩
    go_wp2
    go_ret
    exact ⟨rfl, q6.trans (b9.mono q6.size)⟩
  · go_wp2_with (go_at_call 8; refine (nol_any _ _ _ _ _ (by assumption)).mono ?_; rintro e w' ⟨rfl, hw⟩; obtain rfl := hw.symm)
    refine (hex_var _ _ _ Z0 true _ v0f (by have := HN.out; omega)).mono ?_
    rintro e w7 ⟨F, rfl, HF, sF, bF⟩
    have v1g := v1f.below bF
    go_wp2_with fail
    refine (hex_var _ _ _ Z1 true _ v1g (by have := HN.out; omega)).mono ?_
    rintro e w8 ⟨G, rfl, HG, sG, bG⟩
    have q6 : Below w.heap.size w w8 := (q5.trans (bF.mono q5.size)).trans (bG.mono (Nat.le_trans q5.size bF.size))
    have E3 : idb (F ++ G) = false := by rw [glue_upper D0.out D1.out HF.out HG.out, WANT.out, x0, x1]; rfl
    clear v0f v1f v1g bF bG q5
    go_wp2_with fail
    refine (id_any _ _).mono ?_
    rintro e w9 ⟨rfl, b9⟩
    go_wp2
    go_ret
    exact ⟨rfl, q6.trans (b9.mono q6.size)⟩
  · go_wp2_with (go_at_call 8; refine (nol_any _ _ _ _ _ (by assumption)).mono ?_; rintro e w' ⟨rfl, hw⟩; obtain rfl := hw.symm)
    refine (hex_var _ _ _ Z0 true _ v0f (by have := HN.out; omega)).mono ?_
    rintro e w7 ⟨F, rfl, HF, sF, bF⟩
    have v1g := v1f.below bF
    go_wp2_with fail
    refine (hex_var _ _ _ Z1 true _ v1g (by have := HN.out; omega)).mono ?_
    rintro e w8 ⟨G, rfl, HG, sG, bG⟩
    have q6 : Below w.heap.size w w8 := (q5.trans (bF.mono q5.size)).trans (bG.mono (Nat.le_trans q5.size bF.size))
    have E3 : idb (F ++ G) = false := by rw [glue_upper D0.out D1.out HF.out HG.out, WANT.out, x0, x1]; rfl
    clear v0f v1f v1g bF bG q5
    go_wp2_with fail
    refine (id_any _ _).mono ?_
    rintro e w9 ⟨rfl, b9⟩
    go_wp2
    go_ret
    exact ⟨rfl, q6.trans (b9.mono q6.size)⟩
  · go_wp2_with (go_at_call 8; refine (nol_any _ _ _ _ _ (by assumption)).mono ?_; rintro e w' ⟨rfl, hw⟩; obtain rfl := hw.symm)
    refine (hex_var _ _ _ Z0 true _ v0f (by have := HN.out; omega)).mono ?_
    rintro e w7 ⟨F, rfl, HF, sF, bF⟩
    have v1g := v1f.below bF
    go_wp2_with fail
    refine (hex_var _ _ _ Z1 true _ v1g (by have := HN.out; omega)).mono ?_
    rintro e w8 ⟨G, rfl, HG, sG, bG⟩
    have q6 : Below w.heap.size w w8 := (q5.trans (bF.mono q5.size)).trans (bG.mono (Nat.le_trans q5.size bF.size))
    have E3 : idb (F ++ G) = true := by rw [glue_upper D0.out D1.out HF.out HG.out, WANT.out, x0, x1]; rfl
    clear v0f v1f v1g bF bG q5
    go_wp2_with fail
    refine (id_any _ _).mono ?_
    rintro e w9 ⟨rfl, b9⟩
    go_wp2
    go_ret
    exact ⟨rfl, q6.trans (b9.mono q6.size)⟩

set_option maxRecDepth 10000 in
set_option maxHeartbeats 1600000 in
theorem glueB (a0 : Option Addr) (n0 c0 : Nat) (Z0 : Nat → Int) (a1 : Option Addr) (n1 c1 : Nat) (Z1 : Nat → Int) (w : World) (v0 : BView w a0 n0 c0 Z0) (v1 : BView w a1 n1 c1 Z1) (hN0 : n0 ≤ 262144) (hN1 : n1 ≤ 262144) (hsum : n0 + n1 = 32) :
    Calls Try.prog 3 #[.slice a0 n0 c0, .slice a1 n1 c1] w fun e w' => e = .returned (.bool true) ∧ Below w.heap.size w w' := by
  have HN : Hid (n0 ≤ 262144 ∧ n1 ≤ 262144) := ⟨hN0, hN1⟩
  have hI0 : (n0 : Int) ≤ 262144 := by omega
  have hI1 : (n1 : Int) ≤ 262144 := by omega
  have D0 : Hid (∀ i, 0 ≤ Z0 i ∧ Z0 i ≤ 255) := v0.bd
  have D1 : Hid (∀ i, 0 ≤ Z1 i ∧ Z1 i ≤ 255) := v1.bd
  have WANT : Hid ((n0 + n1 == 20 || n0 + n1 == 32) = true) := by
    show _ = _
    rw [hsum]; rfl
  have f1 : ((n0 : Int) + (n1 : Int) == 20) = false := by simp; omega
  have f2 : ((n0 : Int) + (n1 : Int) == 32) = true := by simp; omega
  clear hsum hN0 hN1
  go_enter Try.func3, Try.ntmps3
  go_wp2_with (first | (go_at_call 5; refine (bytes5 _ _ _ _ _ _ _ (by omega) (by omega)).mono ?_; rintro e w' ⟨⟨r, rfl⟩, hw⟩; obtain rfl := hw.symm))
  any_goals (go_ret; exact ⟨rfl, Below.refl _ _⟩)
  refine (hex_var _ _ _ Z0 false _ v0 (by have := HN.out; omega)).mono ?_
  rintro e w1 ⟨A, rfl, HA, sA, bA⟩
  have v1a := v1.below bA
  have v0a := v0.below bA
  go_wp2_with fail
  refine (hex_var _ _ _ Z1 false _ v1a (by have := HN.out; omega)).mono ?_
  rintro e w2 ⟨B, rfl, HB, sB, bB⟩
  have q1 : Below w.heap.size w w2 := bA.trans (bB.mono bA.size)
  have v0b := v0a.below bB
  have v1b := v1a.below bB
  clear v0 v1 v0a v1a bA bB
  have E1 : idb (A ++ B) = true := by rw [glue_lower D0.out D1.out HA.out HB.out]; exact WANT.out
  go_wp2_with fail
  refine (id_any _ _).mono ?_
  rintro e w3 ⟨rfl, b3⟩
  have q2 : Below w.heap.size w w3 := q1.trans (b3.mono q1.size)
  have v0c := v0b.below b3
  have v1c := v1b.below b3
  clear v0b v1b b3 q1
  go_wp2_with fail
  refine (hex_var _ _ _ Z1 false _ v1c (by have := HN.out; omega)).mono ?_
  rintro e w4 ⟨C, rfl, HC, sC, bC⟩
  have v0d := v0c.below bC
  have v1d := v1c.below bC
  go_wp2_with fail
  refine (hex_var _ _ _ Z0 false _ v0d (by have := HN.out; omega)).mono ?_
  rintro e w5 ⟨D, rfl, HD, sD, bD⟩
  have q3 : Below w3.heap.size w3 w5 := bC.trans (bD.mono bC.size)
  have q4 : Below w.heap.size w w5 := q2.trans (q3.mono q2.size)
  have v0e := v0c.below q3
  have v1e := v1c.below q3
  clear v0c v1c v0d v1d bC bD q3 q2
  have E2 : idb (C ++ D) = true := by rw [glue_lower D1.out D0.out HC.out HD.out, Nat.add_comm]; exact WANT.out
  go_wp2_with fail
  refine (id_any _ _).mono ?_
  rintro e w6 ⟨rfl, b6⟩
  have q5 : Below w.heap.size w w6 := q4.trans (b6.mono q4.size)
  have v0f := v0e.below b6
  have v1f := v1e.below b6
  clear v0e v1e b6 q4
  cases x0 : noL Z0 n0 <;> cases x1 : noL Z1 n1
  · go_wp2_with (go_at_call 8; refine (nol_any _ _ _ _ _ (by assumption)).mono ?_; rintro e w' ⟨rfl, hw⟩; obtain rfl := hw.symm)
    refine (hex_var _ _ _ Z0 true _ v0f (by have := HN.out; omega)).mono ?_
    rintro e w7 ⟨F, rfl, HF, sF, bF⟩
    have v1g := v1f.below bF
    go_wp2_with fail
    refine (hex_var _ _ _ Z1 true _ v1g (by have := HN.out; omega)).mono ?_
    rintro e w8 ⟨G, rfl, HG, sG, bG⟩
    have q6 : Below w.heap.size w w8 := (q5.trans (bF.mono q5.size)).trans (bG.mono (Nat.le_trans q5.size bF.size))
    have E3 : idb (F ++ G) = false := by rw [glue_upper D0.out D1.out HF.out HG.out, WANT.out, x0, x1]; rfl
    clear v0f v1f v1g bF bG q5
    go_wp2_with fail
    refine (id_any _ _).mono ?_
    rintro e w9 ⟨rfl, b9⟩
    go_wp2
    go_ret
    exact ⟨rfl, q6.trans (b9.mono q6.size)⟩
  · go_wp2_with (go_at_call 8; refine (nol_any _ _ _ _ _ (by assumption)).mono ?_; rintro e w' ⟨rfl, hw⟩; obtain rfl := hw.symm)
    refine (hex_var _ _ _ Z0 true _ v0f (by have := HN.out; omega)).mono ?_
    rintro e w7 ⟨F, rfl, HF, sF, bF⟩
    have v1g := v1f.below bF
    go_wp2_with fail
    refine (hex_var _ _ _ Z1 true _ v1g (by have := HN.out; omega)).mono ?_
    rintro e w8 ⟨G, rfl, HG, sG, bG⟩
    have q6 : Below w.heap.size w w8 := (q5.trans (bF.mono q5.size)).trans (bG.mono (Nat.le_trans q5.size bF.size))
    have E3 : idb (F ++ G) = false := by rw [glue_upper D0.out D1.out HF.out HG.out, WANT.out, x0, x1]; rfl
    clear v0f v1f v1g bF bG q5
    go_wp2_with fail
    refine (id_any _ _).mono ?_
    rintro e w9 ⟨rfl, b9⟩
    go_wp2
    go_ret
    exact ⟨rfl, q6.trans (b9.mono q6.size)⟩
  · go_wp2_with (go_at_call 8; refine (nol_any _ _ _ _ _ (by assumption)).mono ?_; rintro e w' ⟨rfl, hw⟩; obtain rfl := hw.symm)
    refine (hex_var _ _ _ Z0 true _ v0f (by have := HN.out; omega)).mono ?_
    rintro e w7 ⟨F, rfl, HF, sF, bF⟩
    have v1g := v1f.below bF
    go_wp2_with fail
    refine (hex_var _ _ _ Z1 true _ v1g (by have := HN.out; omega)).mono ?_
    rintro e w8 ⟨G, rfl, HG, sG, bG⟩
    have q6 : Below w.heap.size w w8 := (q5.trans (bF.mono q5.size)).trans (bG.mono (Nat.le_trans q5.size bF.size))
    have E3 : idb (F ++ G) = false := by rw [glue_upper D0.out D1.out HF.out HG.out, WANT.out, x0, x1]; rfl
    clear v0f v1f v1g bF bG q5
    go_wp2_with fail
    refine (id_any _ _).mono ?_
    rintro e w9 ⟨rfl, b9⟩
    go_wp2
    go_ret
    exact ⟨rfl, q6.trans (b9.mono q6.size)⟩
  · go_wp2_with (go_at_call 8; refine (nol_any _ _ _ _ _ (by assumption)).mono ?_; rintro e w' ⟨rfl, hw⟩; obtain rfl := hw.symm)
    refine (hex_var _ _ _ Z0 true _ v0f (by have := HN.out; omega)).mono ?_
    rintro e w7 ⟨F, rfl, HF, sF, bF⟩
    have v1g := v1f.below bF
    go_wp2_with fail
    refine (hex_var _ _ _ Z1 true _ v1g (by have := HN.out; omega)).mono ?_
    rintro e w8 ⟨G, rfl, HG, sG, bG⟩
    have q6 : Below w.heap.size w w8 := (q5.trans (bF.mono q5.size)).trans (bG.mono (Nat.le_trans q5.size bF.size))
    have E3 : idb (F ++ G) = true := by rw [glue_upper D0.out D1.out HF.out HG.out, WANT.out, x0, x1]; rfl
    clear v0f v1f v1g bF bG q5
    go_wp2_with fail
    refine (id_any _ _).mono ?_
    rintro e w9 ⟨rfl, b9⟩
    go_wp2
    go_ret
    exact ⟨rfl, q6.trans (b9.mono q6.size)⟩

set_option maxRecDepth 10000 in
set_option maxHeartbeats 1600000 in
theorem glueC (a0 : Option Addr) (n0 c0 : Nat) (Z0 : Nat → Int) (a1 : Option Addr) (n1 c1 : Nat) (Z1 : Nat → Int) (w : World) (v0 : BView w a0 n0 c0 Z0) (v1 : BView w a1 n1 c1 Z1) (hN0 : n0 ≤ 262144) (hN1 : n1 ≤ 262144) (hs1 : n0 + n1 ≠ 20) (hs2 : n0 + n1 ≠ 32) :
    Calls Try.prog 3 #[.slice a0 n0 c0, .slice a1 n1 c1] w fun e w' => e = .returned (.bool true) ∧ Below w.heap.size w w' := by
  have HN : Hid (n0 ≤ 262144 ∧ n1 ≤ 262144) := ⟨hN0, hN1⟩
  have hI0 : (n0 : Int) ≤ 262144 := by omega
  have hI1 : (n1 : Int) ≤ 262144 := by omega
  have D0 : Hid (∀ i, 0 ≤ Z0 i ∧ Z0 i ≤ 255) := v0.bd
  have D1 : Hid (∀ i, 0 ≤ Z1 i ∧ Z1 i ≤ 255) := v1.bd
  have WANT : Hid ((n0 + n1 == 20 || n0 + n1 == 32) = false) := by
    show _ = _
    rw [beq_eq_false_iff_ne.2 hs1, beq_eq_false_iff_ne.2 hs2]; rfl
  have f1 : ((n0 : Int) + (n1 : Int) == 20) = false := by simp; omega
  have f2 : ((n0 : Int) + (n1 : Int) == 32) = false := by simp; omega
  clear hs1 hs2 hN0 hN1
  go_enter Try.func3, Try.ntmps3
  go_wp2_with (first | (go_at_call 5; refine (bytes5 _ _ _ _ _ _ _ (by omega) (by omega)).mono ?_; rintro e w' ⟨⟨r, rfl⟩, hw⟩; obtain rfl := hw.symm))
  any_goals (go_ret; exact ⟨rfl, Below.refl _ _⟩)
  refine (hex_var _ _ _ Z0 false _ v0 (by have := HN.out; omega)).mono ?_
  rintro e w1 ⟨A, rfl, HA, sA, bA⟩
  have v1a := v1.below bA
  have v0a := v0.below bA
  go_wp2_with fail
  refine (hex_var _ _ _ Z1 false _ v1a (by have := HN.out; omega)).mono ?_
  rintro e w2 ⟨B, rfl, HB, sB, bB⟩
  have q1 : Below w.heap.size w w2 := bA.trans (bB.mono bA.size)
  have v0b := v0a.below bB
  have v1b := v1a.below bB
  clear v0 v1 v0a v1a bA bB
  have E1 : idb (A ++ B) = false := by rw [glue_lower D0.out D1.out HA.out HB.out]; exact WANT.out
  go_wp2_with fail
  refine (id_any _ _).mono ?_
  rintro e w3 ⟨rfl, b3⟩
  have q2 : Below w.heap.size w w3 := q1.trans (b3.mono q1.size)
  have v0c := v0b.below b3
  have v1c := v1b.below b3
  clear v0b v1b b3 q1
  go_wp2_with fail
  refine (hex_var _ _ _ Z1 false _ v1c (by have := HN.out; omega)).mono ?_
  rintro e w4 ⟨C, rfl, HC, sC, bC⟩
  have v0d := v0c.below bC
  have v1d := v1c.below bC
  go_wp2_with fail
  refine (hex_var _ _ _ Z0 false _ v0d (by have := HN.out; omega)).mono ?_
  rintro e w5 ⟨D, rfl, HD, sD, bD⟩
  have q3 : Below w3.heap.size w3 w5 := bC.trans (bD.mono bC.size)
  have q4 : Below w.heap.size w w5 := q2.trans (q3.mono q2.size)
  have v0e := v0c.below q3
  have v1e := v1c.below q3
  clear v0c v1c v0d v1d bC bD q3 q2
  have E2 : idb (C ++ D) = false := by rw [glue_lower D1.out D0.out HC.out HD.out, Nat.add_comm]; exact WANT.out
  go_wp2_with fail
  refine (id_any _ _).mono ?_
  rintro e w6 ⟨rfl, b6⟩
  have q5 : Below w.heap.size w w6 := q4.trans (b6.mono q4.size)
  have v0f := v0e.below b6
  have v1f := v1e.below b6
  clear v0e v1e b6 q4
  go_wp2_with fail
  refine (hex_var _ _ _ Z0 true _ v0f (by have := HN.out; omega)).mono ?_
  rintro e w7 ⟨F, rfl, HF, sF, bF⟩
  have v1g := v1f.below bF
  go_wp2_with fail
  refine (hex_var _ _ _ Z1 true _ v1g (by have := HN.out; omega)).mono ?_
  rintro e w8 ⟨G, rfl, HG, sG, bG⟩
  have q6 : Below w.heap.size w w8 := (q5.trans (bF.mono q5.size)).trans (bG.mono (Nat.le_trans q5.size bF.size))
  have E3 : idb (F ++ G) = false := by rw [glue_upper D0.out D1.out HF.out HG.out, WANT.out]; rfl
  clear v0f v1f v1g bF bG q5
  go_wp2_with fail
  refine (id_any _ _).mono ?_
  rintro e w9 ⟨rfl, b9⟩
  go_wp2
  go_ret
  exact ⟨rfl, q6.trans (b9.mono q6.size)⟩

set_option maxRecDepth 10000 in
theorem glueOut (a0 : Option Addr) (n0 c0 : Nat) (a1 : Option Addr) (n1 c1 : Nat) (w : World) (h0 : n0 ≤ 9223372036854775807) (h1 : n1 ≤ 9223372036854775807) (h : 262144 < n0 ∨ 262144 < n1) :
    Calls Try.prog 3 #[.slice a0 n0 c0, .slice a1 n1 c1] w fun e w' => e = .returned (.bool true) ∧ Below w.heap.size w w' := by
  by_cases h2 : 262144 < n0
  · have h2' : (262144 : Int) < (n0 : Int) := by omega
    clear h h2
    go_enter Try.func3, Try.ntmps3
    go_wp2_with (go_at_call 5; refine (bytes5 _ _ _ _ _ _ _ h0 h1).mono ?_; rintro e w' ⟨⟨r, rfl⟩, hw⟩; obtain rfl := hw.symm)
    all_goals (go_ret; exact ⟨rfl, Below.refl _ _⟩)
  · have h2' : ¬ (262144 : Int) < (n0 : Int) := by omega
    have h3' : (262144 : Int) < (n1 : Int) := by omega
    clear h h2
    go_enter Try.func3, Try.ntmps3
    go_wp2_with (go_at_call 5; refine (bytes5 _ _ _ _ _ _ _ h0 h1).mono ?_; rintro e w' ⟨⟨r, rfl⟩, hw⟩; obtain rfl := hw.symm)
    all_goals (go_ret; exact ⟨rfl, Below.refl _ _⟩)

end Go.Proofs.Qxb6630254a
