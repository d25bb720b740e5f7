/-
  OUR OWN TEXT (by an AI prover). The walks of zzEq (9), zzIsTail (8), zzEqJoin (10): each says true where its arguments are as the law wants them.
-/
import Derived.Test.Qxb6630184aRows
import Derived.Test.Qxb6630184aViews
import Derived.Deep.QuietTactic
import Derived.BigQuiet
import Derived.WalkSmall
namespace Go.Proofs.Qxb6630184a
open Go.RowKit

set_option maxHeartbeats 800000 in
theorem eq_some (b1 o1 c1 b2 o2 c2 n : Nat) (X Y : Nat → Int) (w : World) (hn : n ≤ 9223372036854775807) (hb1 : b1 < w.heap.size) (hb2 : b2 < w.heap.size)
    (h1 : ∀ i, i < n → w.cell? ⟨b1, o1 + i, none⟩ = some (.int .u64 (X i))) (h2 : ∀ i, i < n → w.cell? ⟨b2, o2 + i, none⟩ = some (.int .u64 (Y i))) (he : ∀ i, i < n → X i = Y i) :
    Calls Try.prog 9 #[.slice (some ⟨b1, o1, none⟩) n c1, .slice (some ⟨b2, o2, none⟩) n c2] w fun e w' => e = .returned (.bool true) ∧ Below w.heap.size w w' := by
  have H : Hid (∀ i, i < n → w.cell? ⟨b1, o1 + i, none⟩ = some (.int .u64 (X i)) ∧ w.cell? ⟨b2, o2 + i, none⟩ = some (.int .u64 (X i))) := fun i hi => ⟨h1 i hi, by rw [he i hi]; exact h2 i hi⟩
  clear h1 h2 he
  go_enter Try.func9, Try.ntmps9
  go_wp2
  go_loopw [5] (fun i wr => ∃ k : Nat, k ≤ n ∧ i = .int .i64 k ∧ Below w.heap.size w wr) (fun i _ => n - (intOf i).toNat)
  case atStart => exact ⟨0, Nat.zero_le _, rfl, Below.refl _ _⟩
  case round =>
    obtain ⟨k, hk, rfl, hbel⟩ := hrel
    by_cases hlt : k < n
    · have f1 : wr.cell? ⟨b1, o1 + k, none⟩ = some (.int .u64 (X k)) := by rw [hbel.cell (p := ⟨b1, o1 + k, none⟩) hb1]; exact (H.out k hlt).1
      have f2 : wr.cell? ⟨b2, o2 + k, none⟩ = some (.int .u64 (X k)) := by rw [hbel.cell (p := ⟨b2, o2 + k, none⟩) hb2]; exact (H.out k hlt).2
      have hlt' : (k : Int) < (n : Int) := by omega
      go_wp2
      go_quiet (fail)
      go_wp2
      go_roundw
      case rel => exact ⟨k + 1, by omega, by go_num, below_drewN hbel _⟩
      case measure => simp [intOf]; omega
    · go_wp2
      go_ret
      exact ⟨rfl, hbel⟩

/-- zzEq says true of two views of the same numbers. -/
theorem eqv {a1 a2 : Option Addr} {n1 n2 c1 c2 : Nat} {X Y : Nat → Int} {w : World} (v1 : View w a1 n1 c1 X) (v2 : View w a2 n2 c2 Y) (hn : 0 < n1) (h12 : n1 = n2) (he : ∀ i, i < n1 → X i = Y i) :
    Calls Try.prog 9 #[.slice a1 n1 c1, .slice a2 n2 c2] w fun e w' => e = .returned (.bool true) ∧ Below w.heap.size w w' := by
  subst h12
  have m1 := v1.max
  have m2 := v1.le
  rcases v1.at' with h0 | ⟨b1, o1, rfl, hb1, f1⟩
  · omega
  · rcases v2.at' with h0 | ⟨b2, o2, rfl, hb2, f2⟩
    · omega
    · exact eq_some b1 o1 c1 b2 o2 c2 n1 X Y w (by omega) hb1 hb2 f1 f2 he

set_option maxHeartbeats 800000 in
theorem tail_some (b1 o1 c1 b2 o2 c2 n m : Nat) (X Y : Nat → Int) (w : World) (hn : n ≤ m) (hm : m ≤ 9223372036854775807) (hb1 : b1 < w.heap.size) (hb2 : b2 < w.heap.size)
    (h1 : ∀ i, i < n → w.cell? ⟨b1, o1 + i, none⟩ = some (.int .u64 (X i))) (h2 : ∀ i, i < m → w.cell? ⟨b2, o2 + i, none⟩ = some (.int .u64 (Y i))) (he : ∀ i, i < n → X i = Y (m - n + i)) :
    Calls Try.prog 8 #[.slice (some ⟨b1, o1, none⟩) n c1, .slice (some ⟨b2, o2, none⟩) m c2] w fun e w' => e = .returned (.bool true) ∧ Below w.heap.size w w' := by
  have H : Hid (∀ i, i < n → w.cell? ⟨b1, o1 + i, none⟩ = some (.int .u64 (X i)) ∧ w.cell? ⟨b2, o2 + (m - n + i), none⟩ = some (.int .u64 (X i))) := fun i hi => ⟨h1 i hi, by rw [he i hi]; exact h2 _ (by omega)⟩
  clear h1 h2 he
  go_enter Try.func8, Try.ntmps8
  go_wp2
  go_loopw [6] (fun i wr => ∃ k : Nat, k ≤ n ∧ i = .int .i64 k ∧ Below w.heap.size w wr) (fun i _ => n - (intOf i).toNat)
  case atStart => exact ⟨0, Nat.zero_le _, rfl, Below.refl _ _⟩
  case round =>
    obtain ⟨k, hk, rfl, hbel⟩ := hrel
    by_cases hlt : k < n
    · have f1 : wr.cell? ⟨b1, o1 + k, none⟩ = some (.int .u64 (X k)) := by rw [hbel.cell (p := ⟨b1, o1 + k, none⟩) hb1]; exact (H.out k hlt).1
      have f2 : wr.cell? ⟨b2, o2 + (m - n + k), none⟩ = some (.int .u64 (X k)) := by rw [hbel.cell (p := ⟨b2, o2 + (m - n + k), none⟩) hb2]; exact (H.out k hlt).2
      have hlt' : (k : Int) < (n : Int) := by omega
      have hlt2 : (m : Int) - (n : Int) + (k : Int) < (m : Int) := by omega
      have hlt3 : (0 : Int) ≤ (m : Int) - (n : Int) + (k : Int) := by omega
      go_wp2
      go_quiet (fail)
      go_wp2
      go_roundw
      case rel => exact ⟨k + 1, by omega, by go_num, below_drewN hbel _⟩
      case measure => simp [intOf]; omega
    · go_wp2
      go_ret
      exact ⟨rfl, hbel⟩

/-- zzIsTail says true of a tail. -/
theorem tailv {a1 a2 : Option Addr} {n m c1 c2 : Nat} {X Y : Nat → Int} {w : World} (v1 : View w a1 n c1 X) (v2 : View w a2 m c2 Y) (hn : 0 < n) (hnm : n ≤ m) (he : ∀ i, i < n → X i = Y (m - n + i)) :
    Calls Try.prog 8 #[.slice a1 n c1, .slice a2 m c2] w fun e w' => e = .returned (.bool true) ∧ Below w.heap.size w w' := by
  have m1 := v2.max
  have m2 := v2.le
  rcases v1.at' with h0 | ⟨b1, o1, rfl, hb1, f1⟩
  · omega
  · rcases v2.at' with h0 | ⟨b2, o2, rfl, hb2, f2⟩
    · omega
    · exact tail_some b1 o1 c1 b2 o2 c2 n m X Y w hnm (by omega) hb1 hb2 f1 f2 he

set_option maxHeartbeats 1600000 in
theorem join_some (b1 o1 c1 b2 o2 c2 b3 o3 c3 n m : Nat) (X Y Z : Nat → Int) (w : World) (hnm : n + m ≤ 9223372036854775807) (hb1 : b1 < w.heap.size) (hb2 : b2 < w.heap.size) (hb3 : b3 < w.heap.size)
    (h1 : ∀ i, i < n + m → w.cell? ⟨b1, o1 + i, none⟩ = some (.int .u64 (X i))) (h2 : ∀ i, i < n → w.cell? ⟨b2, o2 + i, none⟩ = some (.int .u64 (Y i))) (h3 : ∀ i, i < m → w.cell? ⟨b3, o3 + i, none⟩ = some (.int .u64 (Z i)))
    (he : ∀ i, i < n → X i = Y i) (hf : ∀ i, i < m → X (n + i) = Z i) :
    Calls Try.prog 10 #[.slice (some ⟨b1, o1, none⟩) (n + m) c1, .slice (some ⟨b2, o2, none⟩) n c2, .slice (some ⟨b3, o3, none⟩) m c3] w fun e w' => e = .returned (.bool true) ∧ Below w.heap.size w w' := by
  have H : Hid (∀ i, i < n → w.cell? ⟨b1, o1 + i, none⟩ = some (.int .u64 (X i)) ∧ w.cell? ⟨b2, o2 + i, none⟩ = some (.int .u64 (X i))) := fun i hi => ⟨h1 i (by omega), by rw [he i hi]; exact h2 _ (by omega)⟩
  have H' : Hid (∀ i, i < m → w.cell? ⟨b1, o1 + (n + i), none⟩ = some (.int .u64 (Z i)) ∧ w.cell? ⟨b3, o3 + i, none⟩ = some (.int .u64 (Z i))) := fun i hi => ⟨by rw [← hf i hi]; exact h1 _ (by omega), h3 _ (by omega)⟩
  clear h1 h2 h3 he hf
  go_enter Try.func10, Try.ntmps10
  go_wp2
  go_loopw [7] (fun i wr => ∃ k : Nat, k ≤ n ∧ i = .int .i64 k ∧ Below w.heap.size w wr) (fun i _ => n - (intOf i).toNat)
  case atStart => exact ⟨0, Nat.zero_le _, rfl, Below.refl _ _⟩
  case round =>
    obtain ⟨k, hk, rfl, hbel⟩ := hrel
    by_cases hlt : k < n
    · have f1 : wr.cell? ⟨b1, o1 + k, none⟩ = some (.int .u64 (X k)) := by rw [hbel.cell (p := ⟨b1, o1 + k, none⟩) hb1]; exact (H.out k hlt).1
      have f2 : wr.cell? ⟨b2, o2 + k, none⟩ = some (.int .u64 (X k)) := by rw [hbel.cell (p := ⟨b2, o2 + k, none⟩) hb2]; exact (H.out k hlt).2
      have hlt' : (k : Int) < (n : Int) := by omega
      have hlt2 : (k : Int) < (n : Int) + (m : Int) := by omega
      go_wp2
      go_quiet (fail)
      go_wp2
      go_roundw
      case rel => exact ⟨k + 1, by omega, by go_num, below_drewN hbel _⟩
      case measure => simp [intOf]; omega
    · go_wp2
      go_loopw [8] (fun i wq => ∃ k : Nat, k ≤ m ∧ i = .int .i64 k ∧ Below w.heap.size w wq) (fun i _ => m - (intOf i).toNat)
      case atStart => exact ⟨0, Nat.zero_le _, rfl, hbel⟩
      case round =>
        clear hbel hk hlt
        obtain ⟨q, hk, rfl, hbel⟩ := hrel
        by_cases hlt : q < m
        · have f1 : wr.cell? ⟨b1, o1 + (n + q), none⟩ = some (.int .u64 (Z q)) := by rw [hbel.cell (p := ⟨b1, o1 + (n + q), none⟩) hb1]; exact (H'.out q hlt).1
          have f2 : wr.cell? ⟨b3, o3 + q, none⟩ = some (.int .u64 (Z q)) := by rw [hbel.cell (p := ⟨b3, o3 + q, none⟩) hb3]; exact (H'.out q hlt).2
          have hlt' : (q : Int) < (m : Int) := by omega
          have hlt2 : (n : Int) + (q : Int) < (n : Int) + (m : Int) := by omega
          go_wp2
          go_quiet (fail)
          go_wp2
          go_roundw
          case rel => exact ⟨q + 1, by omega, by go_num, below_drewN hbel _⟩
          case measure => simp [intOf]; omega
        · go_wp2
          go_ret
          exact ⟨rfl, hbel⟩

/-- zzEqJoin says true of a join. -/
theorem joinv {a1 a2 a3 : Option Addr} {l n m c1 c2 c3 : Nat} {X Y Z : Nat → Int} {w : World} (v1 : View w a1 l c1 X) (v2 : View w a2 n c2 Y) (v3 : View w a3 m c3 Z) (hn : 0 < n) (hm : 0 < m) (hl : l = n + m)
    (he : ∀ i, i < n → X i = Y i) (hf : ∀ i, i < m → X (n + i) = Z i) :
    Calls Try.prog 10 #[.slice a1 l c1, .slice a2 n c2, .slice a3 m c3] w fun e w' => e = .returned (.bool true) ∧ Below w.heap.size w w' := by
  subst hl
  have m1 := v1.max
  have m2 := v1.le
  rcases v1.at' with h0 | ⟨b1, o1, rfl, hb1, f1⟩
  · omega
  · rcases v2.at' with h0 | ⟨b2, o2, rfl, hb2, f2⟩
    · omega
    · rcases v3.at' with h0 | ⟨b3, o3, rfl, hb3, f3⟩
      · omega
      · exact join_some b1 o1 c1 b2 o2 c2 b3 o3 c3 n m X Y Z w (by omega) hb1 hb2 hb3 f1 f2 f3 he hf

end Go.Proofs.Qxb6630184a
