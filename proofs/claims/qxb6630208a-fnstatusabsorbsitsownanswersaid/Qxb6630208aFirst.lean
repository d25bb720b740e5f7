/-
  OUR OWN TEXT (by an AI prover). The walk of zzFirstWorst (11).
-/
import Derived.Test.Qxb6630208aChecks
namespace Go.Proofs.Qxb6630208a
open Go.RowKit

theorem first_none (a : Option Addr) (cap : Nat) (r : ByteArray) (w : World) (hr : (r.toList == [112, 97, 115, 115, 105, 110, 103]) = true) :
    Calls Try.prog 11 #[.slice a 0 cap, .string r] w fun e w' => e = .returned (.bool true) ∧ w' = w := by
  go_enter Try.func11, Try.ntmps11
  go_wp2
  go_ret
  exact ⟨rfl, rfl⟩

set_option maxHeartbeats 1600000 in
theorem first_some (b off n cap m : Nat) (T : Nat → ByteArray) (r : ByteArray) (w : World) (hn : n ≤ 131072) (hc : ∀ i, i < n → w.cell? ⟨b, off + i, none⟩ = some (.string (T i)))
    (hm : m < n) (heq : (T m).toList = r.toList) (hle : ∀ j, j < n → sev (T j) ≤ sev r) (hlt : ∀ j, j < m → sev (T j) < sev r) :
    Calls Try.prog 11 #[.slice (some ⟨b, off, none⟩) n cap, .string r] w fun e w' => e = .returned (.bool true) ∧ w' = w := by
  have HC : Hid (∀ i, i < n → w.cell? ⟨b, off + i, none⟩ = some (.string (T i))) := hc
  have HE : Hid (((T m).toList == r.toList) = true) := by show _ = _; rw [heq]; simp
  have H1 : Hid (∀ j, j < n → wrs (T j) r = false) := by
    intro j hj
    have := hle j hj
    simp [wrs]; omega
  have H2 : Hid (∀ j, j < m → wrs r (T j) = true) := by
    intro j hj
    have := hlt j hj
    simp [wrs]; omega
  clear hc heq hle hlt
  have hn0 : ((n : Int) == 0) = false := by simp; omega
  go_enter Try.func11, Try.ntmps11
  go_wp2
  go_loop [5, 6] (fun t i => ∃ k : Nat, k ≤ m ∧ i = .int .i64 k ∧ t = .int .i64 (-1)) (fun _ i => m + 1 - (intOf i).toNat)
  case atStart => exact ⟨0, Nat.zero_le _, rfl, rfl⟩
  case round =>
    obtain ⟨k, hk, rfl, rfl⟩ := hrel
    have f := HC.out k (by omega)
    have hkn : k < n := by omega
    cases he : ((T k).toList == r.toList)
    · have hkm : k ≠ m := by
        rintro rfl
        have := HE.out
        rw [he] at this
        cases this
      have hkm' : k < m := by omega
      clear hkm
      go_wp2
      go_round
      case rel => exact ⟨k + 1, by omega, by go_num, rfl⟩
      case measure => simp [intOf]; omega
    · go_wp2
      go_loop [7] (fun i => ∃ j : Nat, j ≤ n ∧ i = .int .i64 j) (fun i => n - (intOf i).toNat)
      case atStart => exact ⟨0, Nat.zero_le _, rfl⟩
      case round =>
        obtain ⟨j, hj, rfl⟩ := hrel
        by_cases hlt : j < n
        · have g := HC.out j hlt
          have g1 := H1.out j hlt
          go_wp2_with (go_at_call 10; refine (worse_any _ _ _).mono ?_; rintro e w' ⟨rfl, hw⟩; obtain rfl := hw.symm)
          go_round
          case rel => exact ⟨j + 1, by omega, by go_num⟩
          case measure => simp [intOf]; omega
        · go_wp2
          go_loop [8] (fun i => ∃ q : Nat, q ≤ k ∧ i = .int .i64 q) (fun i => k - (intOf i).toNat)
          case atStart => exact ⟨0, Nat.zero_le _, rfl⟩
          case round =>
            clear hlt hj
            obtain ⟨q, hq, rfl⟩ := hrel
            by_cases hlt : q < k
            · have g := HC.out q (by omega)
              have g1 := H2.out q (by omega)
              have hqn : q < n := by omega
              go_wp2_with (go_at_call 10; refine (worse_any _ _ _).mono ?_; rintro e w' ⟨rfl, hw⟩; obtain rfl := hw.symm)
              go_round
              case rel => exact ⟨q + 1, by omega, by go_num⟩
              case measure => simp [intOf]; omega
            · go_wp2
              go_ret
              exact ⟨rfl, rfl⟩

/-- zzFirstWorst says true of the worst. -/
theorem first_any (a : Option Addr) (n cap : Nat) (T : Nat → ByteArray) (w : World) (hv : SView w a n cap T) (hn : n ≤ 131072) :
    Calls Try.prog 11 #[.slice a n cap, .string (worst T n)] w fun e w' => e = .returned (.bool true) ∧ w' = w := by
  by_cases h0 : n = 0
  · subst h0
    exact first_none a cap _ w isP_pas
  · rcases hv.at' with h0' | ⟨b, off, rfl, hb, hc⟩
    · omega
    · obtain ⟨m, h1, h2, h3⟩ := worst_first T n (by omega)
      exact first_some b off n cap m T _ w hn hc h1 h2 (worst_inv T n).2 h3

end Go.Proofs.Qxb6630208a
