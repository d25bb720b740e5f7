/-
  OUR OWN TEXT (by an AI prover). The walks of the small functions of seat b6630131a: StatusCondition (5), isStatusCode (6), singleBitAt (7).
-/
import Derived.Test.Qxb6630131aRows
import Derived.WalkKit
import Derived.WalkSpells
namespace Go.Proofs.Qxb6630131a
open Go.RowKit

/-- The condition of a code. -/
def sc (a : Int) : Int := if 1 ≤ a ∧ a ≤ 16 then 2 ^ a.toNat else 0
/-- Is it a status code? -/
def isc (a : Int) : Bool := decide (1 ≤ a) && decide (a ≤ 16)

theorem sc_lo (a : Int) (w : World) (h : a < 1) : Calls Try.prog 5 #[.int .i64 a] w fun e w' => e = .returned (.int .u32 0) ∧ w' = w := by
  go_enter Try.func5, Try.ntmps5
  go_wp2
  go_ret
  exact ⟨rfl, rfl⟩

theorem sc_hi (a : Int) (w : World) (h : 16 < a) : Calls Try.prog 5 #[.int .i64 a] w fun e w' => e = .returned (.int .u32 0) ∧ w' = w := by
  have h1 : ¬ a < 1 := by omega
  go_enter Try.func5, Try.ntmps5
  go_wp2
  go_ret
  exact ⟨rfl, rfl⟩

theorem sc_mid (a : Int) (w : World) (h : 1 ≤ a) (h' : a ≤ 16) : Calls Try.prog 5 #[.int .i64 a] w fun e w' => e = .returned (.int .u32 (2 ^ a.toNat)) ∧ w' = w := by
  have hc : a = 1 ∨ a = 2 ∨ a = 3 ∨ a = 4 ∨ a = 5 ∨ a = 6 ∨ a = 7 ∨ a = 8 ∨ a = 9 ∨ a = 10 ∨ a = 11 ∨ a = 12 ∨ a = 13 ∨ a = 14 ∨ a = 15 ∨ a = 16 := by omega
  rcases hc with rfl | rfl | rfl | rfl | rfl | rfl | rfl | rfl | rfl | rfl | rfl | rfl | rfl | rfl | rfl | rfl
  all_goals
    go_enter Try.func5, Try.ntmps5
    go_wp2
    go_ret
    exact ⟨rfl, rfl⟩

theorem sc_any (a : Int) (w : World) : Calls Try.prog 5 #[.int .i64 a] w fun e w' => e = .returned (.int .u32 (sc a)) ∧ w' = w := by
  unfold sc
  by_cases h : 1 ≤ a
  · by_cases h' : a ≤ 16
    · rw [if_pos ⟨h, h'⟩]; exact sc_mid a w h h'
    · rw [if_neg (by omega)]; exact sc_hi a w (by omega)
  · rw [if_neg (by omega)]; exact sc_lo a w (by omega)

theorem isc_any (a : Int) (w : World) : Calls Try.prog 6 #[.int .i64 a] w fun e w' => e = .returned (.bool (isc a)) ∧ w' = w := by
  by_cases h : 1 ≤ a
  · by_cases h' : a ≤ 16
    · have e : isc a = true := by simp [isc, h, h']
      rw [e]
      go_enter Try.func6, Try.ntmps6
      go_wp2
      go_ret
      exact ⟨rfl, rfl⟩
    · have e : isc a = false := by simp [isc, h']
      rw [e]
      go_enter Try.func6, Try.ntmps6
      go_wp2
      go_ret
      exact ⟨rfl, rfl⟩
  · have e : isc a = false := by simp [isc, h]
    rw [e]
    go_enter Try.func6, Try.ntmps6
    go_wp2
    go_ret
    exact ⟨rfl, rfl⟩

theorem single (a : Int) (w : World) (h : 1 ≤ a) (h' : a ≤ 16) : Calls Try.prog 7 #[.int .u32 (sc a), .int .i64 a] w fun e w' => e = .returned (.bool true) ∧ w' = w := by
  have hc : a = 1 ∨ a = 2 ∨ a = 3 ∨ a = 4 ∨ a = 5 ∨ a = 6 ∨ a = 7 ∨ a = 8 ∨ a = 9 ∨ a = 10 ∨ a = 11 ∨ a = 12 ∨ a = 13 ∨ a = 14 ∨ a = 15 ∨ a = 16 := by omega
  have e : sc a = 2 ^ a.toNat := by simp [sc, h, h']
  rw [e]
  clear e
  rcases hc with rfl | rfl | rfl | rfl | rfl | rfl | rfl | rfl | rfl | rfl | rfl | rfl | rfl | rfl | rfl | rfl
  all_goals
    simp
    go_enter Try.func7, Try.ntmps7
    go_wp2
    go_ret
    exact ⟨rfl, rfl⟩

end Go.Proofs.Qxb6630131a
