/-
  OUR OWN TEXT (by an AI prover). The walks of the two guards zzBytes_.. (5, 11) and zzSmall (6).
-/
import Derived.Test.Qxb6630184aRows
import Derived.Test.Qxb6630184aViews
namespace Go.Proofs.Qxb6630184a
open Go.RowKit

/-- The slice of strings (a, n, cap) reads, in w, the strings S 0 .. S (n-1). -/
structure SView (w : World) (a : Option Addr) (n cap : Nat) (S : Nat → ByteArray) : Prop where
  le : n ≤ cap
  max : cap ≤ 9223372036854775807
  at' : n = 0 ∨ ∃ b off, a = some ⟨b, off, none⟩ ∧ b < w.heap.size ∧ ∀ i, i < n → w.cell? ⟨b, off + i, none⟩ = some (.string (S i))
  bd : ∀ i, (S i).size ≤ 9223372036854775807

theorem SView.below {w w' : World} {a : Option Addr} {n cap : Nat} {S : Nat → ByteArray} (h : SView w a n cap S) (hb0 : Below w.heap.size w w') : SView w' a n cap S := by
  refine ⟨h.le, h.max, ?_, h.bd⟩
  rcases h.at' with h0 | ⟨b, off, rfl, hlt, hc⟩
  · exact .inl h0
  · refine .inr ⟨b, off, rfl, Nat.lt_of_lt_of_le hlt hb0.size, fun i hi => ?_⟩
    rw [hb0.cell (p := ⟨b, off + i, none⟩) hlt]
    exact hc i hi

/-- A guard's answer: a bool; where it is true the lengths are small. (Behind a name, so that the walk does not part on the bool.) -/
def Small (nc n nt : Nat) (e : Ending) : Prop := ∃ r : Bool, e = .returned (.bool r) ∧ (r = true → nc ≤ 131072 ∧ n ≤ 131072 ∧ nt ≤ 65536)
theorem Small.no {nc n nt : Nat} : Small nc n nt (.returned (.bool false)) := ⟨false, rfl, by intro h; cases h⟩
theorem Small.yes {nc n nt : Nat} (h1 : nc ≤ 131072) (h2 : n ≤ 131072) (h3 : nt ≤ 65536) : Small nc n nt (.returned (.bool true)) := ⟨true, rfl, fun _ => ⟨h1, h2, h3⟩⟩
def Says (e : Ending) : Prop := ∃ r : Bool, e = .returned (.bool r)
theorem Says.mk (r : Bool) : Says (.returned (.bool r)) := ⟨r, rfl⟩

set_option maxHeartbeats 1600000 in
theorem small_none (ac : Option Addr) (nc cc : Nat) (a : Option Addr) (n cap : Nat) (at' : Option Addr) (ct : Nat) (w : World) (hc : nc ≤ 9223372036854775807) (hn : n ≤ 9223372036854775807) :
    Calls Try.prog 6 #[.slice ac nc cc, .slice a n cap, .slice at' 0 ct] w fun e w' => Small nc n 0 e ∧ w' = w := by
  go_enter Try.func6, Try.ntmps6
  go_wp2
  any_goals (go_ret; exact ⟨Small.no, rfl⟩)
  refine wp_loop_rounds 1 ?_
  rw [rounds_succ]
  go_wp2
  go_ret
  exact ⟨Small.yes (by omega) (by omega) (by omega), rfl⟩

set_option maxHeartbeats 1600000 in
theorem small_some (ac : Option Addr) (nc cc : Nat) (a : Option Addr) (n cap : Nat) (b off nt ct : Nat) (S : Nat → ByteArray) (w : World) (hc : nc ≤ 9223372036854775807) (hn : n ≤ 9223372036854775807)
    (hnt : nt ≤ 9223372036854775807) (hs : ∀ i, (S i).size ≤ 9223372036854775807) (hcell : ∀ i, i < nt → w.cell? ⟨b, off + i, none⟩ = some (.string (S i))) :
    Calls Try.prog 6 #[.slice ac nc cc, .slice a n cap, .slice (some ⟨b, off, none⟩) nt ct] w fun e w' => Small nc n nt e ∧ w' = w := by
  have HC : Hid (∀ i, i < nt → w.cell? ⟨b, off + i, none⟩ = some (.string (S i))) := hcell
  have HS : Hid (∀ i, (S i).size ≤ 9223372036854775807) := hs
  clear hcell hs
  go_enter Try.func6, Try.ntmps6
  go_wp2
  any_goals (go_ret; exact ⟨Small.no, rfl⟩)
  go_loop [7, 8] (fun t i => ∃ (k : Nat) (z : Int), k ≤ nt ∧ i = .int .i64 k ∧ t = .int .i64 z ∧ 0 ≤ z ∧ z ≤ 1048576) (fun _ i => nt - (intOf i).toNat)
  case atStart => exact ⟨0, _, Nat.zero_le _, rfl, rfl, by omega, by omega⟩
  case round =>
    obtain ⟨k, z, hk, rfl, rfl, hz0, hz1⟩ := hrel
    by_cases hlt : k < nt
    · have f := HC.out k hlt
      have g := HS.out k
      go_wp2
      any_goals (go_ret; exact ⟨Small.no, rfl⟩)
      go_round
      case rel => exact ⟨k + 1, _, by omega, by go_num, rfl, by omega, by omega⟩
      case measure => simp [intOf]; omega
    · go_wp2
      go_ret
      exact ⟨Small.yes (by omega) (by omega) (by omega), rfl⟩

theorem small (ac : Option Addr) (nc cc : Nat) (a : Option Addr) (n cap : Nat) (at' : Option Addr) (nt ct : Nat) (S : Nat → ByteArray) (w : World) (hc : nc ≤ 9223372036854775807) (hn : n ≤ 9223372036854775807) (hv : SView w at' nt ct S) :
    Calls Try.prog 6 #[.slice ac nc cc, .slice a n cap, .slice at' nt ct] w fun e w' => Small nc n nt e ∧ w' = w := by
  have m1 := hv.max
  have m2 := hv.le
  rcases hv.at' with h0 | ⟨b, off, rfl, _, f⟩
  · subst h0; exact small_none ac nc cc a n cap at' ct w hc hn
  · exact small_some ac nc cc a n cap b off nt ct S w hc hn (by omega) hv.bd f

set_option maxHeartbeats 1600000 in
theorem bytes5_none (ac : Option Addr) (nc cc : Nat) (a : Option Addr) (n cap : Nat) (at' : Option Addr) (ct : Nat) (l : Bool) (lsn cut : Int) (w : World) (hc : nc ≤ 9223372036854775807) (hn : n ≤ 9223372036854775807) :
    Calls Try.prog 5 #[.slice ac nc cc, .slice a n cap, .slice at' 0 ct, .bool l, .int .u64 lsn, .int .i64 cut] w fun e w' => Says e ∧ w' = w := by
  go_enter Try.func5, Try.ntmps5
  go_wp2
  any_goals (go_ret; exact ⟨Says.mk _, rfl⟩)
  refine wp_loop_rounds 1 ?_
  rw [rounds_succ]
  go_wp2
  go_ret
  exact ⟨Says.mk _, rfl⟩

set_option maxHeartbeats 1600000 in
theorem bytes5_some (ac : Option Addr) (nc cc : Nat) (a : Option Addr) (n cap : Nat) (b off nt ct : Nat) (S : Nat → ByteArray) (l : Bool) (lsn cut : Int) (w : World) (hc : nc ≤ 9223372036854775807) (hn : n ≤ 9223372036854775807)
    (hnt : nt ≤ 9223372036854775807) (hs : ∀ i, (S i).size ≤ 9223372036854775807) (hcell : ∀ i, i < nt → w.cell? ⟨b, off + i, none⟩ = some (.string (S i))) :
    Calls Try.prog 5 #[.slice ac nc cc, .slice a n cap, .slice (some ⟨b, off, none⟩) nt ct, .bool l, .int .u64 lsn, .int .i64 cut] w fun e w' => Says e ∧ w' = w := by
  have HC : Hid (∀ i, i < nt → w.cell? ⟨b, off + i, none⟩ = some (.string (S i))) := hcell
  have HS : Hid (∀ i, (S i).size ≤ 9223372036854775807) := hs
  clear hcell hs
  go_enter Try.func5, Try.ntmps5
  go_wp2
  any_goals (go_ret; exact ⟨Says.mk _, rfl⟩)
  go_loop [13, 14] (fun t i => ∃ (k : Nat) (z : Int), k ≤ nt ∧ i = .int .i64 k ∧ t = .int .i64 z ∧ 0 ≤ z ∧ z ≤ 1048576) (fun _ i => nt - (intOf i).toNat)
  case atStart => exact ⟨0, _, Nat.zero_le _, rfl, rfl, by omega, by omega⟩
  case round =>
    obtain ⟨k, z, hk, rfl, rfl, hz0, hz1⟩ := hrel
    by_cases hlt : k < nt
    · have f := HC.out k hlt
      have g := HS.out k
      go_wp2
      any_goals (go_ret; exact ⟨Says.mk _, rfl⟩)
      go_round
      case rel => exact ⟨k + 1, _, by omega, by go_num, rfl, by omega, by omega⟩
      case measure => simp [intOf]; omega
    · go_wp2
      go_ret
      exact ⟨Says.mk _, rfl⟩

theorem bytes5 (ac : Option Addr) (nc cc : Nat) (a : Option Addr) (n cap : Nat) (at' : Option Addr) (nt ct : Nat) (S : Nat → ByteArray) (l : Bool) (lsn cut : Int) (w : World) (hc : nc ≤ 9223372036854775807) (hn : n ≤ 9223372036854775807) (hv : SView w at' nt ct S) :
    Calls Try.prog 5 #[.slice ac nc cc, .slice a n cap, .slice at' nt ct, .bool l, .int .u64 lsn, .int .i64 cut] w fun e w' => Says e ∧ w' = w := by
  have m1 := hv.max
  have m2 := hv.le
  rcases hv.at' with h0 | ⟨b, off, rfl, _, f⟩
  · subst h0; exact bytes5_none ac nc cc a n cap at' ct l lsn cut w hc hn
  · exact bytes5_some ac nc cc a n cap b off nt ct S l lsn cut w hc hn (by omega) hv.bd f

set_option maxHeartbeats 1600000 in
theorem bytes11_none (ac : Option Addr) (nc cc : Nat) (a : Option Addr) (n cap : Nat) (at' : Option Addr) (ct : Nat) (l : Bool) (lo hi : Int) (w : World) (hc : nc ≤ 9223372036854775807) (hn : n ≤ 9223372036854775807) :
    Calls Try.prog 11 #[.slice ac nc cc, .slice a n cap, .slice at' 0 ct, .bool l, .int .u64 lo, .int .u64 hi] w fun e w' => Says e ∧ w' = w := by
  go_enter Try.func11, Try.ntmps11
  go_wp2
  any_goals (go_ret; exact ⟨Says.mk _, rfl⟩)
  refine wp_loop_rounds 1 ?_
  rw [rounds_succ]
  go_wp2
  go_ret
  exact ⟨Says.mk _, rfl⟩

set_option maxHeartbeats 1600000 in
theorem bytes11_some (ac : Option Addr) (nc cc : Nat) (a : Option Addr) (n cap : Nat) (b off nt ct : Nat) (S : Nat → ByteArray) (l : Bool) (lo hi : Int) (w : World) (hc : nc ≤ 9223372036854775807) (hn : n ≤ 9223372036854775807)
    (hnt : nt ≤ 9223372036854775807) (hs : ∀ i, (S i).size ≤ 9223372036854775807) (hcell : ∀ i, i < nt → w.cell? ⟨b, off + i, none⟩ = some (.string (S i))) :
    Calls Try.prog 11 #[.slice ac nc cc, .slice a n cap, .slice (some ⟨b, off, none⟩) nt ct, .bool l, .int .u64 lo, .int .u64 hi] w fun e w' => Says e ∧ w' = w := by
  have HC : Hid (∀ i, i < nt → w.cell? ⟨b, off + i, none⟩ = some (.string (S i))) := hcell
  have HS : Hid (∀ i, (S i).size ≤ 9223372036854775807) := hs
  clear hcell hs
  go_enter Try.func11, Try.ntmps11
  go_wp2
  any_goals (go_ret; exact ⟨Says.mk _, rfl⟩)
  go_loop [13, 14] (fun t i => ∃ (k : Nat) (z : Int), k ≤ nt ∧ i = .int .i64 k ∧ t = .int .i64 z ∧ 0 ≤ z ∧ z ≤ 1048576) (fun _ i => nt - (intOf i).toNat)
  case atStart => exact ⟨0, _, Nat.zero_le _, rfl, rfl, by omega, by omega⟩
  case round =>
    obtain ⟨k, z, hk, rfl, rfl, hz0, hz1⟩ := hrel
    by_cases hlt : k < nt
    · have f := HC.out k hlt
      have g := HS.out k
      go_wp2
      any_goals (go_ret; exact ⟨Says.mk _, rfl⟩)
      go_round
      case rel => exact ⟨k + 1, _, by omega, by go_num, rfl, by omega, by omega⟩
      case measure => simp [intOf]; omega
    · go_wp2
      go_ret
      exact ⟨Says.mk _, rfl⟩

theorem bytes11 (ac : Option Addr) (nc cc : Nat) (a : Option Addr) (n cap : Nat) (at' : Option Addr) (nt ct : Nat) (S : Nat → ByteArray) (l : Bool) (lo hi : Int) (w : World) (hc : nc ≤ 9223372036854775807) (hn : n ≤ 9223372036854775807) (hv : SView w at' nt ct S) :
    Calls Try.prog 11 #[.slice ac nc cc, .slice a n cap, .slice at' nt ct, .bool l, .int .u64 lo, .int .u64 hi] w fun e w' => Says e ∧ w' = w := by
  have m1 := hv.max
  have m2 := hv.le
  rcases hv.at' with h0 | ⟨b, off, rfl, _, f⟩
  · subst h0; exact bytes11_none ac nc cc a n cap at' ct l lo hi w hc hn
  · exact bytes11_some ac nc cc a n cap b off nt ct S l lo hi w hc hn (by omega) hv.bd f

end Go.Proofs.Qxb6630184a
