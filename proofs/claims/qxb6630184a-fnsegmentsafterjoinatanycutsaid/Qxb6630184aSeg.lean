/-
  OUR OWN TEXT (by an AI prover). The walks of segmentsAfter (12) and ZZfilesSegmentsAfter (7).
-/
import Derived.Test.Qxb6630184aRows
import Derived.Test.Qxb6630184aViews
namespace Go.Proofs.Qxb6630184a
open Go.RowKit

set_option maxHeartbeats 800000 in
theorem seg_empty (ac : Option Addr) (nc cc : Nat) (a : Option Addr) (cap : Nat) (at' : Option Addr) (nt ct : Nat) (l : Bool) (lsn : Int) (w : World) :
    Calls Try.prog 12 #[.agg #[.slice ac nc cc, .slice a 0 cap, .slice at' nt ct, .bool l], .int .u64 lsn] w fun e w' => e = .returned (.slice none 0 0) ∧ Below w.heap.size w w' := by
  go_enter Try.func12, Try.ntmps12
  go_wp2
  refine wp_loop_rounds 1 ?_
  rw [rounds_succ]
  go_wp2
  go_ret
  exact ⟨rfl, (Below.refl _ _).alloc (Nat.le_refl _) _⟩

set_option maxHeartbeats 800000 in
theorem seg_some (ac : Option Addr) (nc cc : Nat) (b off n cap : Nat) (Z : Nat → Int) (at' : Option Addr) (nt ct : Nat) (l : Bool) (lsn nx : Int) (w : World)
    (hn : 0 < n) (hle : n ≤ cap) (hmax : cap ≤ 9223372036854775807) (hb : b < w.heap.size) (hc : ∀ i, i < n → w.cell? ⟨b, off + i, none⟩ = some (.int .u64 (Z i)))
    (hl0 : 0 ≤ lsn) (hl1 : lsn ≤ 18446744073709551614) (hnx : nx = lsn + 1) :
    Calls Try.prog 12 #[.agg #[.slice ac nc cc, .slice (some ⟨b, off, none⟩) n cap, .slice at' nt ct, .bool l], .int .u64 lsn] w
      fun e w' => ∃ k, Hit Z n nx k ∧ e = .returned (.slice (some ⟨b, off + k, none⟩) (n - k) (cap - k)) ∧ Below w.heap.size w w' := by
  subst hnx
  go_enter Try.func12, Try.ntmps12
  go_wp2
  have hcw : ∀ i, i < n → (w.alloc (.cells #[.slice ac nc cc, .slice (some ⟨b, off, none⟩) n cap, .slice at' nt ct, .bool l] 32)).cell? ⟨b, off + i, none⟩ = some (.int .u64 (Z i)) := by
    intro i hi
    rw [((Below.refl _ _).alloc (Nat.le_refl _) _).cell (p := ⟨b, off + i, none⟩) hb]
    exact hc i hi
  clear hc
  go_loop [9] (fun i => ∃ k : Nat, k < n ∧ i = .int .i64 k ∧ Hid (∀ j, 1 ≤ j → j ≤ k → Z j ≤ lsn + 1)) (fun i => n - (intOf i).toNat)
  case atStart => exact ⟨0, hn, rfl, fun j h1 h2 => by omega⟩
  case round =>
    obtain ⟨k, hk, rfl, hz⟩ := hrel
    by_cases h1 : k + 1 = n
    · have h1' : ((k : Int) + 1 == (n : Int)) = true := by simp; omega
      go_wp2
      go_ret
      exact ⟨k, ⟨hk, hz.out, .inl h1⟩, rfl, (Below.refl _ _).alloc (Nat.le_refl _) _⟩
    · have h1' : ((k : Int) + 1 == (n : Int)) = false := by simp; omega
      have hc1 := hcw (k + 1) (by omega)
      have hk1 : k + 1 < n := by omega
      by_cases h2 : lsn + 1 < Z (k + 1)
      · go_wp2
        go_ret
        exact ⟨k, ⟨hk, hz.out, .inr h2⟩, rfl, (Below.refl _ _).alloc (Nat.le_refl _) _⟩
      · go_wp2
        go_round
        case rel => exact ⟨k + 1, by omega, by go_num, fun j j1 j2 => by
          by_cases e : j = k + 1
          · subst e; omega
          · exact hz.out j j1 (by omega)⟩
        case measure => simp [intOf]; omega

set_option maxHeartbeats 800000 in
theorem seg_top (ac : Option Addr) (nc cc : Nat) (b off n cap : Nat) (Z : Nat → Int) (at' : Option Addr) (nt ct : Nat) (l : Bool) (w : World)
    (hn : 0 < n) (hle : n ≤ cap) (hmax : cap ≤ 9223372036854775807) (hb : b < w.heap.size) (hc : ∀ i, i < n → w.cell? ⟨b, off + i, none⟩ = some (.int .u64 (Z i))) :
    Calls Try.prog 12 #[.agg #[.slice ac nc cc, .slice (some ⟨b, off, none⟩) n cap, .slice at' nt ct, .bool l], (.int .u64 18446744073709551615)] w
      fun e w' => ∃ k, Hit Z n 0 k ∧ e = .returned (.slice (some ⟨b, off + k, none⟩) (n - k) (cap - k)) ∧ Below w.heap.size w w' := by
  have hwr : IntKind.u64.wrap 18446744073709551616 = 0 := by decide +kernel
  go_enter Try.func12, Try.ntmps12
  go_wp2
  have hcw : ∀ i, i < n → (w.alloc (.cells #[.slice ac nc cc, .slice (some ⟨b, off, none⟩) n cap, .slice at' nt ct, .bool l] 32)).cell? ⟨b, off + i, none⟩ = some (.int .u64 (Z i)) := by
    intro i hi
    rw [((Below.refl _ _).alloc (Nat.le_refl _) _).cell (p := ⟨b, off + i, none⟩) hb]
    exact hc i hi
  clear hc
  go_loop [9] (fun i => ∃ k : Nat, k < n ∧ i = .int .i64 k ∧ Hid (∀ j, 1 ≤ j → j ≤ k → Z j ≤ 0)) (fun i => n - (intOf i).toNat)
  case atStart => exact ⟨0, hn, rfl, fun j h1 h2 => by omega⟩
  case round =>
    obtain ⟨k, hk, rfl, hz⟩ := hrel
    by_cases h1 : k + 1 = n
    · have h1' : ((k : Int) + 1 == (n : Int)) = true := by simp; omega
      go_wp2
      go_ret
      exact ⟨k, ⟨hk, hz.out, .inl h1⟩, rfl, (Below.refl _ _).alloc (Nat.le_refl _) _⟩
    · have h1' : ((k : Int) + 1 == (n : Int)) = false := by simp; omega
      have hc1 := hcw (k + 1) (by omega)
      have hk1 : k + 1 < n := by omega
      by_cases h2 : 0 < Z (k + 1)
      · go_wp2
        go_ret
        exact ⟨k, ⟨hk, hz.out, .inr h2⟩, rfl, (Below.refl _ _).alloc (Nat.le_refl _) _⟩
      · go_wp2
        go_round
        case rel => exact ⟨k + 1, by omega, by go_num, fun j j1 j2 => by
          by_cases e : j = k + 1
          · subst e; omega
          · exact hz.out j j1 (by omega)⟩
        case measure => simp [intOf]; omega

/-- lsn + 1, as uint64 reckons it. -/
def nxt (lsn : Int) : Int := if lsn = 18446744073709551615 then 0 else lsn + 1

theorem nxt_top : nxt 18446744073709551615 = 0 := by simp [nxt]
theorem nxt_of {lsn : Int} (h : lsn ≤ 18446744073709551614) : nxt lsn = lsn + 1 := by
  unfold nxt; rw [if_neg (by omega)]

theorem seg_any (ac : Option Addr) (nc cc : Nat) (a : Option Addr) (n cap : Nat) (Z : Nat → Int) (at' : Option Addr) (nt ct : Nat) (l : Bool) (lsn : Int) (w : World)
    (hv : View w a n cap Z) (hl0 : 0 ≤ lsn) (hl1 : lsn ≤ 18446744073709551615) :
    Calls Try.prog 12 #[.agg #[.slice ac nc cc, .slice a n cap, .slice at' nt ct, .bool l], .int .u64 lsn] w
      fun e w' => ∃ a' cap' k, e = .returned (.slice a' (n - k) cap') ∧ (0 < n → Hit Z n (nxt lsn) k) ∧ View w' a' (n - k) cap' (fun i => Z (k + i)) ∧ Below w.heap.size w w' := by
  rcases hv.at' with h0 | ⟨b, off, rfl, hb, hc⟩
  · subst h0
    refine (seg_empty ac nc cc a cap at' nt ct l lsn w).mono fun e w' ⟨he, hbel⟩ => ?_
    exact ⟨none, 0, 0, he, fun h => by omega, ⟨Nat.le_refl _, by omega, .inl rfl, fun i => hv.bd _⟩, hbel⟩
  · by_cases hn : 0 < n
    · have fin : ∀ (e : Ending) (w' : World) (k : Nat), Hit Z n (nxt lsn) k → e = .returned (.slice (some ⟨b, off + k, none⟩) (n - k) (cap - k)) → Below w.heap.size w w' →
          ∃ a' cap' k, e = .returned (.slice a' (n - k) cap') ∧ (0 < n → Hit Z n (nxt lsn) k) ∧ View w' a' (n - k) cap' (fun i => Z (k + i)) ∧ Below w.heap.size w w' := by
        intro e w' k hit he hbel
        refine ⟨_, _, k, he, fun _ => hit, ⟨by have := hv.le; omega, by have := hv.max; omega, .inr ⟨b, off + k, rfl, Nat.lt_of_lt_of_le hb hbel.size, fun i hi => ?_⟩, fun i => hv.bd _⟩, hbel⟩
        rw [hbel.cell (p := ⟨b, off + k + i, none⟩) hb, Nat.add_assoc]
        exact hc (k + i) (by omega)
      by_cases ht : lsn = 18446744073709551615
      · subst ht
        rw [nxt_top] at fin
        refine (seg_top ac nc cc b off n cap Z at' nt ct l w hn hv.le hv.max hb hc).mono fun e w' ⟨k, hit, he, hbel⟩ => ?_
        rw [nxt_top]
        exact fin e w' k hit he hbel
      · have e1 := nxt_of (lsn := lsn) (by omega)
        rw [e1] at fin
        refine (seg_some ac nc cc b off n cap Z at' nt ct l lsn (lsn + 1) w hn hv.le hv.max hb hc hl0 (by omega) rfl).mono fun e w' ⟨k, hit, he, hbel⟩ => ?_
        rw [e1]
        exact fin e w' k hit he hbel
    · obtain rfl : n = 0 := by omega
      refine (seg_empty ac nc cc _ cap at' nt ct l lsn w).mono fun e w' ⟨he, hbel⟩ => ?_
      exact ⟨none, 0, 0, he, fun h => by omega, ⟨Nat.le_refl _, by omega, .inl rfl, fun i => hv.bd _⟩, hbel⟩

/-- ZZfilesSegmentsAfter: the answer is the list from k on, k where the search stops. -/
theorem segs (ac : Option Addr) (nc cc : Nat) (a : Option Addr) (n cap : Nat) (Z : Nat → Int) (at' : Option Addr) (nt ct : Nat) (l : Bool) (lsn : Int) (w : World)
    (hv : View w a n cap Z) (hl0 : 0 ≤ lsn) (hl1 : lsn ≤ 18446744073709551615) :
    Calls Try.prog 7 #[.slice ac nc cc, .slice a n cap, .slice at' nt ct, .bool l, .int .u64 lsn] w
      fun e w' => ∃ a' cap' k, e = .returned (.slice a' (n - k) cap') ∧ (0 < n → Hit Z n (nxt lsn) k) ∧ View w' a' (n - k) cap' (fun i => Z (k + i)) ∧ Below w.heap.size w w' := by
  go_enter Try.func7, Try.ntmps7
  go_wp2_with (go_at_call 12; refine (seg_any _ _ _ _ _ _ Z _ _ _ _ _ _ hv hl0 hl1).mono ?_; rintro e w' ⟨a', cap', k, rfl, h2, h3, h4⟩)
  go_ret
  exact ⟨a', cap', k, rfl, h2, h3, h4⟩

/-- The same of a list that is not empty: the answer's address, its length m, the place k where it begins. -/
theorem segsP (ac : Option Addr) (nc cc : Nat) (a : Option Addr) (n cap : Nat) (Z : Nat → Int) (at' : Option Addr) (nt ct : Nat) (l : Bool) (lsn : Int) (w : World)
    (hv : View w a n cap Z) (hn : 0 < n) (hl0 : 0 ≤ lsn) (hl1 : lsn ≤ 18446744073709551615) :
    Calls Try.prog 7 #[.slice ac nc cc, .slice a n cap, .slice at' nt ct, .bool l, .int .u64 lsn] w
      fun e w' => ∃ b o m cap' k, e = .returned (.slice (some ⟨b, o, none⟩) m cap') ∧ m + k = n ∧ Hit Z n (nxt lsn) k ∧ View w' (some ⟨b, o, none⟩) m cap' (fun i => Z (k + i)) ∧ Below w.heap.size w w' := by
  refine (segs ac nc cc a n cap Z at' nt ct l lsn w hv hl0 hl1).mono fun e w' ⟨a', cap', k, he, hit, hv', hb⟩ => ?_
  have hk := (hit hn).1
  rcases hv'.at' with h0 | ⟨b, o, rfl, _, _⟩
  · omega
  · exact ⟨b, o, n - k, cap', k, he, by omega, hit hn, hv', hb⟩

/-- The same of an empty list: the answer is empty. -/
theorem segs0 (ac : Option Addr) (nc cc : Nat) (a : Option Addr) (cap : Nat) (at' : Option Addr) (nt ct : Nat) (l : Bool) (lsn : Int) (w : World)
    (hm : cap ≤ 9223372036854775807) (hl0 : 0 ≤ lsn) (hl1 : lsn ≤ 18446744073709551615) :
    Calls Try.prog 7 #[.slice ac nc cc, .slice a 0 cap, .slice at' nt ct, .bool l, .int .u64 lsn] w
      fun e w' => ∃ a' cap', e = .returned (.slice a' 0 cap') ∧ cap' ≤ 9223372036854775807 ∧ Below w.heap.size w w' := by
  refine (segs ac nc cc a 0 cap (fun _ => 0) at' nt ct l lsn w ⟨Nat.zero_le _, hm, .inl rfl, fun _ => by omega⟩ hl0 hl1).mono fun e w' ⟨a', cap', k, he, _, hv', hb⟩ => ?_
  rw [Nat.zero_sub] at he
  exact ⟨a', cap', he, hv'.max, hb⟩

end Go.Proofs.Qxb6630184a
