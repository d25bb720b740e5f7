/-
  OUR OWN TEXT (by an AI prover). The walks of severity (13), Worse (10), zzInstance (7), Instance.Status (9).
-/
import Derived.Test.Qxb6630208aRows
import Derived.Test.Qxb6630208aPlain
import Derived.WalkLawsBesides
import Derived.WalkSmall
namespace Go.Proofs.Qxb6630208a
open Go.RowKit

theorem sev_any (s : ByteArray) (w : World) : Calls Try.prog 13 #[.string s] w fun e w' => e = .returned (.int .i64 (sev s)) ∧ w' = w := by
  by_cases h : isP s = true
  · have e : sev s = 0 := by simp [sev, h]
    rw [e]
    clear e
    unfold isP at h
    go_enter Try.func13, Try.ntmps13
    go_wp2
    go_ret
    exact ⟨rfl, rfl⟩
  · by_cases h' : isW s = true
    · have e : sev s = 1 := by simp [sev, h, h']
      rw [e]
      clear e
      have h1 : (s.toList == [112, 97, 115, 115, 105, 110, 103]) = false := by simpa [isP] using h
      clear h
      unfold isW at h'
      go_enter Try.func13, Try.ntmps13
      go_wp2
      go_ret
      exact ⟨rfl, rfl⟩
    · have e : sev s = 2 := by simp [sev, h, h']
      rw [e]
      clear e
      have h1 : (s.toList == [112, 97, 115, 115, 105, 110, 103]) = false := by simpa [isP] using h
      have h2 : (s.toList == [119, 97, 114, 110, 105, 110, 103]) = false := by simpa [isW] using h'
      clear h h'
      go_enter Try.func13, Try.ntmps13
      go_wp2
      go_ret
      exact ⟨rfl, rfl⟩

/-- Is s worse than t? -/
def wrs (s t : ByteArray) : Bool := decide (sev t < sev s)

theorem worse_any (s t : ByteArray) (w : World) : Calls Try.prog 10 #[.string s, .string t] w fun e w' => e = .returned (.bool (wrs s t)) ∧ w' = w := by
  go_enter Try.func10, Try.ntmps10
  go_wp2_with (go_at_call 13; refine (sev_any _ _).mono ?_; rintro e w' ⟨rfl, rfl⟩)
  go_ret
  exact ⟨rfl, rfl⟩

theorem inst_any (s1 s2 s3 : ByteArray) (a0 : Option Addr) (n0 c0 : Nat) (p : Int) (a1 : Option Addr) (n1 c1 : Nat) (w : World) :
    Calls Try.prog 7 #[.string s1, .string s2, .string s3, .slice a0 n0 c0, .int .u16 p, .slice a1 n1 c1] w
      fun e w' => e = .returned (.agg #[.string s1, .int .u64 0, .int .u64 0, .pointer none, .string s2, .string s3, .slice a0 n0 c0, .int .u64 0, .int .u64 0, .pointer none, .int .u16 p, .slice a1 n1 c1]) ∧ Below w.heap.size w w' := by
  go_enter Try.func7, Try.ntmps7
  go_wp2
  exact bodyPost_ret (v := .agg #[.string s1, .int .u64 0, .int .u64 0, .pointer none, .string s2, .string s3, .slice a0 n0 c0, .int .u64 0, .int .u64 0, .pointer none, .int .u16 p, .slice a1 n1 c1]) (by simp [results, Try.results7, go_sem]) rfl ⟨rfl, (Below.refl _ _).alloc (Nat.le_refl _) _⟩

/-- The slice of checks (a, n, cap) bears, in w, the statuses T 0 .. T (n-1). -/
structure CView (w : World) (a : Option Addr) (n cap : Nat) (T : Nat → ByteArray) : Prop where
  le : n ≤ cap
  max : cap ≤ 131072
  at' : n = 0 ∨ ∃ b, a = some ⟨b, 0, none⟩ ∧ b < w.heap.size ∧ ∀ i, i < n → ∃ x y z : ByteArray, w.cell? ⟨b, i * 4, none⟩ = some (.string x) ∧ w.cell? ⟨b, i * 4 + 1, none⟩ = some (.string y) ∧
    w.cell? ⟨b, i * 4 + 2, none⟩ = some (.string (T i)) ∧ w.cell? ⟨b, i * 4 + 3, none⟩ = some (.string z)

theorem CView.below {w w' : World} {a : Option Addr} {n cap : Nat} {T : Nat → ByteArray} (h : CView w a n cap T) (hb : Below w.heap.size w w') : CView w' a n cap T := by
  refine ⟨h.le, h.max, ?_⟩
  rcases h.at' with h0 | ⟨b, rfl, hlt, hc⟩
  · exact .inl h0
  · refine .inr ⟨b, rfl, Nat.lt_of_lt_of_le hlt hb.size, fun i hi => ?_⟩
    obtain ⟨x, y, z, h1, h2, h3, h4⟩ := hc i hi
    exact ⟨x, y, z, (hb.cell (p := ⟨b, i * 4, none⟩) hlt).trans h1, (hb.cell (p := ⟨b, i * 4 + 1, none⟩) hlt).trans h2, (hb.cell (p := ⟨b, i * 4 + 2, none⟩) hlt).trans h3, (hb.cell (p := ⟨b, i * 4 + 3, none⟩) hlt).trans h4⟩

set_option maxHeartbeats 800000 in
theorem status_some (s1 s2 s3 : ByteArray) (a0 : Option Addr) (n0 c0 : Nat) (p : Int) (b n c1 : Nat) (T : Nat → ByteArray) (w : World) (hn : n ≤ 131072) (hb : b < w.heap.size)
    (hc : ∀ i, i < n → ∃ x y z : ByteArray, w.cell? ⟨b, i * 4, none⟩ = some (.string x) ∧ w.cell? ⟨b, i * 4 + 1, none⟩ = some (.string y) ∧ w.cell? ⟨b, i * 4 + 2, none⟩ = some (.string (T i)) ∧ w.cell? ⟨b, i * 4 + 3, none⟩ = some (.string z)) :
    Calls Try.prog 9 #[.agg #[.string s1, .int .u64 0, .int .u64 0, .pointer none, .string s2, .string s3, .slice a0 n0 c0, .int .u64 0, .int .u64 0, .pointer none, .int .u16 p, .slice (some ⟨b, 0, none⟩) n c1]] w
      fun e w' => e = .returned (.string (worst T n)) ∧ Below w.heap.size w w' := by
  have HC : Hid (∀ i, i < n → ∃ x y z : ByteArray, w.cell? ⟨b, i * 4, none⟩ = some (.string x) ∧ w.cell? ⟨b, i * 4 + 1, none⟩ = some (.string y) ∧ w.cell? ⟨b, i * 4 + 2, none⟩ = some (.string (T i)) ∧ w.cell? ⟨b, i * 4 + 3, none⟩ = some (.string z)) := hc
  clear hc
  go_enter Try.func9, Try.ntmps9
  go_wp2
  go_loopw [3, 9] (fun s i wr => ∃ k : Nat, k ≤ n ∧ i = .int .i64 k ∧ s = .string (worst T k) ∧ Below w.heap.size w wr) (fun _ i _ => n - (intOf i).toNat)
  case atStart => exact ⟨0, Nat.zero_le _, rfl, rfl, (Below.refl _ _).alloc (Nat.le_refl _) _⟩
  case round =>
    obtain ⟨k, hk, rfl, rfl, hbel⟩ := hrel
    by_cases hlt : k < n
    · obtain ⟨x, y, z, h1, h2, h3, h4⟩ := HC.out k hlt
      have f1 := (hbel.cell (p := ⟨b, k * 4, none⟩) hb).trans h1
      have f2 := (hbel.cell (p := ⟨b, k * 4 + 1, none⟩) hb).trans h2
      have f3 := (hbel.cell (p := ⟨b, k * 4 + 2, none⟩) hb).trans h3
      have f4 := (hbel.cell (p := ⟨b, k * 4 + 3, none⟩) hb).trans h4
      clear h1 h2 h3 h4
      go_wp2_with fail
      refine (worse_any _ _ _).mono ?_
      rintro e w' ⟨rfl, hw⟩
      obtain rfl := hw.symm
      cases hw' : wrs (T k) (worst T k)
      · have e : worst T (k + 1) = worst T k := by
          show (if _ then _ else _) = _
          rw [if_neg (by simpa [wrs] using hw')]
        have E : Hid (worst T (k + 1) = worst T k) := e
        clear e
        go_wp2
        go_roundw
        case rel => exact ⟨k + 1, by omega, by go_num, by rw [E.out], hbel.alloc hbel.size _⟩
        case measure => simp [intOf]; omega
      · have e : worst T (k + 1) = T k := by
          show (if _ then _ else _) = _
          rw [if_pos (by simpa [wrs] using hw')]
        have E : Hid (worst T (k + 1) = T k) := e
        clear e
        go_wp2
        go_roundw
        case rel => exact ⟨k + 1, by omega, by go_num, by rw [E.out], hbel.alloc hbel.size _⟩
        case measure => simp [intOf]; omega
    · obtain rfl : k = n := by omega
      go_wp2
      go_ret
      exact ⟨rfl, hbel⟩

set_option maxHeartbeats 800000 in
theorem status_none (s1 s2 s3 : ByteArray) (a0 : Option Addr) (n0 c0 : Nat) (p : Int) (a1 : Option Addr) (c1 : Nat) (T : Nat → ByteArray) (w : World) :
    Calls Try.prog 9 #[.agg #[.string s1, .int .u64 0, .int .u64 0, .pointer none, .string s2, .string s3, .slice a0 n0 c0, .int .u64 0, .int .u64 0, .pointer none, .int .u16 p, .slice a1 0 c1]] w
      fun e w' => e = .returned (.string (worst T 0)) ∧ Below w.heap.size w w' := by
  go_enter Try.func9, Try.ntmps9
  go_wp2
  refine wp_loop_rounds 1 ?_
  rw [rounds_succ]
  go_wp2
  go_ret
  exact ⟨rfl, (Below.refl _ _).alloc (Nat.le_refl _) _⟩

/-- Status answers the worst status of the checks. -/
theorem status_any (s1 s2 s3 : ByteArray) (a0 : Option Addr) (n0 c0 : Nat) (p : Int) (a1 : Option Addr) (n c1 : Nat) (T : Nat → ByteArray) (w : World) (hv : CView w a1 n c1 T) :
    Calls Try.prog 9 #[.agg #[.string s1, .int .u64 0, .int .u64 0, .pointer none, .string s2, .string s3, .slice a0 n0 c0, .int .u64 0, .int .u64 0, .pointer none, .int .u16 p, .slice a1 n c1]] w
      fun e w' => e = .returned (.string (worst T n)) ∧ Below w.heap.size w w' := by
  have m1 := hv.max
  have m2 := hv.le
  rcases hv.at' with h0 | ⟨b, rfl, hb, hc⟩
  · subst h0; exact status_none s1 s2 s3 a0 n0 c0 p a1 c1 T w
  · exact status_some s1 s2 s3 a0 n0 c0 p b n c1 T w (by omega) hb hc

end Go.Proofs.Qxb6630208a
