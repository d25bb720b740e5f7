/-
  OUR OWN TEXT (by an AI prover). A slice of bytes; the walks of zzNoLetterNibble (8), zzHexText (7), zzReverse (11), and of the guards (5, 9).
-/
import Derived.Test.Qxb6630254aSmall
namespace Go.Proofs.Qxb6630254a
open Go.RowKit

theorem Try.info5 : (Try.prog.info? 5).map (fun i => (i.zero, i.size, i.bytes)) = some (some (.int .u8 0), 1, 1) := by kernel_rfl

/-- The slice of bytes (a, n, cap) reads, in w, the numbers Z 0 .. Z (n-1). -/
structure BView (w : World) (a : Option Addr) (n cap : Nat) (Z : Nat → Int) : Prop where
  le : n ≤ cap
  max : cap ≤ 9223372036854775807
  at' : n = 0 ∨ ∃ b off, a = some ⟨b, off, none⟩ ∧ b < w.heap.size ∧ ∀ i, i < n → w.cell? ⟨b, off + i, none⟩ = some (.int .u8 (Z i))
  bd : ∀ i, 0 ≤ Z i ∧ Z i ≤ 255

theorem BView.below {w w' : World} {a : Option Addr} {n cap : Nat} {Z : Nat → Int} (h : BView w a n cap Z) (hb0 : Below w.heap.size w w') : BView w' a n cap Z := by
  refine ⟨h.le, h.max, ?_, h.bd⟩
  rcases h.at' with h0 | ⟨b, off, rfl, hlt, hc⟩
  · exact .inl h0
  · refine .inr ⟨b, off, rfl, Nat.lt_of_lt_of_le hlt hb0.size, fun i hi => ?_⟩
    rw [hb0.cell (p := ⟨b, off + i, none⟩) hlt]
    exact hc i hi

theorem BView.open' {w : World} {a : Option Addr} {n cap : Nat} {Z : Nat → Int} (h : BView w a n cap Z) : Hid (0 < n → ∃ b off, a = some ⟨b, off, none⟩ ∧ b < w.heap.size ∧ ∀ i, i < n → w.cell? ⟨b, off + i, none⟩ = some (.int .u8 (Z i))) := by
  intro h0
  rcases h.at' with h1 | h1
  · omega
  · exact h1

set_option maxRecDepth 10000 in
set_option maxHeartbeats 800000 in
theorem nol_any (a : Option Addr) (n cap : Nat) (Z : Nat → Int) (w : World) (hv : BView w a n cap Z) : Calls Try.prog 8 #[.slice a n cap] w fun e w' => e = .returned (.bool (noL Z n)) ∧ w' = w := by
  have V := hv.open'
  have BD : Hid (∀ i, 0 ≤ Z i ∧ Z i ≤ 255) := hv.bd
  have m1 := hv.max
  have m2 := hv.le
  clear hv
  go_enter Try.func8, Try.ntmps8
  go_wp2
  go_loop [3] (fun i => ∃ k : Nat, k ≤ n ∧ i = .int .i64 k ∧ Hid (∀ j, j < k → okN (Z j) = true)) (fun i => n - (intOf i).toNat)
  case atStart => exact ⟨0, Nat.zero_le _, rfl, fun j hj => by omega⟩
  case round =>
    obtain ⟨k, hk, rfl, hpre⟩ := hrel
    by_cases hlt : k < n
    · obtain ⟨b, off, rfl, _, hc⟩ := V.out (by omega)
      have f := hc k hlt
      obtain ⟨g0, g1⟩ := BD.out k
      clear hc
      by_cases h1 : Z k / 16 < 10
      · by_cases h2 : Z k % 16 < 10
        · go_wp2
          go_round
          case rel => exact ⟨k + 1, by omega, by go_num, fun j hj => by
            by_cases e : j = k
            · subst e; simp [okN, h1, h2]
            · exact hpre.out j (by omega)⟩
          case measure => simp [intOf]; omega
        · have HF : noL Z n = false := by
            rw [← Bool.not_eq_true, noL_iff]
            intro H
            have := H k hlt
            simp [okN] at this
            omega
          go_wp2
          go_ret
          exact ⟨by first | rfl | (rw [HF]; rfl), rfl⟩
      · have HF : noL Z n = false := by
          rw [← Bool.not_eq_true, noL_iff]
          intro H
          have := H k hlt
          simp [okN] at this
          omega
        go_wp2
        go_ret
        exact ⟨by first | rfl | (rw [HF]; rfl), rfl⟩
    · have HT : noL Z n = true := by
        rw [noL_iff]
        intro i hi
        exact hpre.out i (by omega)
      go_wp2
      go_ret
      exact ⟨by first | rfl | (rw [HT]; rfl), rfl⟩

theorem set2 {xs : List Value} {f : Nat → Value} {k : Nat} {v1 v2 : Value} (hl : 2 * k + 1 < xs.length) (h1 : v1 = f (2 * k)) (h2 : v2 = f (2 * k + 1)) (hp : ∀ j, j < 2 * k → xs[j]? = some (f j)) :
    ∀ j, j < 2 * (k + 1) → ((xs.set (2 * k) v1).set (2 * k + 1) v2)[j]? = some (f j) := by
  intro j hj
  subst h1
  subst h2
  by_cases e2 : j = 2 * k + 1
  · subst e2
    rw [List.getElem?_set_self (by simpa using hl)]
  · rw [List.getElem?_set_ne (by omega)]
    by_cases e1 : j = 2 * k
    · subst e1
      rw [List.getElem?_set_self (by omega)]
    · rw [List.getElem?_set_ne (by omega)]
      exact hp j (by omega)

set_option maxRecDepth 10000 in
set_option maxHeartbeats 800000 in
theorem hex_any (a : Option Addr) (n cap : Nat) (Z : Nat → Int) (u : Bool) (w : World) (hv : BView w a n cap Z) (hn : n ≤ 262144) :
    Calls Try.prog 7 #[.slice a n cap, .bool u] w fun e w' => e = .returned (.string ⟨(hexT Z u n).toArray⟩) ∧ Below w.heap.size w w' := by
  have V := hv.open'
  have BD : Hid (∀ i, 0 ≤ Z i ∧ Z i ≤ 255) := hv.bd
  have hnI : (n : Int) ≤ 262144 := by omega
  have HN : Hid (n ≤ 262144) := hn
  clear hv hn
  obtain ⟨i5, hi5, hz5, hs5, hby5⟩ := info_parts Try.info5
  go_enter Try.func7, Try.ntmps7
  go_wp2_with (at_make; refine wpList_make_full _ rfl _ _ 22 rfl w.heap.size 5 i5 (.int .u8 0) 1 Try.underlying22 hi5 hz5 hs5 _ _ _ _ (2 * n) rfl rfl (by omega) (by omega) (by rw [hby5]; omega) (by unfold maxLen; omega) (Nat.le_refl _) ?_; intro w1 hown1 hgrow1)
  have hb1 : Below w.heap.size w w1 := (Below.refl _ _).grown hgrow1 (Nat.le_refl _) (fun k hk => by cases hk)
  go_loopw [6] (fun i wr => ∃ (k : Nat) (xs : List Value), k ≤ n ∧ i = .int .i64 k ∧ wr.ownsRow w.heap.size 5 1 (.slice (some ⟨w.heap.size, 0, none⟩) (2 * n) (2 * n)) (2 * n) xs ∧ Hid (∀ j, j < 2 * k → xs[j]? = some (.int .u8 (hxb Z u j))) ∧ Below w.heap.size w wr) (fun i _ => n - (intOf i).toNat)
  case atStart => exact ⟨0, _, Nat.zero_le _, rfl, hown1, fun j hj => by omega, hb1⟩
  case round =>
    clear hown1 hgrow1 hb1
    obtain ⟨k, xs, hk, rfl, hown, hpre, hbel⟩ := hrel
    have hxl : xs.length = 2 * n := by have := hown.1; omega
    have HXL : Hid (xs.length = 2 * n) := hxl
    clear hxl
    by_cases hlt : k < n
    · obtain ⟨b, off, rfl, hb, hc⟩ := V.out (by omega)
      have f := (hbel.cell (p := ⟨b, off + k, none⟩) hb).trans (hc k hlt)
      obtain ⟨g0, g1⟩ := BD.out k
      clear hc
      have c1 : wr.cell? ⟨w.heap.size, 2 * k, none⟩ = some (xs[2 * k]'(by have := HXL.out; omega)) := by
        rw [hown.cellAt (2 * k) (by omega)]; exact List.getElem?_eq_getElem _
      have c2 : wr.cell? ⟨w.heap.size, 2 * k + 1, none⟩ = some (xs[2 * k + 1]'(by have := HXL.out; omega)) := by
        rw [hown.cellAt (2 * k + 1) (by omega)]; exact List.getElem?_eq_getElem _
      obtain ⟨o1, ho1⟩ : ∃ v, v = (xs[2 * k]'(by have := HXL.out; omega)) := ⟨_, rfl⟩
      obtain ⟨o2, ho2⟩ : ∃ v, v = (xs[2 * k + 1]'(by have := HXL.out; omega)) := ⟨_, rfl⟩
      rw [← ho1] at c1
      rw [← ho2] at c2
      clear ho1 ho2
      have z1 := hown.frozenAt (2 * k)
      have z2 := hown.frozenAt (2 * k + 1)
      have hne : b ≠ w.heap.size := by omega
      go_wp2_with (go_at_call 12; refine (nib_any _ _ _ (by omega) (by omega)).mono ?_; rintro e w' ⟨rfl, hw⟩; obtain rfl := hw.symm)
      go_roundw
      case rel =>
        refine ⟨k + 1, _, by omega, by go_num, ((hown.stored (2 * k) _).1.stored (2 * k + 1) _).1, ?_, (hbel.setCell (Nat.le_refl _) _).setCell (Nat.le_refl _) _⟩
        exact set2 (f := fun j => .int .u8 (hxb Z u j)) (by have := HXL.out; omega) (by rw [hxb_even]) (by rw [hxb_odd]) hpre.out
      case measure => simp [intOf]; omega
    · have hkn : k = n := by omega
      have hconv : (convert 22 9 (.slice (some ⟨w.heap.size, 0, none⟩) (2 * n) (2 * n))).run Try.prog wr = .ok (.string ⟨(hexT Z u n).toArray⟩) wr := by
        have h := run_convert_bytes_back (P := Try.prog) wr 22 9 5 ⟨w.heap.size, 0, none⟩ (2 * n) (hexT Z u n) Try.underlying22 Try.underlying5 Try.underlying9 (by
          intro j hj
          rw [hexT_at BD.out, Addr.add_lit, Nat.zero_add]
          rw [hexT_length] at hj
          rw [hown.cellAt j (by omega)]
          exact hpre.out j (by omega))
        rw [hexT_length] at h
        exact h
      clear hkn
      go_wp2
      go_ret
      exact ⟨rfl, hbel⟩

end Go.Proofs.Qxb6630254a
