/-
  OUR OWN TEXT (by an AI prover). A slice of uint64 as a function of the index; where the search of segmentsAfter stops; plain laws. No Go function is walked here.
-/
import Derived.WalkKit
import Derived.WalkSpells
namespace Go.Proofs.Qxb6630184a
open Go.RowKit

/-- The slice (a, n, cap) reads, in w, the numbers Z 0 .. Z (n-1). -/
structure View (w : World) (a : Option Addr) (n cap : Nat) (Z : Nat → Int) : Prop where
  le : n ≤ cap
  max : cap ≤ 9223372036854775807
  at' : n = 0 ∨ ∃ b off, a = some ⟨b, off, none⟩ ∧ b < w.heap.size ∧ ∀ i, i < n → w.cell? ⟨b, off + i, none⟩ = some (.int .u64 (Z i))
  bd : ∀ i, 0 ≤ Z i ∧ Z i ≤ 18446744073709551615

theorem View.below {w w' : World} {a : Option Addr} {n cap : Nat} {Z : Nat → Int} (h : View w a n cap Z) (hb : Below w.heap.size w w') : View w' a n cap Z := by
  refine ⟨h.le, h.max, ?_, h.bd⟩
  rcases h.at' with h0 | ⟨b, off, rfl, hlt, hc⟩
  · exact .inl h0
  · refine .inr ⟨b, off, rfl, Nat.lt_of_lt_of_le hlt hb.size, fun i hi => ?_⟩
    rw [hb.cell (p := ⟨b, off + i, none⟩) hlt]
    exact hc i hi

/-- The place where the search stops. -/
def Hit (Z : Nat → Int) (n : Nat) (nx : Int) (k : Nat) : Prop := k < n ∧ (∀ j, 1 ≤ j → j ≤ k → Z j ≤ nx) ∧ (k + 1 = n ∨ nx < Z (k + 1))

theorem Hit.again {Z : Nat → Int} {n : Nat} {nx : Int} {k k' : Nat} (h : Hit Z n nx k) (h' : Hit (fun i => Z (k + i)) (n - k) nx k') : k' = 0 := by
  obtain ⟨h1, h2, h3⟩ := h
  obtain ⟨g1, g2, g3⟩ := h'
  by_cases e : k' = 0
  · exact e
  · have g := g2 1 (by omega) (by omega)
    rcases h3 with h3 | h3
    · omega
    · have g' : Z (k + 1) ≤ nx := g
      omega

theorem Hit.mono {Z : Nat → Int} {n : Nat} {lo hi : Int} {k k' : Nat} (hlh : lo ≤ hi) (h : Hit Z n lo k) (h' : Hit Z n hi k') : k ≤ k' := by
  obtain ⟨h1, h2, h3⟩ := h
  obtain ⟨g1, g2, g3⟩ := h'
  by_cases e : k ≤ k'
  · exact e
  · have g := h2 (k' + 1) (by omega) (by omega)
    rcases g3 with g3 | g3 <;> omega

theorem Hit.uniq {Z : Nat → Int} {n : Nat} {nx : Int} {k k' : Nat} (h : Hit Z n nx k) (h' : Hit Z n nx k') : k = k' :=
  Nat.le_antisymm (h.mono (Int.le_refl _) h') (h'.mono (Int.le_refl _) h)

end Go.Proofs.Qxb6630184a
