/-
  OUR OWN TEXT (by an AI prover). Plain laws on the place where the search stops, for a list that is cut in two. No Go in sight.
-/
import Derived.Test.Qxb6630184aViews
namespace Go.Proofs.Qxb6630184a

/-- The search stops ahead of the part's last: it stops there in the whole. -/
theorem Hit.left {Z : Nat → Int} {n c : Nat} {nx : Int} {k : Nat} (h : Hit Z c nx k) (h1 : k + 1 < c) (hc : c ≤ n) : Hit Z n nx k := by
  obtain ⟨a1, a2, a3⟩ := h
  refine ⟨by omega, a2, ?_⟩
  rcases a3 with a3 | a3
  · omega
  · exact .inr a3

/-- It stops at the part's last, and what follows begins beyond: it stops there in the whole. -/
theorem Hit.mid {Z : Nat → Int} {n c : Nat} {nx : Int} {k : Nat} (h : Hit Z c nx k) (h1 : k + 1 = c) (hc : c < n) (hz : nx < Z c) : Hit Z n nx k := by
  obtain ⟨a1, a2, a3⟩ := h
  refine ⟨by omega, a2, .inr ?_⟩
  rw [h1]
  exact hz

/-- It stops at the part's last, and what follows does not begin beyond: it stops where the search of the second part stops. -/
theorem Hit.right {Z : Nat → Int} {n c : Nat} {nx : Int} {k k' : Nat} (h : Hit Z c nx k) (h1 : k + 1 = c) (hc : c < n) (hz : Z c ≤ nx) (h' : Hit (fun i => Z (c + i)) (n - c) nx k') : Hit Z n nx (c + k') := by
  obtain ⟨a1, a2, a3⟩ := h
  obtain ⟨b1, b2, b3⟩ := h'
  refine ⟨by omega, fun j j1 j2 => ?_, ?_⟩
  · by_cases e1 : j ≤ k
    · exact a2 j j1 e1
    · by_cases e2 : j = c
      · rw [e2]; exact hz
      · have := b2 (j - c) (by omega) (by omega)
        have e3 : c + (j - c) = j := by omega
        simp only [e3] at this
        exact this
  · rcases b3 with b3 | b3
    · left; omega
    · right
      have e3 : c + (k' + 1) = c + k' + 1 := by omega
      simp only [e3] at b3
      exact b3

open Go.RowKit in
/-- The first c of a view. -/
theorem View.cut {w : World} {a : Option Addr} {n cap c : Nat} {Z : Nat → Int} (h : View w a n cap Z) (hc : c ≤ n) : View w a c cap Z := by
  refine ⟨by have := h.le; omega, h.max, ?_, h.bd⟩
  rcases h.at' with h0 | ⟨b, off, e, hlt, hcc⟩
  · exact .inl (by omega)
  · exact .inr ⟨b, off, e, hlt, fun i hi => hcc i (by omega)⟩

open Go.RowKit in
/-- A view from c on. -/
theorem View.from {w : World} {b off n cap c : Nat} {Z : Nat → Int} (h : View w (some ⟨b, off, none⟩) n cap Z) (hc : c < n) : View w (some ⟨b, off + c, none⟩) (n - c) (cap - c) (fun i => Z (c + i)) := by
  refine ⟨by have := h.le; omega, by have := h.max; omega, ?_, fun i => h.bd _⟩
  rcases h.at' with h0 | ⟨b', off', e, hlt, hcc⟩
  · omega
  · cases e
    refine .inr ⟨b, off + c, rfl, hlt, fun i hi => ?_⟩
    rw [Nat.add_assoc]
    exact hcc (c + i) (by omega)

end Go.Proofs.Qxb6630184a
