/-
  OUR OWN TEXT (by an AI prover). The plain law of the worst status. No Go in sight.
-/
import Derived.WalkKit
import Derived.WalkSpells
namespace Go.Proofs.Qxb6630208a

/-- Is it the word 'passing'? -/
def isP (s : ByteArray) : Bool := s.toList == [112, 97, 115, 115, 105, 110, 103]
/-- Is it the word 'warning'? -/
def isW (s : ByteArray) : Bool := s.toList == [119, 97, 114, 110, 105, 110, 103]
/-- The rank of a status. -/
def sev (s : ByteArray) : Int := if isP s = true then 0 else if isW s = true then 1 else 2
/-- The word 'passing'. -/
def pas : ByteArray := { data := #[112, 97, 115, 115, 105, 110, 103] }
/-- The worst of the first k statuses, the first of its rank. -/
def worst (T : Nat → ByteArray) : Nat → ByteArray
  | 0 => pas
  | k + 1 => if sev (worst T k) < sev (T k) then T k else worst T k

theorem isP_pas : isP pas = true := by decide +kernel
theorem sev_pas : sev pas = 0 := by simp [sev, isP_pas]
theorem sev_nonneg (s : ByteArray) : 0 ≤ sev s := by unfold sev; split <;> (try split) <;> decide
theorem sev_le (s : ByteArray) : sev s ≤ 2 := by unfold sev; split <;> (try split) <;> decide
theorem isP_of_sev {s : ByteArray} (h : sev s ≤ 0) : isP s = true := by
  unfold sev at h
  by_cases e : isP s = true
  · exact e
  · rw [if_neg e] at h
    split at h <;> exact absurd h (by decide)
theorem sev_of_isP {s : ByteArray} (h : isP s = true) : sev s = 0 := by simp [sev, h]

/-- What the worst is: 'passing' where all are, or the first of the highest rank; and none is worse. -/
theorem worst_inv (T : Nat → ByteArray) (n : Nat) :
    ((worst T n = pas ∧ ∀ j, j < n → isP (T j) = true) ∨ (∃ m, m < n ∧ worst T n = T m ∧ (∀ j, j < m → sev (T j) < sev (T m)) ∧ 0 < sev (T m))) ∧ ∀ j, j < n → sev (T j) ≤ sev (worst T n) := by
  induction n with
  | zero => exact ⟨.inl ⟨rfl, fun j hj => by omega⟩, fun j hj => by omega⟩
  | succ n ih =>
    obtain ⟨h1, h2⟩ := ih
    by_cases hlt : sev (worst T n) < sev (T n)
    · have e : worst T (n + 1) = T n := by show (if _ then _ else _) = _; rw [if_pos hlt]
      rw [e]
      refine ⟨.inr ⟨n, by omega, rfl, fun j hj => ?_, ?_⟩, fun j hj => ?_⟩
      · have := h2 j hj; omega
      · have := sev_nonneg (worst T n); omega
      · by_cases ej : j = n
        · rw [ej]; exact Int.le_refl _
        · have := h2 j (by omega); omega
    · have e : worst T (n + 1) = worst T n := by show (if _ then _ else _) = _; rw [if_neg hlt]
      rw [e]
      refine ⟨?_, fun j hj => ?_⟩
      · rcases h1 with ⟨a, b⟩ | ⟨m, a, b, c, d⟩
        · refine .inl ⟨a, fun j hj => ?_⟩
          by_cases ej : j = n
          · rw [ej]
            rw [a, sev_pas] at hlt
            exact isP_of_sev (by omega)
          · exact b j (by omega)
        · exact .inr ⟨m, by omega, b, c, d⟩
      · by_cases ej : j = n
        · rw [ej]; omega
        · exact h2 j (by omega)

/-- The worst of a list cut in two. -/
theorem worst_join (T : Nat → ByteArray) (c m : Nat) :
    worst T (c + m) = if sev (worst T c) < sev (worst (fun i => T (c + i)) m) then worst (fun i => T (c + i)) m else worst T c := by
  induction m with
  | zero =>
    have : sev (worst (fun i => T (c + i)) 0) = 0 := sev_pas
    have h := sev_nonneg (worst T c)
    rw [if_neg (by omega)]
    rfl
  | succ m ih =>
    have e1 : worst T (c + (m + 1)) = if sev (worst T (c + m)) < sev (T (c + m)) then T (c + m) else worst T (c + m) := rfl
    have e2 : worst (fun i => T (c + i)) (m + 1) = if sev (worst (fun i => T (c + i)) m) < sev (T (c + m)) then T (c + m) else worst (fun i => T (c + i)) m := rfl
    rw [e1, e2, ih]
    generalize worst T c = L
    generalize worst (fun i => T (c + i)) m = R
    generalize T (c + m) = x
    by_cases h1 : sev L < sev R
    · simp only [if_pos h1]
      by_cases h2 : sev R < sev x
      · simp only [if_pos h2]
        rw [if_pos (by omega)]
      · simp only [if_neg h2]
        rw [if_pos h1]
    · simp only [if_neg h1]
      by_cases h2 : sev L < sev x
      · simp only [if_pos h2]
        have h3 : sev R < sev x := by omega
        simp only [if_pos h3]
        rw [if_pos h2]
      · simp only [if_neg h2]
        by_cases h3 : sev R < sev x
        · simp only [if_pos h3]
          rw [if_neg h2]
        · simp only [if_neg h3]
          rw [if_neg h1]

theorem worst_congr {T T' : Nat → ByteArray} {n : Nat} (h : ∀ i, i < n → T i = T' i) : worst T n = worst T' n := by
  induction n with
  | zero => rfl
  | succ n ih =>
    show (if _ then _ else _) = (if _ then _ else _)
    rw [ih (fun i hi => h i (by omega)), h n (by omega)]

/-- One more status, the worst itself, put in at any place, leaves the worst as it is. -/
theorem worst_grown (T T2 : Nat → ByteArray) (pos m : Nat) (h1 : ∀ i, i < pos → T2 i = T i) (h2 : T2 pos = worst T (pos + m)) (h3 : ∀ i, i < m → T2 (pos + 1 + i) = T (pos + i)) :
    worst T2 (pos + m + 1) = worst T (pos + m) := by
  have e0 : pos + m + 1 = pos + 1 + m := by omega
  rw [e0, worst_join T2 (pos + 1) m]
  have e1 : worst (fun i => T2 (pos + 1 + i)) m = worst (fun i => T (pos + i)) m := worst_congr (fun i hi => h3 i hi)
  have e2 : worst T2 (pos + 1) = if sev (worst T2 pos) < sev (T2 pos) then T2 pos else worst T2 pos := rfl
  have e3 : worst T2 pos = worst T pos := worst_congr h1
  rw [e1, e2, e3, h2, worst_join T pos m]
  generalize worst T pos = A
  generalize worst (fun i => T (pos + i)) m = R
  by_cases h : sev A < sev R
  · simp only [if_pos h]
    rw [if_neg (by omega)]
  · simp only [if_neg h, ite_self]

/-- Some status is the worst, and those ahead of it are better. -/
theorem worst_first (T : Nat → ByteArray) (n : Nat) (hn : 0 < n) : ∃ m, m < n ∧ (T m).toList = (worst T n).toList ∧ ∀ j, j < m → sev (T j) < sev (worst T n) := by
  rcases (worst_inv T n).1 with ⟨a, b⟩ | ⟨m, a, b, c, d⟩
  · refine ⟨0, hn, ?_, fun j hj => by omega⟩
    have h := b 0 hn
    have h' := isP_pas
    unfold isP at h h'
    rw [a, eq_of_beq h, eq_of_beq h']
  · exact ⟨m, a, by rw [b], by rw [b]; exact c⟩

/-- The worst is 'passing' just where all are. -/
theorem worst_passing (T : Nat → ByteArray) (n : Nat) : isP (worst T n) = true ↔ ∀ j, j < n → isP (T j) = true := by
  constructor
  · intro h j hj
    have := (worst_inv T n).2 j hj
    rw [sev_of_isP h] at this
    exact isP_of_sev this
  · intro h
    rcases (worst_inv T n).1 with ⟨a, _⟩ | ⟨m, a, b, c, d⟩
    · rw [a]; exact isP_pas
    · rw [b]; exact h m a

end Go.Proofs.Qxb6630208a
