/-
  OUR OWN TEXT (by an AI prover). Hex digits, ids, the hex text of bytes: plain definitions and laws. No Go in sight.
-/
import Derived.WalkKit
import Derived.WalkSpells
import Derived.Laws.IdiomStrings
namespace Go.Proofs.Qxb6630254a

/-- Is the number a lower-case hex digit's code? -/
def hxi (x : Int) : Bool := (decide (48 ≤ x) && decide (x ≤ 57)) || (decide (97 ≤ x) && decide (x ≤ 102))
/-- Are all bytes lower-case hex digits? -/
def hexL (l : List UInt8) : Bool := l.all fun c => hxi c.toNat
/-- Is it an id? -/
def idb (s : ByteArray) : Bool := (s.size == 40 || s.size == 64) && hexL s.data.toList

theorem hxi_iff (x : Int) : hxi x = true ↔ (48 ≤ x ∧ x ≤ 57) ∨ (97 ≤ x ∧ x ≤ 102) := by simp [hxi]

theorem hexL_iff (s : ByteArray) : hexL s.data.toList = true ↔ ∀ i (h : i < s.size), hxi ((s[i]'h).toNat : Int) = true := by
  unfold hexL
  rw [List.all_eq_true]
  constructor
  · intro H i h
    exact H (s[i]'h) (by
      have : s.data.toList[i]'(by simpa using h) = s[i]'h := rfl
      rw [← this]; exact List.getElem_mem _)
  · intro H c hc
    obtain ⟨i, hi, rfl⟩ := List.getElem_of_mem hc
    exact H i (by simpa using hi)

theorem idb_len {s : ByteArray} (h1 : s.size ≠ 40) (h2 : s.size ≠ 64) : idb s = false := by
  unfold idb
  have e1 : (s.size == 40) = false := beq_eq_false_iff_ne.2 h1
  have e2 : (s.size == 64) = false := beq_eq_false_iff_ne.2 h2
  rw [e1, e2]; rfl
theorem idb_of {s : ByteArray} (h : s.size = 40 ∨ s.size = 64) : idb s = hexL s.data.toList := by
  unfold idb
  rcases h with h | h <;> rw [h] <;> rfl

/-- The text read backwards. -/
def rev (s : ByteArray) : ByteArray := ⟨s.data.toList.reverse.toArray⟩
theorem idb_rev (s : ByteArray) : idb (rev s) = idb s := by
  unfold idb rev hexL
  have e : (ByteArray.mk s.data.toList.reverse.toArray).size = s.size := by
    show s.data.toList.reverse.toArray.size = s.data.size
    simp
  rw [e]
  simp

/-- A nibble's code. -/
def nib (v : Int) (u : Bool) : Int := if v < 10 then 48 + v else if u = true then 65 + (v - 10) else 97 + (v - 10)

theorem nib_bd {v : Int} (u : Bool) (h0 : 0 ≤ v) (h1 : v ≤ 15) : 0 ≤ nib v u ∧ nib v u ≤ 255 := by
  unfold nib
  split
  · omega
  · split <;> omega

theorem nib_lower {v : Int} (h0 : 0 ≤ v) (h1 : v ≤ 15) : hxi (nib v false) = true := by
  rw [hxi_iff]
  unfold nib
  split
  · omega
  · simp; omega

theorem nib_upper {v : Int} (h0 : 0 ≤ v) (h1 : v ≤ 15) : hxi (nib v true) = decide (v < 10) := by
  rw [Bool.eq_iff_iff, hxi_iff, decide_eq_true_iff]
  unfold nib
  split
  · omega
  · simp; omega

/-- The number that a lower-case hex digit stands for. -/
def unnib (x : Int) : Int := if x ≤ 57 then x - 48 else x - 87
theorem unnib_spec {x : Int} (h : hxi x = true) : 0 ≤ unnib x ∧ unnib x ≤ 15 ∧ nib (unnib x) false = x := by
  rw [hxi_iff] at h
  unfold unnib nib
  split
  · refine ⟨by omega, by omega, ?_⟩
    rw [if_pos (by omega)]; omega
  · refine ⟨by omega, by omega, ?_⟩
    rw [if_neg (by omega)]
    simp; omega

/-- The j-th code of the hex text of the bytes Z. -/
def hxb (Z : Nat → Int) (u : Bool) (j : Nat) : Int := if j % 2 = 0 then nib (Z (j / 2) / 16) u else nib (Z (j / 2) % 16) u
theorem hxb_even (Z : Nat → Int) (u : Bool) (k : Nat) : hxb Z u (2 * k) = nib (Z k / 16) u := by
  unfold hxb
  rw [if_pos (by omega), show 2 * k / 2 = k by omega]
theorem hxb_odd (Z : Nat → Int) (u : Bool) (k : Nat) : hxb Z u (2 * k + 1) = nib (Z k % 16) u := by
  unfold hxb
  rw [if_neg (by omega), show (2 * k + 1) / 2 = k by omega]

/-- The hex text of the bytes Z 0 .. Z (n-1), as bytes. -/
def hexT (Z : Nat → Int) (u : Bool) (n : Nat) : List UInt8 := (List.range (2 * n)).map fun j => UInt8.ofNat (hxb Z u j).toNat
theorem hexT_length (Z : Nat → Int) (u : Bool) (n : Nat) : (hexT Z u n).length = 2 * n := by simp [hexT]

theorem hxb_bd {Z : Nat → Int} (hz : ∀ i, 0 ≤ Z i ∧ Z i ≤ 255) (u : Bool) (j : Nat) : 0 ≤ hxb Z u j ∧ hxb Z u j ≤ 255 := by
  have h := hz (j / 2)
  unfold hxb
  split
  · exact nib_bd u (by omega) (by omega)
  · exact nib_bd u (by omega) (by omega)

theorem hexT_at {Z : Nat → Int} (hz : ∀ i, 0 ≤ Z i ∧ Z i ≤ 255) (u : Bool) (n j : Nat) (hj : j < (hexT Z u n).length) : (((hexT Z u n)[j]).toNat : Int) = hxb Z u j := by
  have hb := hxb_bd hz u j
  simp only [hexT, List.getElem_map, List.getElem_range, UInt8.toNat_ofNat']
  omega

/-- Has the byte no letter among its nibbles? -/
def okN (x : Int) : Bool := decide (x / 16 < 10) && decide (x % 16 < 10)
def noL (Z : Nat → Int) (n : Nat) : Bool := (List.range n).all fun i => okN (Z i)
theorem noL_iff (Z : Nat → Int) (n : Nat) : noL Z n = true ↔ ∀ i, i < n → okN (Z i) = true := by simp [noL]

theorem hexL_hexT {Z : Nat → Int} (hz : ∀ i, 0 ≤ Z i ∧ Z i ≤ 255) (u : Bool) (n : Nat) : hexL (hexT Z u n) = true ↔ ∀ j, j < 2 * n → hxi (hxb Z u j) = true := by
  unfold hexL hexT
  rw [List.all_map, List.all_eq_true]
  constructor
  · intro H j hj
    have := H j (by simpa using hj)
    have hb := hxb_bd hz u j
    simp only [Function.comp, UInt8.toNat_ofNat'] at this
    rw [show (((hxb Z u j).toNat % 2 ^ 8 : Nat) : Int) = hxb Z u j by omega] at this
    exact this
  · intro H j hj
    have hj' : j < 2 * n := by simpa using hj
    have hb := hxb_bd hz u j
    simp only [Function.comp, UInt8.toNat_ofNat']
    rw [show (((hxb Z u j).toNat % 2 ^ 8 : Nat) : Int) = hxb Z u j by omega]
    exact H j hj'

theorem hexL_lower {Z : Nat → Int} (hz : ∀ i, 0 ≤ Z i ∧ Z i ≤ 255) (n : Nat) : hexL (hexT Z false n) = true := by
  rw [hexL_hexT hz]
  intro j _
  have h := hz (j / 2)
  unfold hxb
  split
  · exact nib_lower (by omega) (by omega)
  · exact nib_lower (by omega) (by omega)

theorem hexL_upper {Z : Nat → Int} (hz : ∀ i, 0 ≤ Z i ∧ Z i ≤ 255) (n : Nat) : hexL (hexT Z true n) = noL Z n := by
  rw [Bool.eq_iff_iff, hexL_hexT hz, noL_iff]
  constructor
  · intro H i hi
    have h := hz i
    have h1 := H (2 * i) (by omega)
    have h2 := H (2 * i + 1) (by omega)
    rw [hxb_even, nib_upper (by omega) (by omega)] at h1
    rw [hxb_odd, nib_upper (by omega) (by omega)] at h2
    unfold okN
    rw [h1, h2]; rfl
  · intro H j hj
    have h := hz (j / 2)
    have h1 := H (j / 2) (by omega)
    unfold okN at h1
    rw [Bool.and_eq_true] at h1
    unfold hxb
    split
    · rw [nib_upper (by omega) (by omega)]; exact h1.1
    · rw [nib_upper (by omega) (by omega)]; exact h1.2

/-- An id out of two texts. -/
theorem idb_glue (x y : List UInt8) (n : Nat) (hn : x.length + y.length = 2 * n) : idb (ByteArray.mk x.toArray ++ ByteArray.mk y.toArray) = ((n == 20 || n == 32) && (hexL x && hexL y)) := by
  rw [ByteArray.mk_append_mk]
  unfold idb hexL
  have e : (ByteArray.mk (x ++ y).toArray).size = 2 * n := by
    show (x ++ y).toArray.size = _
    simp [hn]
  rw [e]
  have e1 : (2 * n == 40) = (n == 20) := by rw [Bool.eq_iff_iff]; simp; omega
  have e2 : (2 * n == 64) = (n == 32) := by rw [Bool.eq_iff_iff]; simp; omega
  rw [e1, e2]
  congr 1
  show (x ++ y).all _ = _
  rw [List.all_append]

end Go.Proofs.Qxb6630254a
