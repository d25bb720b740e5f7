/-
  OUR OWN TEXT (by an AI prover). The walks of zzNibble (12), zzPairIsByteText (10), IsID (6).
-/
import Derived.Test.Qxb6630254aRows
import Derived.Test.Qxb6630254aPlain
import Derived.WalkLawsBesides
import Derived.WalkSmall
import Derived.Laws.RangeAny
namespace Go.Proofs.Qxb6630254a
open Go.RowKit

theorem nib_any (v : Int) (u : Bool) (w : World) (h0 : 0 ≤ v) (h1 : v ≤ 15) : Calls Try.prog 12 #[.int .u8 v, .bool u] w fun e w' => e = .returned (.int .u8 (nib v u)) ∧ w' = w := by
  by_cases h : v < 10
  · have e : nib v u = 48 + v := by unfold nib; rw [if_pos h]
    rw [e]
    clear e
    go_enter Try.func12, Try.ntmps12
    go_wp2
    go_ret
    exact ⟨rfl, rfl⟩
  · cases u
    · have e : nib v false = 97 + (v - 10) := by unfold nib; rw [if_neg h]; simp
      rw [e]
      clear e
      go_enter Try.func12, Try.ntmps12
      go_wp2
      go_ret
      exact ⟨rfl, rfl⟩
    · have e : nib v true = 65 + (v - 10) := by unfold nib; rw [if_neg h]; simp
      rw [e]
      clear e
      go_enter Try.func12, Try.ntmps12
      go_wp2
      go_ret
      exact ⟨rfl, rfl⟩

set_option maxRecDepth 10000 in
set_option maxHeartbeats 800000 in
theorem pair_yes (x y : Int) (w : World) (hx : hxi x = true) (hy : hxi y = true) : Calls Try.prog 10 #[.int .u8 x, .int .u8 y] w fun e w' => e = .returned (.bool true) ∧ w' = w := by
  obtain ⟨a0, a1, a2⟩ := unnib_spec hx
  obtain ⟨b0, b1, b2⟩ := unnib_spec hy
  obtain ⟨m, hm⟩ : ∃ m : Nat, (m : Int) = unnib x * 16 + unnib y := ⟨(unnib x * 16 + unnib y).toNat, by omega⟩
  have hm255 : m ≤ 255 := by omega
  have H1 : Hid (nib ((m : Int) / 16) false = x) := by
    show _ = _
    rw [show (m : Int) / 16 = unnib x by omega]; exact a2
  have H2 : Hid (nib ((m : Int) % 16) false = y) := by
    show _ = _
    rw [show (m : Int) % 16 = unnib y by omega]; exact b2
  clear hm a0 a1 a2 b0 b1 b2 hx hy
  go_enter Try.func10, Try.ntmps10
  go_wp2
  go_loop [5] (fun i => ∃ k : Nat, k ≤ m ∧ i = .int .i64 k) (fun i => 256 - (intOf i).toNat)
  case atStart => exact ⟨0, Nat.zero_le _, rfl⟩
  case round =>
    obtain ⟨k, hk, rfl⟩ := hrel
    have hk255 : (k : Int) ≤ 255 := by omega
    cases h1 : (nib ((k : Int) / 16) false == x) <;> cases h2 : (nib ((k : Int) % 16) false == y)
    · have hkm : k ≠ m := by
        rintro rfl
        rw [H1.out] at h1
        simp at h1
      have hkm' : k < m := by omega
      clear hkm
      go_wp2_with (go_at_call 12; refine (nib_any _ _ _ (by omega) (by omega)).mono ?_; rintro e w' ⟨rfl, hw⟩; obtain rfl := hw.symm)
      go_round
      case rel => exact ⟨k + 1, by omega, by go_num⟩
      case measure => simp [intOf]; omega
    · have hkm : k ≠ m := by
        rintro rfl
        rw [H1.out] at h1
        simp at h1
      have hkm' : k < m := by omega
      clear hkm
      go_wp2_with (go_at_call 12; refine (nib_any _ _ _ (by omega) (by omega)).mono ?_; rintro e w' ⟨rfl, hw⟩; obtain rfl := hw.symm)
      go_round
      case rel => exact ⟨k + 1, by omega, by go_num⟩
      case measure => simp [intOf]; omega
    · have hkm : k ≠ m := by
        rintro rfl
        rw [H2.out] at h2
        simp at h2
      have hkm' : k < m := by omega
      clear hkm
      go_wp2_with (go_at_call 12; refine (nib_any _ _ _ (by omega) (by omega)).mono ?_; rintro e w' ⟨rfl, hw⟩; obtain rfl := hw.symm)
      go_round
      case rel => exact ⟨k + 1, by omega, by go_num⟩
      case measure => simp [intOf]; omega
    · go_wp2_with (go_at_call 12; refine (nib_any _ _ _ (by omega) (by omega)).mono ?_; rintro e w' ⟨rfl, hw⟩; obtain rfl := hw.symm)
      go_ret
      exact ⟨rfl, rfl⟩

set_option maxRecDepth 10000 in
set_option maxHeartbeats 800000 in
theorem pair_no (x y : Int) (w : World) (h : ¬ (hxi x = true ∧ hxi y = true)) : Calls Try.prog 10 #[.int .u8 x, .int .u8 y] w fun e w' => e = .returned (.bool false) ∧ w' = w := by
  have H : Hid (∀ k : Nat, k ≤ 255 → nib ((k : Int) / 16) false = x → nib ((k : Int) % 16) false = y → False) := by
    intro k hk e1 e2
    apply h
    rw [← e1, ← e2]
    exact ⟨nib_lower (by omega) (by omega), nib_lower (by omega) (by omega)⟩
  clear h
  go_enter Try.func10, Try.ntmps10
  go_wp2
  go_loop [5] (fun i => ∃ k : Nat, k ≤ 256 ∧ i = .int .i64 k) (fun i => 256 - (intOf i).toNat)
  case atStart => exact ⟨0, Nat.zero_le _, rfl⟩
  case round =>
    obtain ⟨k, hk, rfl⟩ := hrel
    by_cases hlt : k < 256
    · have hk255 : (k : Int) ≤ 255 := by omega
      cases h1 : (nib ((k : Int) / 16) false == x) <;> cases h2 : (nib ((k : Int) % 16) false == y)
      · go_wp2_with (go_at_call 12; refine (nib_any _ _ _ (by omega) (by omega)).mono ?_; rintro e w' ⟨rfl, hw⟩; obtain rfl := hw.symm)
        go_round
        case rel => exact ⟨k + 1, by omega, by go_num⟩
        case measure => simp [intOf]; omega
      · go_wp2_with (go_at_call 12; refine (nib_any _ _ _ (by omega) (by omega)).mono ?_; rintro e w' ⟨rfl, hw⟩; obtain rfl := hw.symm)
        go_round
        case rel => exact ⟨k + 1, by omega, by go_num⟩
        case measure => simp [intOf]; omega
      · go_wp2_with (go_at_call 12; refine (nib_any _ _ _ (by omega) (by omega)).mono ?_; rintro e w' ⟨rfl, hw⟩; obtain rfl := hw.symm)
        go_round
        case rel => exact ⟨k + 1, by omega, by go_num⟩
        case measure => simp [intOf]; omega
      · exact (H.out k (by omega) (eq_of_beq h1) (eq_of_beq h2)).elim
    · go_wp2
      go_ret
      exact ⟨rfl, rfl⟩

/-- zzPairIsByteText: both are lower-case hex digits. -/
theorem pair_any (x y : Int) (w : World) : Calls Try.prog 10 #[.int .u8 x, .int .u8 y] w fun e w' => e = .returned (.bool (hxi x && hxi y)) ∧ w' = w := by
  by_cases h : hxi x = true ∧ hxi y = true
  · rw [h.1, h.2]; exact pair_yes x y w h.1 h.2
  · have e : (hxi x && hxi y) = false := by
      rw [← Bool.not_eq_true, Bool.and_eq_true]; exact h
    rw [e]; exact pair_no x y w h

set_option maxRecDepth 10000 in
set_option maxHeartbeats 800000 in
theorem id_len (s : ByteArray) (w : World) (h1 : s.size ≠ 40) (h2 : s.size ≠ 64) : Calls Try.prog 6 #[.string s] w fun e w' => e = .returned (.bool false) ∧ w' = w := by
  have f1 : ((s.size : Int) != 40) = true := by simp; omega
  have f2 : ((s.size : Int) != 64) = true := by simp; omega
  clear h1 h2
  go_enter Try.func6, Try.ntmps6
  go_wp2
  go_ret
  exact ⟨rfl, rfl⟩

set_option maxRecDepth 10000 in
set_option maxHeartbeats 800000 in
theorem id_text (s : ByteArray) (w : World) (hn : s.size = 40 ∨ s.size = 64) : Calls Try.prog 6 #[.string s] w fun e w' => e = .returned (.bool (hexL s.data.toList)) ∧ Below w.heap.size w w' := by
  have hdec : ((s.size : Int) != 40) = false ∨ (((s.size : Int) != 40) = true ∧ ((s.size : Int) != 64) = false) := by
    rcases hn with h | h
    · left; simp [h]
    · right; simp [h]
  clear hn
  rcases hdec with f1 | ⟨f1, f2⟩
  · go_enter Try.func6, Try.ntmps6
    go_wp2
    go_loopw [4] (fun _ w' => ∃ pos : Nat, w' = w.iter s pos ∧ pos ≤ s.size ∧ Hid (∀ i (h : i < s.size), i < pos → hxi ((s[i]'h).toNat : Int) = true)) (fun _ w' => s.size - w'.iterPos w.heap.size)
    case atStart => exact ⟨0, rfl, Nat.zero_le _, fun i _ hi => by omega⟩
    case round =>
      obtain ⟨pos, rfl, hpos, hpre⟩ := hrel
      have hbel : Below w.heap.size w (w.iter s pos) := (Below.refl _ _).alloc (Nat.le_refl _) _
      by_cases hp : pos < s.size
      · by_cases ha : (s[pos]'hp).toNat < 128
        · obtain ⟨c, hcd⟩ : ∃ c : Nat, c = (s[pos]'hp).toNat := ⟨_, rfl⟩
          have hnx : ∀ ty, (Instr.next (.pointer (some ⟨w.heap.size, 0, none⟩)) true ty).run Try.prog (w.iter s pos) = .ok (.tuple #[.bool true, .int .i64 pos, .int .i32 (c : Int)]) (w.iter s (pos + 1)) := fun ty => by
            rw [hcd]; exact run_next_ascii w s pos ty hp ha
          have HC : Hid (c = (s[pos]'hp).toNat) := hcd
          have hc128 : c < 128 := by omega
          have hbel1 : Below w.heap.size w (w.iter s (pos + 1)) := (Below.refl _ _).alloc (Nat.le_refl _) _
          clear hcd ha
          by_cases hx : (48 ≤ c ∧ c ≤ 57) ∨ (97 ≤ c ∧ c ≤ 102)
          · have HN : Hid (∀ i (h : i < s.size), i < pos + 1 → hxi ((s[i]'h).toNat : Int) = true) := by
              intro i h hi
              by_cases e : i = pos
              · subst e
                rw [← HC.out, hxi_iff]; omega
              · exact hpre.out i h (by omega)
            rcases hx with ⟨x1, x2⟩ | ⟨x1, x2⟩
            · have y1 : (48 : Int) ≤ (c : Int) := by omega
              have y2 : (c : Int) ≤ 57 := by omega
              go_wp2
              go_roundw
              case rel => exact ⟨pos + 1, rfl, by omega, HN⟩
              case measure => simp; omega
            · have y1 : (97 : Int) ≤ (c : Int) := by omega
              have y2 : (c : Int) ≤ 102 := by omega
              have y3 : (57 : Int) < (c : Int) := by omega
              go_wp2
              go_roundw
              case rel => exact ⟨pos + 1, rfl, by omega, HN⟩
              case measure => simp; omega
          · have HF : hexL s.data.toList = false := by
              rw [← Bool.not_eq_true, hexL_iff]
              intro H
              have := H pos hp
              rw [← HC.out, hxi_iff] at this
              omega
            have hcase : (c : Int) < 48 ∨ ((57 : Int) < (c : Int) ∧ (c : Int) < 97) ∨ (102 : Int) < (c : Int) := by omega
            clear hx
            rcases hcase with y | ⟨y1, y2⟩ | y
            · have y2 : (c : Int) < 97 := by omega
              go_wp2
              go_ret
              exact ⟨by first | rfl | (rw [HF]; rfl), hbel1⟩
            · have y3 : ¬ (c : Int) < 48 := by omega
              go_wp2
              go_ret
              exact ⟨by first | rfl | (rw [HF]; rfl), hbel1⟩
            · have y3 : ¬ (c : Int) < 48 := by omega
              have y4 : ¬ (c : Int) < 97 := by omega
              have y5 : (57 : Int) < (c : Int) := by omega
              go_wp2
              go_ret
              exact ⟨by first | rfl | (rw [HF]; rfl), hbel1⟩
        · obtain ⟨c, d, hcd⟩ : ∃ c d : Nat, Utf8.decode s pos = (c, d) := ⟨_, _, rfl⟩
          have hnx : ∀ ty, (Instr.next (.pointer (some ⟨w.heap.size, 0, none⟩)) true ty).run Try.prog (w.iter s pos) = .ok (.tuple #[.bool true, .int .i64 pos, .int .i32 (c : Int)]) (w.iter s (pos + d)) := fun ty => by
            have := run_next_any (P := Try.prog) w s pos ty hp
            rw [hcd] at this; exact this
          have hc128 : 128 ≤ c := by
            have := (decode_high s pos hp (by omega)).1
            rw [hcd] at this; exact this
          have HF : hexL s.data.toList = false := by
            rw [← Bool.not_eq_true, hexL_iff]
            intro H
            have := H pos hp
            rw [hxi_iff] at this
            omega
          have hbel1 : Below w.heap.size w (w.iter s (pos + d)) := (Below.refl _ _).alloc (Nat.le_refl _) _
          clear hcd ha
          have y3 : ¬ (c : Int) < 48 := by omega
          have y4 : ¬ (c : Int) < 97 := by omega
          have y5 : (57 : Int) < (c : Int) := by omega
          have y6 : (102 : Int) < (c : Int) := by omega
          go_wp2
          go_ret
          exact ⟨by first | rfl | (rw [HF]; rfl), hbel1⟩
      · have hnx : ∀ ty, (Instr.next (.pointer (some ⟨w.heap.size, 0, none⟩)) true ty).run Try.prog (w.iter s pos) = _ := fun ty => run_next_end w s pos ty hp
        have HT : hexL s.data.toList = true := by
          rw [hexL_iff]
          intro i h
          exact hpre.out i h (by omega)
        go_wp2
        go_ret
        exact ⟨by first | rfl | (rw [HT]; rfl), hbel⟩
  · go_enter Try.func6, Try.ntmps6
    go_wp2
    go_loopw [4] (fun _ w' => ∃ pos : Nat, w' = w.iter s pos ∧ pos ≤ s.size ∧ Hid (∀ i (h : i < s.size), i < pos → hxi ((s[i]'h).toNat : Int) = true)) (fun _ w' => s.size - w'.iterPos w.heap.size)
    case atStart => exact ⟨0, rfl, Nat.zero_le _, fun i _ hi => by omega⟩
    case round =>
      obtain ⟨pos, rfl, hpos, hpre⟩ := hrel
      have hbel : Below w.heap.size w (w.iter s pos) := (Below.refl _ _).alloc (Nat.le_refl _) _
      by_cases hp : pos < s.size
      · by_cases ha : (s[pos]'hp).toNat < 128
        · obtain ⟨c, hcd⟩ : ∃ c : Nat, c = (s[pos]'hp).toNat := ⟨_, rfl⟩
          have hnx : ∀ ty, (Instr.next (.pointer (some ⟨w.heap.size, 0, none⟩)) true ty).run Try.prog (w.iter s pos) = .ok (.tuple #[.bool true, .int .i64 pos, .int .i32 (c : Int)]) (w.iter s (pos + 1)) := fun ty => by
            rw [hcd]; exact run_next_ascii w s pos ty hp ha
          have HC : Hid (c = (s[pos]'hp).toNat) := hcd
          have hc128 : c < 128 := by omega
          have hbel1 : Below w.heap.size w (w.iter s (pos + 1)) := (Below.refl _ _).alloc (Nat.le_refl _) _
          clear hcd ha
          by_cases hx : (48 ≤ c ∧ c ≤ 57) ∨ (97 ≤ c ∧ c ≤ 102)
          · have HN : Hid (∀ i (h : i < s.size), i < pos + 1 → hxi ((s[i]'h).toNat : Int) = true) := by
              intro i h hi
              by_cases e : i = pos
              · subst e
                rw [← HC.out, hxi_iff]; omega
              · exact hpre.out i h (by omega)
            rcases hx with ⟨x1, x2⟩ | ⟨x1, x2⟩
            · have y1 : (48 : Int) ≤ (c : Int) := by omega
              have y2 : (c : Int) ≤ 57 := by omega
              go_wp2
              go_roundw
              case rel => exact ⟨pos + 1, rfl, by omega, HN⟩
              case measure => simp; omega
            · have y1 : (97 : Int) ≤ (c : Int) := by omega
              have y2 : (c : Int) ≤ 102 := by omega
              have y3 : (57 : Int) < (c : Int) := by omega
              go_wp2
              go_roundw
              case rel => exact ⟨pos + 1, rfl, by omega, HN⟩
              case measure => simp; omega
          · have HF : hexL s.data.toList = false := by
              rw [← Bool.not_eq_true, hexL_iff]
              intro H
              have := H pos hp
              rw [← HC.out, hxi_iff] at this
              omega
            have hcase : (c : Int) < 48 ∨ ((57 : Int) < (c : Int) ∧ (c : Int) < 97) ∨ (102 : Int) < (c : Int) := by omega
            clear hx
            rcases hcase with y | ⟨y1, y2⟩ | y
            · have y2 : (c : Int) < 97 := by omega
              go_wp2
              go_ret
              exact ⟨by first | rfl | (rw [HF]; rfl), hbel1⟩
            · have y3 : ¬ (c : Int) < 48 := by omega
              go_wp2
              go_ret
              exact ⟨by first | rfl | (rw [HF]; rfl), hbel1⟩
            · have y3 : ¬ (c : Int) < 48 := by omega
              have y4 : ¬ (c : Int) < 97 := by omega
              have y5 : (57 : Int) < (c : Int) := by omega
              go_wp2
              go_ret
              exact ⟨by first | rfl | (rw [HF]; rfl), hbel1⟩
        · obtain ⟨c, d, hcd⟩ : ∃ c d : Nat, Utf8.decode s pos = (c, d) := ⟨_, _, rfl⟩
          have hnx : ∀ ty, (Instr.next (.pointer (some ⟨w.heap.size, 0, none⟩)) true ty).run Try.prog (w.iter s pos) = .ok (.tuple #[.bool true, .int .i64 pos, .int .i32 (c : Int)]) (w.iter s (pos + d)) := fun ty => by
            have := run_next_any (P := Try.prog) w s pos ty hp
            rw [hcd] at this; exact this
          have hc128 : 128 ≤ c := by
            have := (decode_high s pos hp (by omega)).1
            rw [hcd] at this; exact this
          have HF : hexL s.data.toList = false := by
            rw [← Bool.not_eq_true, hexL_iff]
            intro H
            have := H pos hp
            rw [hxi_iff] at this
            omega
          have hbel1 : Below w.heap.size w (w.iter s (pos + d)) := (Below.refl _ _).alloc (Nat.le_refl _) _
          clear hcd ha
          have y3 : ¬ (c : Int) < 48 := by omega
          have y4 : ¬ (c : Int) < 97 := by omega
          have y5 : (57 : Int) < (c : Int) := by omega
          have y6 : (102 : Int) < (c : Int) := by omega
          go_wp2
          go_ret
          exact ⟨by first | rfl | (rw [HF]; rfl), hbel1⟩
      · have hnx : ∀ ty, (Instr.next (.pointer (some ⟨w.heap.size, 0, none⟩)) true ty).run Try.prog (w.iter s pos) = _ := fun ty => run_next_end w s pos ty hp
        have HT : hexL s.data.toList = true := by
          rw [hexL_iff]
          intro i h
          exact hpre.out i h (by omega)
        go_wp2
        go_ret
        exact ⟨by first | rfl | (rw [HT]; rfl), hbel⟩

/-- IsID. -/
theorem id_any (s : ByteArray) (w : World) : Calls Try.prog 6 #[.string s] w fun e w' => e = .returned (.bool (idb s)) ∧ Below w.heap.size w w' := by
  by_cases h : s.size = 40 ∨ s.size = 64
  · rw [idb_of h]; exact id_text s w h
  · rw [idb_len (by omega) (by omega)]
    refine (id_len s w (by omega) (by omega)).mono fun e w' ⟨h1, h2⟩ => ?_
    subst h2
    exact ⟨h1, Below.refl _ _⟩

end Go.Proofs.Qxb6630254a
