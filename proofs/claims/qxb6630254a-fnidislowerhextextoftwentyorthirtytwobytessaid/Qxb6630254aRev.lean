/-
  OUR OWN TEXT (by an AI prover). The walks of zzReverse (11), of the guard (9), and of FnIDIsLowerHexTextOfTwentyOrThirtyTwoBytes (4).
-/
import Derived.Test.Qxb6630254aTexts
import Derived.Deep.QuietTactic
import Derived.BigQuiet
namespace Go.Proofs.Qxb6630254a
open Go.RowKit

theorem rev_at (s : ByteArray) (j : Nat) (hj : j < s.data.toList.reverse.length) (h : s.size - 1 - j < s.size) : (s.data.toList.reverse[j]'hj) = s[s.size - 1 - j]'h := by
  rw [List.getElem_reverse]
  rfl

theorem rev_set {xs : List Value} {s : ByteArray} {k : Nat} (hk : k < s.size) (hl : xs.length = s.size) (hp : ∀ j (h : j < s.size), j < k → xs[s.size - 1 - j]? = some (.int .u8 ((s[j]'h).toNat : Int))) :
    ∀ j (h : j < s.size), j < k + 1 → (xs.set (s.size - 1 - k) (.int .u8 ((s[k]'hk).toNat : Int)))[s.size - 1 - j]? = some (.int .u8 ((s[j]'h).toNat : Int)) := by
  intro j h hj
  by_cases e : j = k
  · subst e
    rw [List.getElem?_set_self (by omega)]
  · rw [List.getElem?_set_ne (by omega)]
    exact hp j h (by omega)

set_option maxRecDepth 10000 in
set_option maxHeartbeats 800000 in
theorem rev_any (s : ByteArray) (w : World) (hn : s.size ≤ 1048576) : Calls Try.prog 11 #[.string s] w fun e w' => e = .returned (.string (rev s)) ∧ Below w.heap.size w w' := by
  have hnI : (s.size : Int) ≤ 1048576 := by omega
  have HN : Hid (s.size ≤ 1048576) := hn
  clear hn
  obtain ⟨i5, hi5, hz5, hs5, hby5⟩ := info_parts Try.info5
  go_enter Try.func11, Try.ntmps11
  go_wp2_with (at_make; refine wpList_make_full _ rfl _ _ 22 rfl w.heap.size 5 i5 (.int .u8 0) 1 Try.underlying22 hi5 hz5 hs5 _ _ _ _ s.size rfl rfl (by omega) (by omega) (by rw [hby5]; omega) (by unfold maxLen; omega) (Nat.le_refl _) ?_; intro w1 hown1 hgrow1)
  have hb1 : Below w.heap.size w w1 := (Below.refl _ _).grown hgrow1 (Nat.le_refl _) (fun k hk => by cases hk)
  go_loopw [4] (fun i wr => ∃ (k : Nat) (xs : List Value), k ≤ s.size ∧ i = .int .i64 k ∧ wr.ownsRow w.heap.size 5 1 (.slice (some ⟨w.heap.size, 0, none⟩) s.size s.size) s.size xs ∧ Hid (∀ j (h : j < s.size), j < k → xs[s.size - 1 - j]? = some (.int .u8 ((s[j]'h).toNat : Int))) ∧ Below w.heap.size w wr) (fun i _ => s.size - (intOf i).toNat)
  case atStart => exact ⟨0, _, Nat.zero_le _, rfl, hown1, fun j _ hj => by omega, hb1⟩
  case round =>
    clear hown1 hgrow1 hb1
    obtain ⟨k, xs, hk, rfl, hown, hpre, hbel⟩ := hrel
    have hxl : xs.length = s.size := by have := hown.1; omega
    have HXL : Hid (xs.length = s.size) := hxl
    clear hxl
    by_cases hlt : k < s.size
    · have c1 : wr.cell? ⟨w.heap.size, s.size - 1 - k, none⟩ = some (xs[s.size - 1 - k]'(by have := HXL.out; omega)) := by
        rw [hown.cellAt (s.size - 1 - k) (by omega)]; exact List.getElem?_eq_getElem _
      obtain ⟨o1, ho1⟩ : ∃ v, v = (xs[s.size - 1 - k]'(by have := HXL.out; omega)) := ⟨_, rfl⟩
      rw [← ho1] at c1
      clear ho1
      have z1 := hown.frozenAt (s.size - 1 - k)
      go_wp2
      go_roundw
      case rel => exact ⟨k + 1, _, by omega, by go_num, (hown.stored (s.size - 1 - k) _).1, rev_set hlt HXL.out hpre.out, hbel.setCell (Nat.le_refl _) _⟩
      case measure => simp [intOf]; omega
    · have hkn : k = s.size := by omega
      have hconv : (convert 22 9 (.slice (some ⟨w.heap.size, 0, none⟩) s.size s.size)).run Try.prog wr = .ok (.string (rev s)) wr := by
        have hlen : s.data.toList.reverse.length = s.size := by
          rw [List.length_reverse]; rfl
        have h := run_convert_bytes_back (P := Try.prog) wr 22 9 5 ⟨w.heap.size, 0, none⟩ s.size s.data.toList.reverse Try.underlying22 Try.underlying5 Try.underlying9 (by
          intro j hj
          have hj' : j < s.size := by omega
          rw [rev_at s j hj (by omega), Addr.add_lit, Nat.zero_add, hown.cellAt j (by omega)]
          have h1 := hpre.out (s.size - 1 - j) (by omega) (by omega)
          rw [show s.size - 1 - (s.size - 1 - j) = j by omega] at h1
          exact h1)
        rw [hlen] at h
        exact h
      clear hkn
      go_wp2
      go_ret
      exact ⟨rfl, hbel⟩

/-- It answers some bool. (Behind a name, so that the walk does not part on the bool.) -/
def Says9 (e : Ending) : Prop := ∃ r : Bool, e = .returned (.bool r)
theorem Says9.mk (r : Bool) : Says9 (.returned (.bool r)) := ⟨r, rfl⟩

theorem bytes9 (s : ByteArray) (w : World) (h : s.size ≤ 9223372036854775807) : Calls Try.prog 9 #[.string s] w fun e w' => Says9 e ∧ w' = w := by
  go_enter Try.func9, Try.ntmps9
  go_wp2
  all_goals (go_ret; exact ⟨Says9.mk _, rfl⟩)

set_option maxRecDepth 10000 in
theorem lawOut (s : ByteArray) (w : World) (h : s.size ≤ 9223372036854775807) (hb : (1048576 : Int) < (s.size : Int)) : Calls Try.prog 4 #[.string s] w fun e w' => e = .returned (.bool true) ∧ Below w.heap.size w w' := by
  go_enter Try.func4, Try.ntmps4
  go_wp2_with (go_at_call 9; refine (bytes9 _ _ h).mono ?_; rintro e w' ⟨⟨r, rfl⟩, hw⟩; obtain rfl := hw.symm)
  all_goals (go_ret; exact ⟨rfl, Below.refl _ _⟩)

set_option maxRecDepth 10000 in
set_option maxHeartbeats 800000 in
theorem lawA (s : ByteArray) (w : World) (hn : s.size ≤ 1048576) (h1 : s.size ≠ 40) (h2 : s.size ≠ 64) : Calls Try.prog 4 #[.string s] w fun e w' => e = .returned (.bool true) ∧ Below w.heap.size w w' := by
  have E : idb s = false := idb_len h1 h2
  have E' : idb (rev s) = false := by rw [idb_rev]; exact E
  have f1 : ((s.size : Int) == 40) = false := by simp; omega
  have f2 : ((s.size : Int) == 64) = false := by simp; omega
  have hnI : (s.size : Int) ≤ 1048576 := by omega
  have HN : Hid (s.size ≤ 1048576) := hn
  clear h1 h2 hn
  go_enter Try.func4, Try.ntmps4
  go_wp2_with (go_at_call 9; refine (bytes9 _ _ (by omega)).mono ?_; rintro e w' ⟨⟨r, rfl⟩, hw⟩; obtain rfl := hw.symm)
  any_goals (go_ret; exact ⟨rfl, Below.refl _ _⟩)
  refine wp_loop_rounds 1 ?_
  rw [rounds_succ]
  go_wp2_with fail
  refine (id_any _ _).mono ?_
  rintro e w1 ⟨rfl, b1⟩
  go_wp2_with fail
  refine (rev_any _ _ HN.out).mono ?_
  rintro e w2 ⟨rfl, b2⟩
  go_wp2_with fail
  refine (id_any _ _).mono ?_
  rintro e w3 ⟨rfl, b3⟩
  have q : Below w.heap.size w w3 := (b1.trans (b2.mono b1.size)).trans (b3.mono (Nat.le_trans b1.size b2.size))
  go_wp2
  go_ret
  exact ⟨rfl, q⟩

/-- What the loop holds: 'true', and all pairs so far are hex; or 'false', and the text is not all hex. -/
def Inv (s : ByteArray) (v : Value) (j : Nat) : Prop := (v = .bool true ∧ ∀ i (h : i < s.size), i < 2 * j → hxi ((s[i]'h).toNat : Int) = true) ∨ (v = .bool false ∧ hexL s.data.toList = false)

set_option maxRecDepth 10000 in
set_option maxHeartbeats 800000 in
theorem lawB (s : ByteArray) (w : World) (m : Nat) (hm : s.size = 2 * m) (hsz : s.size = 40 ∨ s.size = 64) : Calls Try.prog 4 #[.string s] w fun e w' => e = .returned (.bool true) ∧ Below w.heap.size w w' := by
  have E : Hid (idb s = hexL s.data.toList) := idb_of hsz
  have E' : Hid (idb (rev s) = hexL s.data.toList) := by show _ = _; rw [idb_rev]; exact E.out
  have hnI : (s.size : Int) ≤ 1048576 := by omega
  have HN : Hid (s.size ≤ 1048576) := by show _ ≤ _; omega
  have HM : Hid (s.size = 2 * m) := hm
  have hdec : ((s.size : Int) == 40) = true ∨ (((s.size : Int) == 40) = false ∧ ((s.size : Int) == 64) = true) := by
    rcases hsz with h | h
    · left; simp [h]
    · right; simp [h]
  clear hsz hm
  rcases hdec with f1 | ⟨f1, f2⟩
  · go_enter Try.func4, Try.ntmps4
    go_wp2_with (go_at_call 9; refine (bytes9 _ _ (by omega)).mono ?_; rintro e w' ⟨⟨r, rfl⟩, hw⟩; obtain rfl := hw.symm)
    any_goals (go_ret; exact ⟨rfl, Below.refl _ _⟩)
    go_loopw [3, 4] (fun v i wr => ∃ j : Nat, j ≤ m ∧ i = .int .i64 ((2 * j : Nat) : Int) ∧ Inv s v j ∧ Below w.heap.size w wr) (fun _ i _ => 2 * m - (intOf i).toNat)
    case atStart => exact ⟨0, Nat.zero_le _, rfl, .inl ⟨rfl, fun i _ hi => by omega⟩, Below.refl _ _⟩
    case round =>
      obtain ⟨j, hj, rfl, hinv, hbel⟩ := hrel
      rcases hinv with ⟨rfl, hpre⟩ | ⟨rfl, hF⟩
      · have HP : Hid (∀ i (h : i < s.size), i < 2 * j → hxi ((s[i]'h).toNat : Int) = true) := hpre
        clear hpre
        by_cases hlt : 2 * j + 1 < s.size
        · obtain ⟨x1, hx1⟩ : ∃ c : Int, c = ((s[2 * j]'(by omega)).toNat : Int) := ⟨_, rfl⟩
          obtain ⟨x2, hx2⟩ : ∃ c : Int, c = ((s[2 * j + 1]'hlt).toNat : Int) := ⟨_, rfl⟩
          have i1 : ∀ w, (Instr.index 9 (.string s) (.int .i64 (2 * (j : Int)))).run Try.prog w = .ok (.int .u8 x1) w := fun w => by
            rw [run_index_string (w := w) 9 s .i64 (2 * (j : Int)) Try.underlying9, dif_pos (by omega), hx1]
            congr 4
          have i2 : ∀ w, (Instr.index 9 (.string s) (.int .i64 (2 * (j : Int) + 1))).run Try.prog w = .ok (.int .u8 x2) w := fun w => by
            rw [run_index_string (w := w) 9 s .i64 (2 * (j : Int) + 1) Try.underlying9, dif_pos (by omega), hx2]
            congr 4
          have H1 : Hid (x1 = ((s[2 * j]'(by omega)).toNat : Int)) := hx1
          have H2 : Hid (x2 = ((s[2 * j + 1]'hlt).toNat : Int)) := hx2
          clear hx1 hx2
          have y0 : (0 : Int) ≤ 2 * (j : Int) := by omega
          have y1 : 2 * (j : Int) + 1 < (s.size : Int) := by omega
          have y2 : 2 * (j : Int) < (s.size : Int) := by omega
          go_wp2
          go_quiet ((go_at_call 10; exact Calls.quiet_of_same (pair_any _ _ _)))
          go_wp2
          · have hh : (!hxi x1) = true ∨ (!hxi x2) = true := by assumption
            have hF : hexL s.data.toList = false := by
              rw [← Bool.not_eq_true, hexL_iff]
              intro H
              have e1 := H (2 * j) (by omega)
              have e2 := H (2 * j + 1) hlt
              rw [← H1.out] at e1
              rw [← H2.out] at e2
              rw [e1, e2] at hh
              simp at hh
            go_roundw
            case rel => exact ⟨j + 1, by have := HM.out; omega, by go_num, .inr ⟨rfl, hF⟩, below_drewN hbel _⟩
            case measure => have := HM.out; simp [intOf]; omega
          · have hh : (!hxi x1) = false ∧ (!hxi x2) = false := by assumption
            have hT : ∀ i (h : i < s.size), i < 2 * (j + 1) → hxi ((s[i]'h).toNat : Int) = true := by
              intro i h hi
              by_cases e1 : i = 2 * j
              · subst e1
                rw [← H1.out]; simpa using hh.1
              · by_cases e2 : i = 2 * j + 1
                · subst e2
                  rw [← H2.out]; simpa using hh.2
                · exact HP.out i h (by omega)
            go_roundw
            case rel => exact ⟨j + 1, by have := HM.out; omega, by go_num, .inl ⟨rfl, hT⟩, below_drewN hbel _⟩
            case measure => have := HM.out; simp [intOf]; omega
        · have hT : hexL s.data.toList = true := by
            rw [hexL_iff]
            intro i h
            exact HP.out i h (by have := HM.out; omega)
          have e1 : idb s = true := by rw [E.out]; exact hT
          have e2 : idb (rev s) = true := by rw [E'.out]; exact hT
          have y1 : ¬ 2 * (j : Int) + 1 < (s.size : Int) := by omega
          have y3 : 2 * (j : Int) ≤ (s.size : Int) := by have := HM.out; omega
          clear hT hlt
          go_wp2_with fail
          refine (id_any _ _).mono ?_
          rintro e w1 ⟨rfl, b1⟩
          go_wp2_with fail
          refine (rev_any _ _ HN.out).mono ?_
          rintro e w2 ⟨rfl, b2⟩
          go_wp2_with fail
          refine (id_any _ _).mono ?_
          rintro e w3 ⟨rfl, b3⟩
          have q : Below w.heap.size w w3 := ((hbel.trans (b1.mono hbel.size)).trans (b2.mono (Nat.le_trans hbel.size b1.size))).trans (b3.mono (Nat.le_trans hbel.size (Nat.le_trans b1.size b2.size)))
          go_wp2
          go_ret
          exact ⟨rfl, q⟩
      · have e1 : idb s = false := by rw [E.out]; exact hF
        have e2 : idb (rev s) = false := by rw [E'.out]; exact hF
        clear hF
        go_wp2_with fail
        refine (id_any _ _).mono ?_
        rintro e w1 ⟨rfl, b1⟩
        go_wp2_with fail
        refine (rev_any _ _ HN.out).mono ?_
        rintro e w2 ⟨rfl, b2⟩
        go_wp2_with fail
        refine (id_any _ _).mono ?_
        rintro e w3 ⟨rfl, b3⟩
        have q : Below w.heap.size w w3 := ((hbel.trans (b1.mono hbel.size)).trans (b2.mono (Nat.le_trans hbel.size b1.size))).trans (b3.mono (Nat.le_trans hbel.size (Nat.le_trans b1.size b2.size)))
        go_wp2
        go_ret
        exact ⟨rfl, q⟩
  · go_enter Try.func4, Try.ntmps4
    go_wp2_with (go_at_call 9; refine (bytes9 _ _ (by omega)).mono ?_; rintro e w' ⟨⟨r, rfl⟩, hw⟩; obtain rfl := hw.symm)
    any_goals (go_ret; exact ⟨rfl, Below.refl _ _⟩)
    go_loopw [3, 4] (fun v i wr => ∃ j : Nat, j ≤ m ∧ i = .int .i64 ((2 * j : Nat) : Int) ∧ Inv s v j ∧ Below w.heap.size w wr) (fun _ i _ => 2 * m - (intOf i).toNat)
    case atStart => exact ⟨0, Nat.zero_le _, rfl, .inl ⟨rfl, fun i _ hi => by omega⟩, Below.refl _ _⟩
    case round =>
      obtain ⟨j, hj, rfl, hinv, hbel⟩ := hrel
      rcases hinv with ⟨rfl, hpre⟩ | ⟨rfl, hF⟩
      · have HP : Hid (∀ i (h : i < s.size), i < 2 * j → hxi ((s[i]'h).toNat : Int) = true) := hpre
        clear hpre
        by_cases hlt : 2 * j + 1 < s.size
        · obtain ⟨x1, hx1⟩ : ∃ c : Int, c = ((s[2 * j]'(by omega)).toNat : Int) := ⟨_, rfl⟩
          obtain ⟨x2, hx2⟩ : ∃ c : Int, c = ((s[2 * j + 1]'hlt).toNat : Int) := ⟨_, rfl⟩
          have i1 : ∀ w, (Instr.index 9 (.string s) (.int .i64 (2 * (j : Int)))).run Try.prog w = .ok (.int .u8 x1) w := fun w => by
            rw [run_index_string (w := w) 9 s .i64 (2 * (j : Int)) Try.underlying9, dif_pos (by omega), hx1]
            congr 4
          have i2 : ∀ w, (Instr.index 9 (.string s) (.int .i64 (2 * (j : Int) + 1))).run Try.prog w = .ok (.int .u8 x2) w := fun w => by
            rw [run_index_string (w := w) 9 s .i64 (2 * (j : Int) + 1) Try.underlying9, dif_pos (by omega), hx2]
            congr 4
          have H1 : Hid (x1 = ((s[2 * j]'(by omega)).toNat : Int)) := hx1
          have H2 : Hid (x2 = ((s[2 * j + 1]'hlt).toNat : Int)) := hx2
          clear hx1 hx2
          have y0 : (0 : Int) ≤ 2 * (j : Int) := by omega
          have y1 : 2 * (j : Int) + 1 < (s.size : Int) := by omega
          have y2 : 2 * (j : Int) < (s.size : Int) := by omega
          go_wp2
          go_quiet ((go_at_call 10; exact Calls.quiet_of_same (pair_any _ _ _)))
          go_wp2
          · have hh : (!hxi x1) = true ∨ (!hxi x2) = true := by assumption
            have hF : hexL s.data.toList = false := by
              rw [← Bool.not_eq_true, hexL_iff]
              intro H
              have e1 := H (2 * j) (by omega)
              have e2 := H (2 * j + 1) hlt
              rw [← H1.out] at e1
              rw [← H2.out] at e2
              rw [e1, e2] at hh
              simp at hh
            go_roundw
            case rel => exact ⟨j + 1, by have := HM.out; omega, by go_num, .inr ⟨rfl, hF⟩, below_drewN hbel _⟩
            case measure => have := HM.out; simp [intOf]; omega
          · have hh : (!hxi x1) = false ∧ (!hxi x2) = false := by assumption
            have hT : ∀ i (h : i < s.size), i < 2 * (j + 1) → hxi ((s[i]'h).toNat : Int) = true := by
              intro i h hi
              by_cases e1 : i = 2 * j
              · subst e1
                rw [← H1.out]; simpa using hh.1
              · by_cases e2 : i = 2 * j + 1
                · subst e2
                  rw [← H2.out]; simpa using hh.2
                · exact HP.out i h (by omega)
            go_roundw
            case rel => exact ⟨j + 1, by have := HM.out; omega, by go_num, .inl ⟨rfl, hT⟩, below_drewN hbel _⟩
            case measure => have := HM.out; simp [intOf]; omega
        · have hT : hexL s.data.toList = true := by
            rw [hexL_iff]
            intro i h
            exact HP.out i h (by have := HM.out; omega)
          have e1 : idb s = true := by rw [E.out]; exact hT
          have e2 : idb (rev s) = true := by rw [E'.out]; exact hT
          have y1 : ¬ 2 * (j : Int) + 1 < (s.size : Int) := by omega
          have y3 : 2 * (j : Int) ≤ (s.size : Int) := by have := HM.out; omega
          clear hT hlt
          go_wp2_with fail
          refine (id_any _ _).mono ?_
          rintro e w1 ⟨rfl, b1⟩
          go_wp2_with fail
          refine (rev_any _ _ HN.out).mono ?_
          rintro e w2 ⟨rfl, b2⟩
          go_wp2_with fail
          refine (id_any _ _).mono ?_
          rintro e w3 ⟨rfl, b3⟩
          have q : Below w.heap.size w w3 := ((hbel.trans (b1.mono hbel.size)).trans (b2.mono (Nat.le_trans hbel.size b1.size))).trans (b3.mono (Nat.le_trans hbel.size (Nat.le_trans b1.size b2.size)))
          go_wp2
          go_ret
          exact ⟨rfl, q⟩
      · have e1 : idb s = false := by rw [E.out]; exact hF
        have e2 : idb (rev s) = false := by rw [E'.out]; exact hF
        clear hF
        go_wp2_with fail
        refine (id_any _ _).mono ?_
        rintro e w1 ⟨rfl, b1⟩
        go_wp2_with fail
        refine (rev_any _ _ HN.out).mono ?_
        rintro e w2 ⟨rfl, b2⟩
        go_wp2_with fail
        refine (id_any _ _).mono ?_
        rintro e w3 ⟨rfl, b3⟩
        have q : Below w.heap.size w w3 := ((hbel.trans (b1.mono hbel.size)).trans (b2.mono (Nat.le_trans hbel.size b1.size))).trans (b3.mono (Nat.le_trans hbel.size (Nat.le_trans b1.size b2.size)))
        go_wp2
        go_ret
        exact ⟨rfl, q⟩

theorem law (s : ByteArray) (w : World) (h : s.size ≤ 9223372036854775807) : Calls Try.prog 4 #[.string s] w fun e w' => e = .returned (.bool true) ∧ Below w.heap.size w w' := by
  by_cases hb : s.size ≤ 1048576
  · by_cases h1 : s.size = 40
    · exact lawB s w 20 (by omega) (.inl h1)
    · by_cases h2 : s.size = 64
      · exact lawB s w 32 (by omega) (.inr h2)
      · exact lawA s w hb h1 h2
  · exact lawOut s w h (by omega)

end Go.Proofs.Qxb6630254a
