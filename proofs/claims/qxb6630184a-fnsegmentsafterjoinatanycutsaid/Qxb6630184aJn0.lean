/-
  OUR OWN TEXT (by an AI prover). The walk of FnSegmentsAfterJoinAtAnyCut (3): the list is empty; the cut lies outside the list.
-/
import Derived.Test.Qxb6630184aShr
import Derived.Test.Qxb6630184aHits
namespace Go.Proofs.Qxb6630184a
open Go.RowKit

set_option maxRecDepth 10000 in
set_option maxHeartbeats 1600000 in
theorem jn0n (ac : Option Addr) (nc cc : Nat) (C : Nat → Int) (at' : Option Addr) (nt ct : Nat) (S : Nat → ByteArray) (l : Bool) (lsn : Int) (w : World)
    (vc : View w ac nc cc C) (vt : SView w at' nt ct S) (hl0 : 0 ≤ lsn) (hl1 : lsn ≤ 18446744073709551615) :
    Calls Try.prog 3 #[.slice ac nc cc, .slice none 0 0, .slice at' nt ct, .bool l, .int .u64 lsn, .int .i64 0] w fun e w' => e = .returned (.bool true) ∧ Below w.heap.size w w' := by
  have mc := vc.max
  have mc' := vc.le
  have mt := vt.max
  have mt' := vt.le
  have q22 : ∀ (w : World) (a : Option Addr) (n c n' c' : Nat), (binOp .neq 22 (.slice a n c) (.slice none n' c')).run Try.prog w = .ok (.bool (!a.isNone)) w := fun w a n c n' c' => run_neq_slice_nil_any w _ _ a n c n' c' Try.underlying22
  have q23 : ∀ (w : World) (a : Option Addr) (n c n' c' : Nat), (binOp .neq 23 (.slice a n c) (.slice none n' c')).run Try.prog w = .ok (.bool (!a.isNone)) w := fun w a n c n' c' => run_neq_slice_nil_any w _ _ a n c n' c' Try.underlying23
  go_enter Try.func3, Try.ntmps3
  go_upto_if 46 with (first | (go_at_call 5; refine (bytes5 _ _ _ _ _ _ _ _ _ S _ _ _ _ (by omega) (by omega) vt).mono ?_; rintro e w' ⟨⟨r, rfl⟩, hw⟩; obtain rfl := hw.symm) | (go_at_call 6; refine (small _ _ _ _ _ _ _ _ _ S _ (by omega) (by omega) vt).mono ?_; rintro e w' ⟨⟨r', rfl, hr⟩, hw⟩; obtain rfl := hw.symm))
  any_goals (go_ret; exact ⟨rfl, Below.refl _ _⟩)
  have hr'' : r' = true := by
    have h : (!r') = false := by assumption
    simpa using h
  have HK : Hid (nc ≤ 131072 ∧ 0 ≤ 131072 ∧ nt ≤ 65536) := hr hr''
  clear hr
  subst hr''
  obtain ⟨i24, hi24, hz24, hs24, hby24⟩ := info_parts Try.info24
  obtain ⟨i9, hi9, hz9, hs9, hby9⟩ := info_parts Try.info9
  go_cut [0] (fun c wx => ∃ a n cap, c = .slice a n cap ∧ Below w.heap.size w wx)
  case first =>
    rcases ac with _ | x
    · go_wp2
      go_meet
      case rel => exact ⟨_, _, _, rfl, Below.refl _ _⟩
    · go_wp2_with (first
        | (at_make; refine wpList_make_full _ rfl _ _ 22 rfl w.heap.size 24 i24 (.int .u64 0) 1 Try.underlying22 hi24 hz24 hs24 _ _ _ _ nc rfl rfl rfl rfl (by rw [hby24]; have := HK.out; omega) (by unfold maxLen; omega) (Nat.le_refl _) ?_; intro w1 hown hgrow; obtain ⟨cur, hcl, hcur⟩ := row_made hown rfl; have HCur : Hid ((w1.heap[w.heap.size]? = some (.cells cur.toArray 24 (0, 0))) ∧ cur.length = nc) := ⟨hcur, hcl⟩; clear hcur hcl hown)
        | (show wpList _ _ _ (Oper.mk (some 52) _ _ _ _ _ :: _) _ _; refine wpList_copy_splice rfl (.tmp 50) (.tmp 51) 22 22 rfl 24 Try.underlying22 (by rw [hi24]; simp [hs24]) _ _ _ _ _ _ rfl rfl w.heap.size 0 cur 24 HCur.out.1 (ints C nc) (by rw [ints_length]; exact (Nat.min_self nc).symm) (src_ints vc (bgrown0 (Below.refl w.heap.size w) hgrow (Below.refl w.heap.size w).size)) (by rw [ints_length]; have := HCur.out.2; omega) (ints_one _ _) w.heap.size w (bgrown0 (Below.refl w.heap.size w) hgrow (Below.refl w.heap.size w).size) (Below.refl w.heap.size w).size ?_; intro w2 HG hb2))
      go_meet
      case rel => exact ⟨_, _, _, rfl, hb2⟩
  case rest =>
    obtain ⟨a0, n0, c0, rfl, hb0⟩ := hcut
    clear vc mc mc'
    go_upto_if 55 with fail
    go_cut [1] (fun s wx => s = .slice none 0 0 ∧ Below w.heap.size w wx)
    case first =>
      go_wp2
      go_meet
      case rel => exact ⟨rfl, hb0⟩
    case rest =>
      obtain ⟨rfl, hb1⟩ := hcut
      clear hb0
      go_upto_if 64 with fail
      go_cut [2] (fun s wx => ∃ a m c, s = .slice a m c ∧ Below w.heap.size w wx)
      case first =>
        rcases at' with _ | x
        · go_wp2
          go_meet
          case rel => exact ⟨_, _, _, rfl, hb1⟩
        · have vt0 := vt.below hb1
          go_wp2_with (first
            | (at_make; refine wpList_make_full _ rfl _ _ 23 rfl wc.heap.size 9 i9 (.string ByteArray.empty) 1 Try.underlying23 hi9 hz9 hs9 _ _ _ _ nt rfl rfl rfl rfl (by rw [hby9]; have := HK.out; omega) (by unfold maxLen; omega) (Nat.le_refl _) ?_; intro w1 hown hgrow; obtain ⟨cur, hcl, hcur⟩ := row_made hown rfl; have HCur : Hid ((w1.heap[wc.heap.size]? = some (.cells cur.toArray 9 (0, 0))) ∧ cur.length = nt) := ⟨hcur, hcl⟩; clear hcur hcl hown)
            | (show wpList _ _ _ (Oper.mk (some 70) _ _ _ _ _ :: _) _ _; refine wpList_copy_splice rfl (.tmp 68) (.tmp 69) 23 23 rfl 9 Try.underlying23 (by rw [hi9]; simp [hs9]) _ _ _ _ _ _ rfl rfl wc.heap.size 0 cur 9 HCur.out.1 (strings S nt) (by rw [strings_length]; exact (Nat.min_self nt).symm) (src_strings vt0 (bgrown0 (Below.refl wc.heap.size wc) hgrow (Nat.le_refl _))) (by rw [strings_length]; have := HCur.out.2; omega) (strings_one _ _) wc.heap.size wc (bgrown0 (Below.refl wc.heap.size wc) hgrow (Nat.le_refl _)) (Nat.le_refl _) ?_; intro w2 HG hb2))
          go_meet
          case rel => exact ⟨_, _, _, rfl, hb1.trans (hb2.mono hb1.size)⟩
      case rest =>
        obtain ⟨a2, n2, c2, rfl, hb2⟩ := hcut
        clear hb1 vt mt mt'
        go_wp2_with fail
        refine (segs0 _ _ _ _ _ _ _ _ _ _ _ (by omega) (by omega) (by omega)).mono ?_
        rintro e w1 ⟨x1, c1, rfl, hc1, hx1⟩
        go_wp2_with fail
        refine (segs0 _ _ _ _ _ _ _ _ _ _ _ (by omega) (by omega) (by omega)).mono ?_
        rintro e w2 ⟨x2, c2, rfl, hc2, hx2⟩
        go_wp2_with fail
        refine (segs0 _ _ _ _ _ _ _ _ _ _ _ (by omega) (by omega) (by omega)).mono ?_
        rintro e w3 ⟨x3, c3, rfl, hc3, hx3⟩
        have hB3 : Below w.heap.size w w3 := ((hb2.trans (hx1.mono hb2.size)).trans (hx2.mono (Nat.le_trans hb2.size hx1.size))).trans (hx3.mono (Nat.le_trans hb2.size (Nat.le_trans hx1.size hx2.size)))
        go_wp2
        go_ret
        exact ⟨rfl, hB3⟩

set_option maxRecDepth 10000 in
set_option maxHeartbeats 1600000 in
theorem jn0s (ac : Option Addr) (nc cc : Nat) (C : Nat → Int) (x : Addr) (cap : Nat) (Z : Nat → Int) (at' : Option Addr) (nt ct : Nat) (S : Nat → ByteArray) (l : Bool) (lsn : Int) (w : World)
    (vc : View w ac nc cc C) (vz : View w (some x) 0 cap Z) (vt : SView w at' nt ct S) (hl0 : 0 ≤ lsn) (hl1 : lsn ≤ 18446744073709551615) :
    Calls Try.prog 3 #[.slice ac nc cc, .slice (some x) 0 cap, .slice at' nt ct, .bool l, .int .u64 lsn, .int .i64 0] w fun e w' => e = .returned (.bool true) ∧ Below w.heap.size w w' := by
  have mc := vc.max
  have mc' := vc.le
  have mz := vz.max
  have mt := vt.max
  have mt' := vt.le
  have q22 : ∀ (w : World) (a : Option Addr) (n c n' c' : Nat), (binOp .neq 22 (.slice a n c) (.slice none n' c')).run Try.prog w = .ok (.bool (!a.isNone)) w := fun w a n c n' c' => run_neq_slice_nil_any w _ _ a n c n' c' Try.underlying22
  have q23 : ∀ (w : World) (a : Option Addr) (n c n' c' : Nat), (binOp .neq 23 (.slice a n c) (.slice none n' c')).run Try.prog w = .ok (.bool (!a.isNone)) w := fun w a n c n' c' => run_neq_slice_nil_any w _ _ a n c n' c' Try.underlying23
  go_enter Try.func3, Try.ntmps3
  go_upto_if 46 with (first | (go_at_call 5; refine (bytes5 _ _ _ _ _ _ _ _ _ S _ _ _ _ (by omega) (by omega) vt).mono ?_; rintro e w' ⟨⟨r, rfl⟩, hw⟩; obtain rfl := hw.symm) | (go_at_call 6; refine (small _ _ _ _ _ _ _ _ _ S _ (by omega) (by omega) vt).mono ?_; rintro e w' ⟨⟨r', rfl, hr⟩, hw⟩; obtain rfl := hw.symm))
  any_goals (go_ret; exact ⟨rfl, Below.refl _ _⟩)
  have hr'' : r' = true := by
    have h : (!r') = false := by assumption
    simpa using h
  have HK : Hid (nc ≤ 131072 ∧ 0 ≤ 131072 ∧ nt ≤ 65536) := hr hr''
  clear hr
  subst hr''
  obtain ⟨i24, hi24, hz24, hs24, hby24⟩ := info_parts Try.info24
  obtain ⟨i9, hi9, hz9, hs9, hby9⟩ := info_parts Try.info9
  go_cut [0] (fun c wx => ∃ a n cap, c = .slice a n cap ∧ Below w.heap.size w wx)
  case first =>
    rcases ac with _ | x
    · go_wp2
      go_meet
      case rel => exact ⟨_, _, _, rfl, Below.refl _ _⟩
    · go_wp2_with (first
        | (at_make; refine wpList_make_full _ rfl _ _ 22 rfl w.heap.size 24 i24 (.int .u64 0) 1 Try.underlying22 hi24 hz24 hs24 _ _ _ _ nc rfl rfl rfl rfl (by rw [hby24]; have := HK.out; omega) (by unfold maxLen; omega) (Nat.le_refl _) ?_; intro w1 hown hgrow; obtain ⟨cur, hcl, hcur⟩ := row_made hown rfl; have HCur : Hid ((w1.heap[w.heap.size]? = some (.cells cur.toArray 24 (0, 0))) ∧ cur.length = nc) := ⟨hcur, hcl⟩; clear hcur hcl hown)
        | (show wpList _ _ _ (Oper.mk (some 52) _ _ _ _ _ :: _) _ _; refine wpList_copy_splice rfl (.tmp 50) (.tmp 51) 22 22 rfl 24 Try.underlying22 (by rw [hi24]; simp [hs24]) _ _ _ _ _ _ rfl rfl w.heap.size 0 cur 24 HCur.out.1 (ints C nc) (by rw [ints_length]; exact (Nat.min_self nc).symm) (src_ints vc (bgrown0 (Below.refl w.heap.size w) hgrow (Below.refl w.heap.size w).size)) (by rw [ints_length]; have := HCur.out.2; omega) (ints_one _ _) w.heap.size w (bgrown0 (Below.refl w.heap.size w) hgrow (Below.refl w.heap.size w).size) (Below.refl w.heap.size w).size ?_; intro w2 HG hb2))
      go_meet
      case rel => exact ⟨_, _, _, rfl, hb2⟩
  case rest =>
    obtain ⟨a0, n0, c0, rfl, hb0⟩ := hcut
    clear vc mc mc'
    go_upto_if 55 with fail
    go_cut [1] (fun s wx => ∃ g, s = .slice (some ⟨g, 0, none⟩) 0 0 ∧ Below w.heap.size w wx)
    case first =>
      have vz0 := vz.below hb0
      go_wp2_with (first
        | (at_make; refine wpList_make_full _ rfl _ _ 22 rfl wc.heap.size 24 i24 (.int .u64 0) 1 Try.underlying22 hi24 hz24 hs24 _ _ _ _ 0 rfl rfl rfl rfl (by rw [hby24]; have := HK.out; omega) (by unfold maxLen; omega) (Nat.le_refl _) ?_; intro w1 hown hgrow; obtain ⟨cur, hcl, hcur⟩ := row_made hown rfl; have HCur : Hid ((w1.heap[wc.heap.size]? = some (.cells cur.toArray 24 (0, 0))) ∧ cur.length = 0) := ⟨hcur, hcl⟩; clear hcur hcl hown)
        | (show wpList _ _ _ (Oper.mk (some 61) _ _ _ _ _ :: _) _ _; refine wpList_copy_splice rfl (.tmp 59) (.tmp 60) 22 22 rfl 24 Try.underlying22 (by rw [hi24]; simp [hs24]) _ _ _ _ _ _ rfl rfl wc.heap.size 0 cur 24 HCur.out.1 (ints Z 0) (by rw [ints_length]; exact (Nat.min_self 0).symm) (src_ints vz0 (bgrown0 (Below.refl wc.heap.size wc) hgrow (Nat.le_refl _))) (by rw [ints_length]; have := HCur.out.2; omega) (ints_one _ _) w.heap.size w (bgrown0 (hb0) hgrow (hb0).size) (hb0).size ?_; intro w2 HG hb2))
      go_meet
      case rel => exact ⟨_, rfl, hb2⟩
    case rest =>
      obtain ⟨g, rfl, hb1⟩ := hcut
      clear vz hb0
      go_upto_if 64 with fail
      go_cut [2] (fun s wx => ∃ a m c, s = .slice a m c ∧ Below w.heap.size w wx)
      case first =>
        rcases at' with _ | x
        · go_wp2
          go_meet
          case rel => exact ⟨_, _, _, rfl, hb1⟩
        · have vt0 := vt.below hb1
          go_wp2_with (first
            | (at_make; refine wpList_make_full _ rfl _ _ 23 rfl wc.heap.size 9 i9 (.string ByteArray.empty) 1 Try.underlying23 hi9 hz9 hs9 _ _ _ _ nt rfl rfl rfl rfl (by rw [hby9]; have := HK.out; omega) (by unfold maxLen; omega) (Nat.le_refl _) ?_; intro w1 hown hgrow; obtain ⟨cur, hcl, hcur⟩ := row_made hown rfl; have HCur : Hid ((w1.heap[wc.heap.size]? = some (.cells cur.toArray 9 (0, 0))) ∧ cur.length = nt) := ⟨hcur, hcl⟩; clear hcur hcl hown)
            | (show wpList _ _ _ (Oper.mk (some 70) _ _ _ _ _ :: _) _ _; refine wpList_copy_splice rfl (.tmp 68) (.tmp 69) 23 23 rfl 9 Try.underlying23 (by rw [hi9]; simp [hs9]) _ _ _ _ _ _ rfl rfl wc.heap.size 0 cur 9 HCur.out.1 (strings S nt) (by rw [strings_length]; exact (Nat.min_self nt).symm) (src_strings vt0 (bgrown0 (Below.refl wc.heap.size wc) hgrow (Nat.le_refl _))) (by rw [strings_length]; have := HCur.out.2; omega) (strings_one _ _) wc.heap.size wc (bgrown0 (Below.refl wc.heap.size wc) hgrow (Nat.le_refl _)) (Nat.le_refl _) ?_; intro w2 HG hb2))
          go_meet
          case rel => exact ⟨_, _, _, rfl, hb1.trans (hb2.mono hb1.size)⟩
      case rest =>
        obtain ⟨a2, n2, c2, rfl, hb2⟩ := hcut
        clear hb1 vt mt mt'
        go_wp2_with fail
        refine (segs0 _ _ _ _ _ _ _ _ _ _ _ (by omega) (by omega) (by omega)).mono ?_
        rintro e w1 ⟨x1, c1, rfl, hc1, hx1⟩
        go_wp2_with fail
        refine (segs0 _ _ _ _ _ _ _ _ _ _ _ (by omega) (by omega) (by omega)).mono ?_
        rintro e w2 ⟨x2, c2, rfl, hc2, hx2⟩
        go_wp2_with fail
        refine (segs0 _ _ _ _ _ _ _ _ _ _ _ (by omega) (by omega) (by omega)).mono ?_
        rintro e w3 ⟨x3, c3, rfl, hc3, hx3⟩
        have hB3 : Below w.heap.size w w3 := ((hb2.trans (hx1.mono hb2.size)).trans (hx2.mono (Nat.le_trans hb2.size hx1.size))).trans (hx3.mono (Nat.le_trans hb2.size (Nat.le_trans hx1.size hx2.size)))
        go_wp2
        go_ret
        exact ⟨rfl, hB3⟩

set_option maxRecDepth 10000 in
set_option maxHeartbeats 1600000 in
theorem jnOut (ac : Option Addr) (nc cc : Nat) (C : Nat → Int) (a : Option Addr) (n cap : Nat) (Z : Nat → Int) (at' : Option Addr) (nt ct : Nat) (S : Nat → ByteArray) (l : Bool) (lsn cut : Int) (w : World)
    (vc : View w ac nc cc C) (vz : View w a n cap Z) (vt : SView w at' nt ct S) (hcut : cut < 0 ∨ (n : Int) < cut) :
    Calls Try.prog 3 #[.slice ac nc cc, .slice a n cap, .slice at' nt ct, .bool l, .int .u64 lsn, .int .i64 cut] w fun e w' => e = .returned (.bool true) ∧ Below w.heap.size w w' := by
  have mc := vc.max
  have mc' := vc.le
  have mz := vz.max
  have mz' := vz.le
  rcases hcut with hcut | hcut
  · go_enter Try.func3, Try.ntmps3
    go_wp2_with (first | (go_at_call 5; refine (bytes5 _ _ _ _ _ _ _ _ _ S _ _ _ _ (by omega) (by omega) vt).mono ?_; rintro e w' ⟨⟨r, rfl⟩, hw⟩; obtain rfl := hw.symm) | (go_at_call 6; refine (small _ _ _ _ _ _ _ _ _ S _ (by omega) (by omega) vt).mono ?_; rintro e w' ⟨⟨r', rfl, hr⟩, hw⟩; obtain rfl := hw.symm))
    all_goals (go_ret; exact ⟨rfl, Below.refl _ _⟩)
  · have h0 : ¬ cut < 0 := by omega
    go_enter Try.func3, Try.ntmps3
    go_wp2_with (first | (go_at_call 5; refine (bytes5 _ _ _ _ _ _ _ _ _ S _ _ _ _ (by omega) (by omega) vt).mono ?_; rintro e w' ⟨⟨r, rfl⟩, hw⟩; obtain rfl := hw.symm) | (go_at_call 6; refine (small _ _ _ _ _ _ _ _ _ S _ (by omega) (by omega) vt).mono ?_; rintro e w' ⟨⟨r', rfl, hr⟩, hw⟩; obtain rfl := hw.symm))
    all_goals (go_ret; exact ⟨rfl, Below.refl _ _⟩)

end Go.Proofs.Qxb6630184a
