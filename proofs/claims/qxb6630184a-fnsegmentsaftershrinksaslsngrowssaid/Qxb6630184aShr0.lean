/-
  OUR OWN TEXT (by an AI prover). The walk of FnSegmentsAfterShrinksAsLSNGrows (4) where the list of segments is empty.
-/
import Derived.Test.Qxb6630184aShr
namespace Go.Proofs.Qxb6630184a
open Go.RowKit

set_option maxRecDepth 10000 in
set_option maxHeartbeats 1600000 in
theorem shr0 (ac : Option Addr) (nc cc : Nat) (C : Nat → Int) (a : Option Addr) (cap : Nat) (Z : Nat → Int) (at' : Option Addr) (nt ct : Nat) (S : Nat → ByteArray) (l : Bool) (lo hi : Int) (w : World)
    (vc : View w ac nc cc C) (vz : View w a 0 cap Z) (vt : SView w at' nt ct S) (hlo0 : 0 ≤ lo) (hlo1 : lo ≤ 18446744073709551615) (hhi0 : 0 ≤ hi) (hhi1 : hi ≤ 18446744073709551615) :
    Calls Try.prog 4 #[.slice ac nc cc, .slice a 0 cap, .slice at' nt ct, .bool l, .int .u64 lo, .int .u64 hi] w fun e w' => e = .returned (.bool true) ∧ Below w.heap.size w w' := by
  have mc := vc.max
  have mc' := vc.le
  have mz := vz.max
  have mt := vt.max
  have mt' := vt.le
  have q22 : ∀ (w : World) (a : Option Addr) (n c n' c' : Nat), (binOp .neq 22 (.slice a n c) (.slice none n' c')).run Try.prog w = .ok (.bool (!a.isNone)) w := fun w a n c n' c' => run_neq_slice_nil_any w _ _ a n c n' c' Try.underlying22
  have q23 : ∀ (w : World) (a : Option Addr) (n c n' c' : Nat), (binOp .neq 23 (.slice a n c) (.slice none n' c')).run Try.prog w = .ok (.bool (!a.isNone)) w := fun w a n c n' c' => run_neq_slice_nil_any w _ _ a n c n' c' Try.underlying23
  go_enter Try.func4, Try.ntmps4
  go_upto_if 37 with (first | (go_at_call 11; refine (bytes11 _ _ _ _ _ _ _ _ _ S _ _ _ _ (by omega) (by omega) vt).mono ?_; rintro e w' ⟨⟨r, rfl⟩, hw⟩; obtain rfl := hw.symm) | (go_at_call 6; refine (small _ _ _ _ _ _ _ _ _ S _ (by omega) (by omega) vt).mono ?_; rintro e w' ⟨⟨r', rfl, hr⟩, hw⟩; obtain rfl := hw.symm))
  any_goals (go_ret; exact ⟨rfl, Below.refl _ _⟩)
  have hr'' : r' = true := by
    have h : (!r') = false := by assumption
    simpa using h
  have HK : Hid (nc ≤ 131072 ∧ 0 ≤ 131072 ∧ nt ≤ 65536) := hr hr''
  clear hr
  subst hr''
  obtain ⟨i24, hi24, hz24, hs24, hby24⟩ := info_parts Try.info24
  obtain ⟨i9, hi9, hz9, hs9, hby9⟩ := info_parts Try.info9
  go_cut [0] (fun c wx => ∃ a n cap, c = .slice a n cap ∧ Below w.heap.size w wx)
  case first =>
    rcases ac with _ | x
    · go_wp2
      go_meet
      case rel => exact ⟨_, _, _, rfl, Below.refl _ _⟩
    · go_wp2_with (first
        | (at_make; refine wpList_make_full _ rfl _ _ 22 rfl w.heap.size 24 i24 (.int .u64 0) 1 Try.underlying22 hi24 hz24 hs24 _ _ _ _ nc rfl rfl rfl rfl (by rw [hby24]; have := HK.out; omega) (by unfold maxLen; omega) (Nat.le_refl _) ?_; intro w1 hown hgrow; obtain ⟨cur, hcl, hcur⟩ := row_made hown rfl; have HCur : Hid ((w1.heap[w.heap.size]? = some (.cells cur.toArray 24 (0, 0))) ∧ cur.length = nc) := ⟨hcur, hcl⟩; clear hcur hcl hown)
        | (show wpList _ _ _ (Oper.mk (some 43) _ _ _ _ _ :: _) _ _; refine wpList_copy_splice rfl (.tmp 41) (.tmp 42) 22 22 rfl 24 Try.underlying22 (by rw [hi24]; simp [hs24]) _ _ _ _ _ _ rfl rfl w.heap.size 0 cur 24 HCur.out.1 (ints C nc) (by rw [ints_length]; exact (Nat.min_self nc).symm) (src_ints vc (bgrown0 (Below.refl w.heap.size w) hgrow (Below.refl w.heap.size w).size)) (by rw [ints_length]; have := HCur.out.2; omega) (ints_one _ _) w.heap.size w (bgrown0 (Below.refl w.heap.size w) hgrow (Below.refl w.heap.size w).size) (Below.refl w.heap.size w).size ?_; intro w2 HG hb2))
      go_meet
      case rel => exact ⟨_, _, _, rfl, hb2⟩
  case rest =>
    obtain ⟨a0, n0, c0, rfl, hb0⟩ := hcut
    clear vc mc mc'
    go_upto_if 46 with fail
    go_cut [1] (fun s wx => ∃ x c, s = .slice x 0 c ∧ c ≤ 9223372036854775807 ∧ Below w.heap.size w wx)
    case first =>
      rcases a with _ | x
      · go_wp2
        go_meet
        case rel => exact ⟨_, _, rfl, mz, hb0⟩
      · have vz0 := vz.below hb0
        go_wp2_with (first
          | (at_make; refine wpList_make_full _ rfl _ _ 22 rfl wc.heap.size 24 i24 (.int .u64 0) 1 Try.underlying22 hi24 hz24 hs24 _ _ _ _ 0 rfl rfl rfl rfl (by rw [hby24]; have := HK.out; omega) (by unfold maxLen; omega) (Nat.le_refl _) ?_; intro w1 hown hgrow; obtain ⟨cur, hcl, hcur⟩ := row_made hown rfl; have HCur : Hid ((w1.heap[wc.heap.size]? = some (.cells cur.toArray 24 (0, 0))) ∧ cur.length = 0) := ⟨hcur, hcl⟩; clear hcur hcl hown)
          | (show wpList _ _ _ (Oper.mk (some 52) _ _ _ _ _ :: _) _ _; refine wpList_copy_splice rfl (.tmp 50) (.tmp 51) 22 22 rfl 24 Try.underlying22 (by rw [hi24]; simp [hs24]) _ _ _ _ _ _ rfl rfl wc.heap.size 0 cur 24 HCur.out.1 (ints Z 0) (by rw [ints_length]; exact (Nat.min_self 0).symm) (src_ints vz0 (bgrown0 (Below.refl wc.heap.size wc) hgrow (Nat.le_refl _))) (by rw [ints_length]; have := HCur.out.2; omega) (ints_one _ _) w.heap.size w (bgrown0 (hb0) hgrow (hb0).size) (hb0).size ?_; intro w2 HG hb2))
        go_meet
        case rel => exact ⟨_, _, rfl, by omega, hb2⟩
    case rest =>
      obtain ⟨g, cg, rfl, hcg, hb1⟩ := hcut
      clear vz hb0 mz
      go_upto_if 55 with fail
      go_cut [2] (fun s wx => ∃ a m c, s = .slice a m c ∧ Below w.heap.size w wx)
      case first =>
        rcases at' with _ | x
        · go_wp2
          go_meet
          case rel => exact ⟨_, _, _, rfl, hb1⟩
        · have vt0 := vt.below hb1
          go_wp2_with (first
            | (at_make; refine wpList_make_full _ rfl _ _ 23 rfl wc.heap.size 9 i9 (.string ByteArray.empty) 1 Try.underlying23 hi9 hz9 hs9 _ _ _ _ nt rfl rfl rfl rfl (by rw [hby9]; have := HK.out; omega) (by unfold maxLen; omega) (Nat.le_refl _) ?_; intro w1 hown hgrow; obtain ⟨cur, hcl, hcur⟩ := row_made hown rfl; have HCur : Hid ((w1.heap[wc.heap.size]? = some (.cells cur.toArray 9 (0, 0))) ∧ cur.length = nt) := ⟨hcur, hcl⟩; clear hcur hcl hown)
            | (show wpList _ _ _ (Oper.mk (some 61) _ _ _ _ _ :: _) _ _; refine wpList_copy_splice rfl (.tmp 59) (.tmp 60) 23 23 rfl 9 Try.underlying23 (by rw [hi9]; simp [hs9]) _ _ _ _ _ _ rfl rfl wc.heap.size 0 cur 9 HCur.out.1 (strings S nt) (by rw [strings_length]; exact (Nat.min_self nt).symm) (src_strings vt0 (bgrown0 (Below.refl wc.heap.size wc) hgrow (Nat.le_refl _))) (by rw [strings_length]; have := HCur.out.2; omega) (strings_one _ _) wc.heap.size wc (bgrown0 (Below.refl wc.heap.size wc) hgrow (Nat.le_refl _)) (Nat.le_refl _) ?_; intro w2 HG hb2))
          go_meet
          case rel => exact ⟨_, _, _, rfl, hb1.trans (hb2.mono hb1.size)⟩
      case rest =>
        obtain ⟨a2, n2, c2, rfl, hb2⟩ := hcut
        clear hb1 vt mt mt'
        go_upto_if 65 with fail
        go_cut [4, 5] (fun s t wx => ∃ p q, s = .int .u64 p ∧ t = .int .u64 q ∧ 0 ≤ p ∧ p ≤ q ∧ q ≤ 18446744073709551615 ∧ wx = wc)
        case first =>
          by_cases hlh : hi < lo
          · go_wp2
            go_meet
            case rel => exact ⟨_, _, rfl, rfl, by omega, by omega, by omega, rfl⟩
          · go_wp2
            go_meet
            case rel => exact ⟨_, _, rfl, rfl, by omega, by omega, by omega, rfl⟩
        case rest =>
          obtain ⟨p, q, rfl, rfl, hp0, hpq, hq1, hwx⟩ := hcut
          rw [← hwx] at hb2
          clear hwx hlo0 hlo1 hhi0 hhi1
          cases hqm : (q == 18446744073709551615)
          · go_wp2_with fail
            refine (segs0 _ _ _ _ _ _ _ _ _ _ _ hcg (by omega) (by omega)).mono ?_
            rintro e w1 ⟨x1, c1, rfl, hc1, hx1⟩
            go_wp2_with fail
            refine (segs0 _ _ _ _ _ _ _ _ _ _ _ hcg (by omega) (by omega)).mono ?_
            rintro e w2 ⟨x2, c2, rfl, hc2, hx2⟩
            go_wp2_with fail
            refine (segs0 _ _ _ _ _ _ _ _ _ _ _ hc1 (by omega) (by omega)).mono ?_
            rintro e w3 ⟨x3, c3, rfl, hc3, hx3⟩
            have hB3 : Below w.heap.size w w3 := ((hb2.trans (hx1.mono hb2.size)).trans (hx2.mono (Nat.le_trans hb2.size hx1.size))).trans (hx3.mono (Nat.le_trans hb2.size (Nat.le_trans hx1.size hx2.size)))
            go_wp2
            go_ret
            exact ⟨rfl, hB3⟩
          · go_wp2
            go_ret
            exact ⟨rfl, hb2⟩

end Go.Proofs.Qxb6630184a
