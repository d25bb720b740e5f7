/-
  OUR OWN TEXT (by an AI prover). The walk of FnSegmentsAfterJoinAtAnyCut (3): the cut lies at the beginning.
-/
import Derived.Test.Qxb6630184aShr
import Derived.Test.Qxb6630184aHits
namespace Go.Proofs.Qxb6630184a
open Go.RowKit

set_option maxRecDepth 10000 in
set_option maxHeartbeats 1600000 in
theorem jnB (ac : Option Addr) (nc cc : Nat) (C : Nat → Int) (b off n cap : Nat) (Z : Nat → Int) (at' : Option Addr) (nt ct : Nat) (S : Nat → ByteArray) (l : Bool) (lsn : Int) (w : World)
    (vc : View w ac nc cc C) (vz : View w (some ⟨b, off, none⟩) n cap Z) (hn : 0 < n) (vt : SView w at' nt ct S) (hl0 : 0 ≤ lsn) (hl1 : lsn ≤ 18446744073709551615) :
    Calls Try.prog 3 #[.slice ac nc cc, .slice (some ⟨b, off, none⟩) n cap, .slice at' nt ct, .bool l, .int .u64 lsn, .int .i64 0] w fun e w' => e = .returned (.bool true) ∧ Below w.heap.size w w' := by
  have mc := vc.max
  have mc' := vc.le
  have mz := vz.max
  have mz' := vz.le
  have mt := vt.max
  have mt' := vt.le
  have q22 : ∀ (w : World) (a : Option Addr) (n c n' c' : Nat), (binOp .neq 22 (.slice a n c) (.slice none n' c')).run Try.prog w = .ok (.bool (!a.isNone)) w := fun w a n c n' c' => run_neq_slice_nil_any w _ _ a n c n' c' Try.underlying22
  have q23 : ∀ (w : World) (a : Option Addr) (n c n' c' : Nat), (binOp .neq 23 (.slice a n c) (.slice none n' c')).run Try.prog w = .ok (.bool (!a.isNone)) w := fun w a n c n' c' => run_neq_slice_nil_any w _ _ a n c n' c' Try.underlying23
  go_enter Try.func3, Try.ntmps3
  go_upto_if 46 with (first | (go_at_call 5; refine (bytes5 _ _ _ _ _ _ _ _ _ S _ _ _ _ (by omega) (by omega) vt).mono ?_; rintro e w' ⟨⟨r, rfl⟩, hw⟩; obtain rfl := hw.symm) | (go_at_call 6; refine (small _ _ _ _ _ _ _ _ _ S _ (by omega) (by omega) vt).mono ?_; rintro e w' ⟨⟨r', rfl, hr⟩, hw⟩; obtain rfl := hw.symm))
  any_goals (go_ret; exact ⟨rfl, Below.refl _ _⟩)
  have hr'' : r' = true := by
    have h : (!r') = false := by assumption
    simpa using h
  have HK : Hid (nc ≤ 131072 ∧ n ≤ 131072 ∧ nt ≤ 65536) := hr hr''
  clear hr
  subst hr''
  obtain ⟨i24, hi24, hz24, hs24, hby24⟩ := info_parts Try.info24
  obtain ⟨i9, hi9, hz9, hs9, hby9⟩ := info_parts Try.info9
  go_cut [0] (fun c wx => ∃ a n cap, c = .slice a n cap ∧ Below w.heap.size w wx)
  case first =>
    rcases ac with _ | x
    · go_wp2
      go_meet
      case rel => exact ⟨_, _, _, rfl, Below.refl _ _⟩
    · go_wp2_with (first
        | (at_make; refine wpList_make_full _ rfl _ _ 22 rfl w.heap.size 24 i24 (.int .u64 0) 1 Try.underlying22 hi24 hz24 hs24 _ _ _ _ nc rfl rfl rfl rfl (by rw [hby24]; have := HK.out; omega) (by unfold maxLen; omega) (Nat.le_refl _) ?_; intro w1 hown hgrow; obtain ⟨cur, hcl, hcur⟩ := row_made hown rfl; have HCur : Hid ((w1.heap[w.heap.size]? = some (.cells cur.toArray 24 (0, 0))) ∧ cur.length = nc) := ⟨hcur, hcl⟩; clear hcur hcl hown)
        | (show wpList _ _ _ (Oper.mk (some 52) _ _ _ _ _ :: _) _ _; refine wpList_copy_splice rfl (.tmp 50) (.tmp 51) 22 22 rfl 24 Try.underlying22 (by rw [hi24]; simp [hs24]) _ _ _ _ _ _ rfl rfl w.heap.size 0 cur 24 HCur.out.1 (ints C nc) (by rw [ints_length]; exact (Nat.min_self nc).symm) (src_ints vc (bgrown0 (Below.refl w.heap.size w) hgrow (Below.refl w.heap.size w).size)) (by rw [ints_length]; have := HCur.out.2; omega) (ints_one _ _) w.heap.size w (bgrown0 (Below.refl w.heap.size w) hgrow (Below.refl w.heap.size w).size) (Below.refl w.heap.size w).size ?_; intro w2 HG hb2))
      go_meet
      case rel => exact ⟨_, _, _, rfl, hb2⟩
  case rest =>
    obtain ⟨a0, n0, c0, rfl, hb0⟩ := hcut
    clear vc mc mc'
    go_upto_if 55 with fail
    go_cut [1] (fun s wx => ∃ g, s = .slice (some ⟨g, 0, none⟩) n n ∧ View wx (some ⟨g, 0, none⟩) n n Z ∧ Below w.heap.size w wx)
    case first =>
      have vz0 := vz.below hb0
      go_wp2_with (first
        | (at_make; refine wpList_make_full _ rfl _ _ 22 rfl wc.heap.size 24 i24 (.int .u64 0) 1 Try.underlying22 hi24 hz24 hs24 _ _ _ _ n rfl rfl rfl rfl (by rw [hby24]; have := HK.out; omega) (by unfold maxLen; omega) (Nat.le_refl _) ?_; intro w1 hown hgrow; obtain ⟨cur, hcl, hcur⟩ := row_made hown rfl; have HCur : Hid ((w1.heap[wc.heap.size]? = some (.cells cur.toArray 24 (0, 0))) ∧ cur.length = n) := ⟨hcur, hcl⟩; clear hcur hcl hown)
        | (show wpList _ _ _ (Oper.mk (some 61) _ _ _ _ _ :: _) _ _; refine wpList_copy_splice rfl (.tmp 59) (.tmp 60) 22 22 rfl 24 Try.underlying22 (by rw [hi24]; simp [hs24]) _ _ _ _ _ _ rfl rfl wc.heap.size 0 cur 24 HCur.out.1 (ints Z n) (by rw [ints_length]; exact (Nat.min_self n).symm) (src_ints vz0 (bgrown0 (Below.refl wc.heap.size wc) hgrow (Nat.le_refl _))) (by rw [ints_length]; have := HCur.out.2; omega) (ints_one _ _) w.heap.size w (bgrown0 (hb0) hgrow (hb0).size) (hb0).size ?_; intro w2 HG hb2))
      go_meet
      case rel => exact ⟨_, rfl, view_made HG.out HCur.out.2 (by omega) vz.bd, hb2⟩
    case rest =>
      obtain ⟨g, rfl, vz1, hb1⟩ := hcut
      clear vz hb0
      go_upto_if 64 with fail
      go_cut [2] (fun s wx => ∃ a m c, s = .slice a m c ∧ View wx (some ⟨g, 0, none⟩) n n Z ∧ Below w.heap.size w wx)
      case first =>
        rcases at' with _ | x
        · go_wp2
          go_meet
          case rel => exact ⟨_, _, _, rfl, vz1, hb1⟩
        · have vt0 := vt.below hb1
          go_wp2_with (first
            | (at_make; refine wpList_make_full _ rfl _ _ 23 rfl wc.heap.size 9 i9 (.string ByteArray.empty) 1 Try.underlying23 hi9 hz9 hs9 _ _ _ _ nt rfl rfl rfl rfl (by rw [hby9]; have := HK.out; omega) (by unfold maxLen; omega) (Nat.le_refl _) ?_; intro w1 hown hgrow; obtain ⟨cur, hcl, hcur⟩ := row_made hown rfl; have HCur : Hid ((w1.heap[wc.heap.size]? = some (.cells cur.toArray 9 (0, 0))) ∧ cur.length = nt) := ⟨hcur, hcl⟩; clear hcur hcl hown)
            | (show wpList _ _ _ (Oper.mk (some 70) _ _ _ _ _ :: _) _ _; refine wpList_copy_splice rfl (.tmp 68) (.tmp 69) 23 23 rfl 9 Try.underlying23 (by rw [hi9]; simp [hs9]) _ _ _ _ _ _ rfl rfl wc.heap.size 0 cur 9 HCur.out.1 (strings S nt) (by rw [strings_length]; exact (Nat.min_self nt).symm) (src_strings vt0 (bgrown0 (Below.refl wc.heap.size wc) hgrow (Nat.le_refl _))) (by rw [strings_length]; have := HCur.out.2; omega) (strings_one _ _) wc.heap.size wc (bgrown0 (Below.refl wc.heap.size wc) hgrow (Nat.le_refl _)) (Nat.le_refl _) ?_; intro w2 HG hb2))
          go_meet
          case rel => exact ⟨_, _, _, rfl, vz1.below hb2, hb1.trans (hb2.mono hb1.size)⟩
      case rest =>
        obtain ⟨a2, n2, c2, rfl, vz2, hb2⟩ := hcut
        clear vz1 hb1 vt mt mt'
        go_upto_region 19 with fail
        go_cut [16] (fun s wx => s = .int .u64 (nxt lsn) ∧ wx = wc)
        case first =>
          by_cases ht : lsn = 18446744073709551615
          · subst ht
            clear hl0 hl1
            have hwr : IntKind.u64.wrap 18446744073709551616 = nxt 18446744073709551615 := by rw [nxt_top]; decide +kernel
            go_wp2
            go_meet
            case rel => exact ⟨rfl, rfl⟩
          · have e1 := nxt_of (lsn := lsn) (by omega)
            have e2 : Hid (nxt lsn = lsn + 1) := e1
            clear e1
            go_wp2
            go_meet
            case rel => exact ⟨by rw [e2.out], rfl⟩
        case rest =>
          obtain ⟨rfl, hwx⟩ := hcut
          rw [← hwx] at vz2 hb2
          clear hwx
          go_wp2_with fail
          refine (segsP _ _ _ _ _ _ Z _ _ _ _ _ _ vz2 hn (by omega) (by omega)).mono ?_
          rintro e w1 ⟨b1, o1, m1, c1, k1, rfl, hm1, hit1, v1, hx1⟩
          have vb := vz2.below hx1
          go_wp2_with fail
          refine (segs0 _ _ _ _ _ _ _ _ _ _ _ (by omega) (by omega) (by omega)).mono ?_
          rintro e w2 ⟨x2, c2, rfl, hc2, hx2⟩
          have vb := vb.below hx2
          go_wp2_with fail
          refine (segsP _ _ _ _ _ _ Z _ _ _ _ _ _ vb hn (by omega) (by omega)).mono ?_
          rintro e w3 ⟨b3, o3, mb, c3, kb, rfl, hmb, hitb, vfb, hx3⟩
          have HH : Hid (Hit Z n (nxt lsn) k1 ∧ Hit Z n (nxt lsn) kb) := ⟨hit1, hitb⟩
          have hk1 := hit1.1
          clear hit1 hitb
          have hB3 : Below w.heap.size w w3 := ((hb2.trans (hx1.mono hb2.size)).trans (hx2.mono (Nat.le_trans hb2.size hx1.size))).trans (hx3.mono (Nat.le_trans hb2.size (Nat.le_trans hx1.size hx2.size)))
          have u1 := (v1.below hx2).below hx3
          have uz := ((vz2.below hx1).below hx2).below hx3
          clear v1 vb vz2 hx1 hx2 hx3 hb2
          have hm1p : 0 < m1 := by omega
          go_wp2_with fail
          refine (tailv u1 uz hm1p (by omega) (by intro i _; rw [show n - m1 = k1 by omega])).mono ?_
          rintro e w4 ⟨rfl, hy1⟩
          have hB4 : Below w.heap.size w w4 := hB3.trans (hy1.mono hB3.size)
          have t1 := u1.below hy1
          have tfb := vfb.below hy1
          have tz := uz.below hy1
          clear u1 vfb uz hy1 hB3
          go_upto_region 31 with fail
          have HZ : Hid (∀ j, j < n → w4.cell? ⟨g, j, none⟩ = some (.int .u64 (Z j))) := by
            intro j hj
            rcases tz.at' with h0 | ⟨b', o', hx, _, hcc⟩
            · omega
            · cases hx
              have := hcc j hj
              rwa [Nat.zero_add] at this
          clear tz
          go_cut [137] (fun s wx => s = .bool false ∧ wx = w4)
          case first =>
            by_cases hk : 0 < k1
            · have f1 := HZ.out (n - m1) (by omega)
              have f2 : ¬ nxt lsn < Z (n - m1) := by
                have e : n - m1 = k1 := by omega
                have := HH.out.1.2.1 k1 (by omega) (Nat.le_refl _)
                rw [e]; omega
              have f3 : (0 : Int) < (n : Int) - (m1 : Int) := by omega
              have f4 : (n : Int) - (m1 : Int) < (n : Int) := by omega
              go_wp2
              go_meet
              case rel => exact ⟨rfl, rfl⟩
            · have f3 : ¬ (0 : Int) < (n : Int) - (m1 : Int) := by omega
              go_wp2
              go_meet
              case rel => exact ⟨rfl, rfl⟩
          case rest =>
            obtain ⟨rfl, hwx⟩ := hcut
            rw [← hwx] at t1 tfb HZ hB4
            clear hwx
            go_upto_region 33 with fail
            have f0 : 2 ≤ m1 → wc.cell? ⟨b1, o1 + 1, none⟩ = some (.int .u64 (Z (k1 + 1))) := by
              intro h2
              rcases t1.at' with h0 | ⟨b', o', hx, _, hcc⟩
              · omega
              · cases hx
                exact hcc 1 (by omega)
            obtain ⟨W5, hW5⟩ : ∃ x, x = wc := ⟨_, rfl⟩
            rw [← hW5] at t1 tfb HZ hB4 f0
            rw [← hW5]
            clear hW5
            go_cut [147] (fun s wx => s = .bool false ∧ wx = W5)
            case first =>
              by_cases hk : 2 ≤ m1
              · have f1 := f0 hk
                have f2 : ¬ Z (k1 + 1) ≤ nxt lsn := by
                  rcases HH.out.1.2.2 with h | h <;> omega
                have f3 : (2 : Int) ≤ (m1 : Int) := by omega
                clear f0
                go_wp2
                go_meet
                case rel => exact ⟨rfl, rfl⟩
              · have f3 : ¬ (2 : Int) ≤ (m1 : Int) := by omega
                clear f0
                go_wp2
                go_meet
                case rel => exact ⟨rfl, rfl⟩
            case rest =>
              obtain ⟨rfl, hwx⟩ := hcut
              rw [← hwx] at t1 tfb HZ hB4
              clear hwx f0
              have HK1 : Hid (k1 = kb) := HH.out.1.uniq HH.out.2
              go_wp2_with fail
              refine (eqv t1 tfb hm1p (by have := HK1.out; omega) (by intro i _; rw [HK1.out])).mono ?_
              rintro e w6 ⟨rfl, hy⟩
              go_wp2
              go_ret
              exact ⟨rfl, hB4.trans (hy.mono hB4.size)⟩

end Go.Proofs.Qxb6630184a
