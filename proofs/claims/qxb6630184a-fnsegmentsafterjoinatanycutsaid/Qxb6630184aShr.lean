/-
  OUR OWN TEXT (by an AI prover). The walk of FnSegmentsAfterShrinksAsLSNGrows (4).
-/
import Derived.Test.Qxb6630184aSeg
import Derived.Test.Qxb6630184aEqs
import Derived.Test.Qxb6630184aGuards
import Derived.Deep.DeepCutAuto
import Derived.Laws.CopyOwn
namespace Go.Proofs.Qxb6630184a
open Go.RowKit

theorem Try.info24 : (Try.prog.info? 24).map (fun i => (i.zero, i.size, i.bytes)) = some (some (.int .u64 0), 1, 8) := by kernel_rfl
theorem Try.info9 : (Try.prog.info? 9).map (fun i => (i.zero, i.size, i.bytes)) = some (some (.string ByteArray.empty), 1, 16) := by kernel_rfl

/-- The numbers as cells. -/
def ints (Z : Nat → Int) (n : Nat) : List Value := (List.range n).map fun i => .int .u64 (Z i)
/-- The strings as cells. -/
def strings (S : Nat → ByteArray) (n : Nat) : List Value := (List.range n).map fun i => .string (S i)

theorem ints_length (Z : Nat → Int) (n : Nat) : (ints Z n).length = n := by simp [ints]
theorem strings_length (S : Nat → ByteArray) (n : Nat) : (strings S n).length = n := by simp [strings]
theorem ints_one (Z : Nat → Int) (n : Nat) : ∀ v ∈ ints Z n, v.oneCell' = true := by
  intro v hv
  obtain ⟨i, _, rfl⟩ := List.mem_map.1 hv
  rfl
theorem strings_one (S : Nat → ByteArray) (n : Nat) : ∀ v ∈ strings S n, v.oneCell' = true := by
  intro v hv
  obtain ⟨i, _, rfl⟩ := List.mem_map.1 hv
  rfl
theorem ints_at {Z : Nat → Int} {n j : Nat} {v : Value} (h : (ints Z n)[j]? = some v) : j < n ∧ v = .int .u64 (Z j) := by
  have hj : j < n := by have := (List.getElem?_eq_some_iff.1 h).1; rwa [ints_length] at this
  refine ⟨hj, ?_⟩
  simp [ints, hj] at h
  exact h.symm
theorem strings_at {S : Nat → ByteArray} {n j : Nat} {v : Value} (h : (strings S n)[j]? = some v) : j < n ∧ v = .string (S j) := by
  have hj : j < n := by have := (List.getElem?_eq_some_iff.1 h).1; rwa [strings_length] at this
  refine ⟨hj, ?_⟩
  simp [strings, hj] at h
  exact h.symm

/-- A row that the call has made and filled is a view. -/
theorem view_made {w : World} {g n : Nat} {Z : Nat → Int} {cur : List Value} {t : TypeId} (h : w.heap[g]? = some (.cells (splice cur 0 (ints Z n)).toArray t (0, 0))) (hl : cur.length = n) (hn : n ≤ 9223372036854775807)
    (bd : ∀ i, 0 ≤ Z i ∧ Z i ≤ 18446744073709551615) : View w (some ⟨g, 0, none⟩) n n Z := by
  have e : splice cur 0 (ints Z n) = ints Z n := by
    unfold splice
    rw [List.take_zero, List.nil_append, Nat.zero_add, ints_length, List.drop_eq_nil_of_le (by omega), List.append_nil]
  rw [e] at h
  refine ⟨Nat.le_refl _, hn, .inr ⟨g, 0, rfl, (Array.getElem?_eq_some_iff.1 h).1, fun i hi => ?_⟩, bd⟩
  rw [Nat.zero_add, cell_of_row w g i _ t (0, 0) h]
  simp [ints, hi]

/-- The whole row of what a make has left. -/
theorem row_made {w : World} {base : Nat} {e : TypeId} {g n c : Nat} {xs : List Value} (h : w.ownsRow base e 1 (.slice (some ⟨g, 0, none⟩) n c) n xs) (hc : c = n) :
    ∃ cur : List Value, cur.length = n ∧ w.heap[g]? = some (.cells cur.toArray e (0, 0)) := by
  subst hc
  obtain ⟨h1, h2⟩ := h
  rcases h2 with ⟨h2, _⟩ | ⟨g', cap', cur, hv, _, hh, _, _, hs, _⟩
  · cases h2
  · cases hv
    exact ⟨cur.toList, by simpa using hs, by simpa using hh⟩

/-- What a copy of numbers asks of its source. -/
theorem src_ints {w w1 : World} {a : Option Addr} {n c g : Nat} {Z : Nat → Int} (hv : View w a n c Z) (hb : Below w.heap.size w w1) :
    0 < (ints Z n).length → some (⟨g, 0, none⟩ : Addr) = some ⟨g, 0, none⟩ ∧ ∃ ad, a = some ad ∧ ∀ j v, (ints Z n)[j]? = some v → w1.cell? (ad.add j) = some v := by
  intro h0
  rw [ints_length] at h0
  refine ⟨rfl, ?_⟩
  rcases hv.at' with h1 | ⟨b', o', hx, hlt, hcc⟩
  · omega
  · refine ⟨_, hx, fun j v hj => ?_⟩
    obtain ⟨hj', rfl⟩ := ints_at hj
    rw [Addr.add_lit, hb.cell (p := ⟨b', o' + j, none⟩) hlt]
    exact hcc j hj'

theorem src_strings {w w1 : World} {a : Option Addr} {n c g : Nat} {S : Nat → ByteArray} (hv : SView w a n c S) (hb : Below w.heap.size w w1) :
    0 < (strings S n).length → some (⟨g, 0, none⟩ : Addr) = some ⟨g, 0, none⟩ ∧ ∃ ad, a = some ad ∧ ∀ j v, (strings S n)[j]? = some v → w1.cell? (ad.add j) = some v := by
  intro h0
  rw [strings_length] at h0
  refine ⟨rfl, ?_⟩
  rcases hv.at' with h1 | ⟨b', o', hx, hlt, hcc⟩
  · omega
  · refine ⟨_, hx, fun j v hj => ?_⟩
    obtain ⟨hj', rfl⟩ := strings_at hj
    rw [Addr.add_lit, hb.cell (p := ⟨b', o' + j, none⟩) hlt]
    exact hcc j hj'

theorem bgrown0 {B : Nat} {a w w' : World} (h : Below B a w) (hg : w.grownBy w' none) (hB : B ≤ w.heap.size) : Below B a w' :=
  h.grown hg hB (fun k hk => by cases hk)

set_option maxRecDepth 10000 in
set_option maxHeartbeats 1600000 in
theorem shrP (ac : Option Addr) (nc cc : Nat) (C : Nat → Int) (b off n cap : Nat) (Z : Nat → Int) (at' : Option Addr) (nt ct : Nat) (S : Nat → ByteArray) (l : Bool) (lo hi : Int) (w : World)
    (vc : View w ac nc cc C) (vz : View w (some ⟨b, off, none⟩) n cap Z) (hn : 0 < n) (vt : SView w at' nt ct S) (hlo0 : 0 ≤ lo) (hlo1 : lo ≤ 18446744073709551615) (hhi0 : 0 ≤ hi) (hhi1 : hi ≤ 18446744073709551615) :
    Calls Try.prog 4 #[.slice ac nc cc, .slice (some ⟨b, off, none⟩) n cap, .slice at' nt ct, .bool l, .int .u64 lo, .int .u64 hi] w fun e w' => e = .returned (.bool true) ∧ Below w.heap.size w w' := by
  have mc := vc.max
  have mc' := vc.le
  have mz := vz.max
  have mz' := vz.le
  have mt := vt.max
  have mt' := vt.le
  have q22 : ∀ (w : World) (a : Option Addr) (n c n' c' : Nat), (binOp .neq 22 (.slice a n c) (.slice none n' c')).run Try.prog w = .ok (.bool (!a.isNone)) w := fun w a n c n' c' => run_neq_slice_nil_any w _ _ a n c n' c' Try.underlying22
  have q23 : ∀ (w : World) (a : Option Addr) (n c n' c' : Nat), (binOp .neq 23 (.slice a n c) (.slice none n' c')).run Try.prog w = .ok (.bool (!a.isNone)) w := fun w a n c n' c' => run_neq_slice_nil_any w _ _ a n c n' c' Try.underlying23
  go_enter Try.func4, Try.ntmps4
  go_upto_if 37 with (first | (go_at_call 11; refine (bytes11 _ _ _ _ _ _ _ _ _ S _ _ _ _ (by omega) (by omega) vt).mono ?_; rintro e w' ⟨⟨r, rfl⟩, hw⟩; obtain rfl := hw.symm) | (go_at_call 6; refine (small _ _ _ _ _ _ _ _ _ S _ (by omega) (by omega) vt).mono ?_; rintro e w' ⟨⟨r', rfl, hr⟩, hw⟩; obtain rfl := hw.symm))
  any_goals (go_ret; exact ⟨rfl, Below.refl _ _⟩)
  have hr'' : r' = true := by
    have h : (!r') = false := by assumption
    simpa using h
  have HK : Hid (nc ≤ 131072 ∧ n ≤ 131072 ∧ nt ≤ 65536) := hr hr''
  clear hr
  subst hr''
  obtain ⟨i24, hi24, hz24, hs24, hby24⟩ := info_parts Try.info24
  obtain ⟨i9, hi9, hz9, hs9, hby9⟩ := info_parts Try.info9
  go_cut [0] (fun c wx => ∃ a n cap, c = .slice a n cap ∧ Below w.heap.size w wx)
  case first =>
    rcases ac with _ | x
    · go_wp2
      go_meet
      case rel => exact ⟨_, _, _, rfl, Below.refl _ _⟩
    · go_wp2_with (first
        | (at_make; refine wpList_make_full _ rfl _ _ 22 rfl w.heap.size 24 i24 (.int .u64 0) 1 Try.underlying22 hi24 hz24 hs24 _ _ _ _ nc rfl rfl rfl rfl (by rw [hby24]; have := HK.out; omega) (by unfold maxLen; omega) (Nat.le_refl _) ?_; intro w1 hown hgrow; obtain ⟨cur, hcl, hcur⟩ := row_made hown rfl; have HCur : Hid ((w1.heap[w.heap.size]? = some (.cells cur.toArray 24 (0, 0))) ∧ cur.length = nc) := ⟨hcur, hcl⟩; clear hcur hcl hown)
        | (show wpList _ _ _ (Oper.mk (some 43) _ _ _ _ _ :: _) _ _; refine wpList_copy_splice rfl (.tmp 41) (.tmp 42) 22 22 rfl 24 Try.underlying22 (by rw [hi24]; simp [hs24]) _ _ _ _ _ _ rfl rfl w.heap.size 0 cur 24 HCur.out.1 (ints C nc) (by rw [ints_length]; exact (Nat.min_self nc).symm) (src_ints vc (bgrown0 (Below.refl w.heap.size w) hgrow (Below.refl w.heap.size w).size)) (by rw [ints_length]; have := HCur.out.2; omega) (ints_one _ _) w.heap.size w (bgrown0 (Below.refl w.heap.size w) hgrow (Below.refl w.heap.size w).size) (Below.refl w.heap.size w).size ?_; intro w2 HG hb2))
      go_meet
      case rel => exact ⟨_, _, _, rfl, hb2⟩
  case rest =>
    obtain ⟨a0, n0, c0, rfl, hb0⟩ := hcut
    clear vc mc mc'
    go_upto_if 46 with fail
    go_cut [1] (fun s wx => ∃ g, s = .slice (some ⟨g, 0, none⟩) n n ∧ View wx (some ⟨g, 0, none⟩) n n Z ∧ Below w.heap.size w wx)
    case first =>
      have vz0 := vz.below hb0
      go_wp2_with (first
        | (at_make; refine wpList_make_full _ rfl _ _ 22 rfl wc.heap.size 24 i24 (.int .u64 0) 1 Try.underlying22 hi24 hz24 hs24 _ _ _ _ n rfl rfl rfl rfl (by rw [hby24]; have := HK.out; omega) (by unfold maxLen; omega) (Nat.le_refl _) ?_; intro w1 hown hgrow; obtain ⟨cur, hcl, hcur⟩ := row_made hown rfl; have HCur : Hid ((w1.heap[wc.heap.size]? = some (.cells cur.toArray 24 (0, 0))) ∧ cur.length = n) := ⟨hcur, hcl⟩; clear hcur hcl hown)
        | (show wpList _ _ _ (Oper.mk (some 52) _ _ _ _ _ :: _) _ _; refine wpList_copy_splice rfl (.tmp 50) (.tmp 51) 22 22 rfl 24 Try.underlying22 (by rw [hi24]; simp [hs24]) _ _ _ _ _ _ rfl rfl wc.heap.size 0 cur 24 HCur.out.1 (ints Z n) (by rw [ints_length]; exact (Nat.min_self n).symm) (src_ints vz0 (bgrown0 (Below.refl wc.heap.size wc) hgrow (Nat.le_refl _))) (by rw [ints_length]; have := HCur.out.2; omega) (ints_one _ _) w.heap.size w (bgrown0 (hb0) hgrow (hb0).size) (hb0).size ?_; intro w2 HG hb2))
      go_meet
      case rel => exact ⟨_, rfl, view_made HG.out HCur.out.2 (by omega) vz.bd, hb2⟩
    case rest =>
      obtain ⟨g, rfl, vz1, hb1⟩ := hcut
      clear vz hb0
      go_upto_if 55 with fail
      go_cut [2] (fun s wx => ∃ a m c, s = .slice a m c ∧ View wx (some ⟨g, 0, none⟩) n n Z ∧ Below w.heap.size w wx)
      case first =>
        rcases at' with _ | x
        · go_wp2
          go_meet
          case rel => exact ⟨_, _, _, rfl, vz1, hb1⟩
        · have vt0 := vt.below hb1
          go_wp2_with (first
            | (at_make; refine wpList_make_full _ rfl _ _ 23 rfl wc.heap.size 9 i9 (.string ByteArray.empty) 1 Try.underlying23 hi9 hz9 hs9 _ _ _ _ nt rfl rfl rfl rfl (by rw [hby9]; have := HK.out; omega) (by unfold maxLen; omega) (Nat.le_refl _) ?_; intro w1 hown hgrow; obtain ⟨cur, hcl, hcur⟩ := row_made hown rfl; have HCur : Hid ((w1.heap[wc.heap.size]? = some (.cells cur.toArray 9 (0, 0))) ∧ cur.length = nt) := ⟨hcur, hcl⟩; clear hcur hcl hown)
            | (show wpList _ _ _ (Oper.mk (some 61) _ _ _ _ _ :: _) _ _; refine wpList_copy_splice rfl (.tmp 59) (.tmp 60) 23 23 rfl 9 Try.underlying23 (by rw [hi9]; simp [hs9]) _ _ _ _ _ _ rfl rfl wc.heap.size 0 cur 9 HCur.out.1 (strings S nt) (by rw [strings_length]; exact (Nat.min_self nt).symm) (src_strings vt0 (bgrown0 (Below.refl wc.heap.size wc) hgrow (Nat.le_refl _))) (by rw [strings_length]; have := HCur.out.2; omega) (strings_one _ _) wc.heap.size wc (bgrown0 (Below.refl wc.heap.size wc) hgrow (Nat.le_refl _)) (Nat.le_refl _) ?_; intro w2 HG hb2))
          go_meet
          case rel => exact ⟨_, _, _, rfl, vz1.below hb2, hb1.trans (hb2.mono hb1.size)⟩
      case rest =>
        obtain ⟨a2, n2, c2, rfl, vz2, hb2⟩ := hcut
        clear vz1 hb1 vt mt mt'
        go_upto_if 65 with fail
        go_cut [4, 5] (fun s t wx => ∃ p q, s = .int .u64 p ∧ t = .int .u64 q ∧ 0 ≤ p ∧ p ≤ q ∧ q ≤ 18446744073709551615 ∧ wx = wc)
        case first =>
          by_cases hlh : hi < lo
          · go_wp2
            go_meet
            case rel => exact ⟨_, _, rfl, rfl, by omega, by omega, by omega, rfl⟩
          · go_wp2
            go_meet
            case rel => exact ⟨_, _, rfl, rfl, by omega, by omega, by omega, rfl⟩
        case rest =>
          obtain ⟨p, q, rfl, rfl, hp0, hpq, hq1, hwx⟩ := hcut
          rw [← hwx] at vz2 hb2
          clear hwx hlo0 hlo1 hhi0 hhi1
          cases hqm : (q == 18446744073709551615)
          · have hq2 : q ≤ 18446744073709551614 := by
              have : q ≠ 18446744073709551615 := by simpa using hqm
              omega
            have hp2 : p ≤ 18446744073709551614 := by omega
            have e1 := nxt_of hp2
            have e2 := nxt_of hq2
            go_wp2_with fail
            refine (segsP _ _ _ _ _ _ Z _ _ _ _ _ _ vz2 hn (by omega) (by omega)).mono ?_
            rintro e w1 ⟨b1, o1, m1, c1, k1, rfl, hm1, hit1, v1, hx1⟩
            have vz3 := vz2.below hx1
            go_wp2_with fail
            refine (segsP _ _ _ _ _ _ Z _ _ _ _ _ _ vz3 hn (by omega) (by omega)).mono ?_
            rintro e w2 ⟨b2, o2, m2, c2, k2, rfl, hm2, hit2, v2, hx2⟩
            have hm1p : 0 < m1 := by have := hit1.1; omega
            have v1b := v1.below hx2
            go_wp2_with fail
            refine (segsP _ _ _ _ _ _ (fun i => Z (k1 + i)) _ _ _ _ _ _ v1b hm1p (by omega) (by omega)).mono ?_
            rintro e w3 ⟨b3, o3, m3, c3, k3, rfl, hm3, hit3, v3, hx3⟩
            rw [e1] at hit1 hit3
            rw [e2] at hit2
            clear e1 e2
            have hk3 : k3 = 0 := by
              have : n - k1 = m1 := by omega
              rw [← this] at hit3
              exact hit1.again hit3
            have hk12 : k1 ≤ k2 := hit1.mono (by omega) hit2
            have hB3 : Below w.heap.size w w3 := ((hb2.trans (hx1.mono hb2.size)).trans (hx2.mono (Nat.le_trans hb2.size hx1.size))).trans (hx3.mono (Nat.le_trans hb2.size (Nat.le_trans hx1.size hx2.size)))
            have u1 := v1b.below hx3
            have u2 := v2.below hx3
            have uz := (vz3.below hx2).below hx3
            clear v1 v1b v2 vz2 vz3 hx1 hx2 hx3 hb2
            have hm2p : 0 < m2 := by have := hit2.1; omega
            have hm3p : 0 < m3 := by omega
            have HIT : Hid (Hit Z n (p + 1) k1) := hit1
            clear hit1 hit2 hit3
            go_wp2_with fail
            refine (tailv u1 uz hm1p (by omega) (by intro i _; rw [show n - m1 = k1 by omega])).mono ?_
            rintro e w4 ⟨rfl, hy1⟩
            have u1b := u1.below hy1
            have u2b := u2.below hy1
            go_wp2_with fail
            refine (tailv u2b u1b hm2p (by omega) (by intro i _; show _ = Z (k1 + (m1 - m2 + i)); rw [show k1 + (m1 - m2 + i) = k2 + i by omega])).mono ?_
            rintro e w5 ⟨rfl, hy2⟩
            have u3c := (v3.below hy1).below hy2
            have u1c := u1b.below hy2
            go_wp2_with fail
            refine (eqv u3c u1c hm3p (by omega) (by intro i _; show Z (k1 + (k3 + i)) = Z (k1 + i); rw [hk3, Nat.zero_add])).mono ?_
            rintro e w6 ⟨rfl, hy3⟩
            have u1d := u1c.below hy3
            have uzd := ((uz.below hy1).below hy2).below hy3
            have hB6 : Below w.heap.size w w6 := ((hB3.trans (hy1.mono hB3.size)).trans (hy2.mono (Nat.le_trans hB3.size hy1.size))).trans (hy3.mono (Nat.le_trans hB3.size (Nat.le_trans hy1.size hy2.size)))
            clear u1 u1b u1c u2 u2b u3c uz v3 hy1 hy2 hy3 hB3
            have hcell1 : 2 ≤ m1 → w6.cell? ⟨b1, o1 + 1, none⟩ = some (.int .u64 (Z (k1 + 1))) := by
              intro h2
              rcases u1d.at' with h0 | ⟨b', o', hx, _, hcc⟩
              · omega
              · cases hx
                exact hcc 1 (by omega)
            have HZ : Hid (∀ j, j < n → w6.cell? ⟨g, j, none⟩ = some (.int .u64 (Z j))) := by
              intro j hj
              rcases uzd.at' with h0 | ⟨b', o', hx, _, hcc⟩
              · omega
              · cases hx
                have := hcc j hj
                rwa [Nat.zero_add] at this
            have hz1 : 2 ≤ m1 → p + 1 < Z (k1 + 1) := by
              intro h2
              rcases HIT.out.2.2 with h | h
              · omega
              · exact h
            have HB : Hid (∀ j, 1 ≤ j → j < n → p + 1 < Z j → k1 < j) := by
              intro j j1 j2 j3
              by_cases e : k1 < j
              · exact e
              · have := HIT.out.2.1 j j1 (by omega); omega
            clear u1d uzd
            have meet : ∀ Y : Prop, (2 ≤ m1 → Y) → (¬ 2 ≤ m1 → Y) → Y := fun Y h1 h2 => by
              by_cases h : 2 ≤ m1
              · exact h1 h
              · exact h2 h
            refine meet _ (fun h2m => ?_) (fun h2m => ?_)
            · have f1 := hcell1 h2m
              have f2 := hz1 h2m
              have f3 : (2 : Int) ≤ (m1 : Int) := by omega
              clear hcell1 hz1 meet
              go_wp2
              go_loop [21, 22] (fun c i => ∃ (x j : Nat), 1 ≤ j ∧ j ≤ n ∧ c = .int .i64 x ∧ i = .int .i64 j ∧ x ≤ j - 1 - k1) (fun _ i => n - (intOf i).toNat)
              case atStart => exact ⟨0, 1, by omega, by omega, rfl, rfl, by omega⟩
              case round =>
                obtain ⟨x, j, hj1, hjn, rfl, rfl, hx⟩ := hrel
                by_cases hlt : j < n
                · have f := HZ.out j hlt
                  by_cases hg : p + 1 < Z j
                  · have hkj := HB.out j hj1 hlt hg
                    go_wp2
                    go_round
                    case rel => exact ⟨x + 1, j + 1, by omega, by omega, by go_num, by go_num, by omega⟩
                    case measure => simp [intOf]; omega
                  · go_wp2
                    go_round
                    case rel => exact ⟨x, j + 1, by omega, by omega, by go_num, by go_num, by omega⟩
                    case measure => simp [intOf]; omega
                · have hfin : (x : Int) + 1 ≤ (m1 : Int) := by omega
                  go_wp2
                  go_ret
                  exact ⟨rfl, hB6⟩
            · have f3 : ¬ (2 : Int) ≤ (m1 : Int) := by omega
              clear hcell1 hz1 meet
              go_wp2
              go_loop [21, 22] (fun c i => ∃ (x j : Nat), 1 ≤ j ∧ j ≤ n ∧ c = .int .i64 x ∧ i = .int .i64 j ∧ x ≤ j - 1 - k1) (fun _ i => n - (intOf i).toNat)
              case atStart => exact ⟨0, 1, by omega, by omega, rfl, rfl, by omega⟩
              case round =>
                obtain ⟨x, j, hj1, hjn, rfl, rfl, hx⟩ := hrel
                by_cases hlt : j < n
                · have f := HZ.out j hlt
                  by_cases hg : p + 1 < Z j
                  · have hkj := HB.out j hj1 hlt hg
                    go_wp2
                    go_round
                    case rel => exact ⟨x + 1, j + 1, by omega, by omega, by go_num, by go_num, by omega⟩
                    case measure => simp [intOf]; omega
                  · go_wp2
                    go_round
                    case rel => exact ⟨x, j + 1, by omega, by omega, by go_num, by go_num, by omega⟩
                    case measure => simp [intOf]; omega
                · have hfin : (x : Int) + 1 ≤ (m1 : Int) := by omega
                  go_wp2
                  go_ret
                  exact ⟨rfl, hB6⟩
          · go_wp2
            go_ret
            exact ⟨rfl, hb2⟩

end Go.Proofs.Qxb6630184a
