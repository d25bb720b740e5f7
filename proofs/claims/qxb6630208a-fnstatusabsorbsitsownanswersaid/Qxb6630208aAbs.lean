/-
  OUR OWN TEXT (by an AI prover). The walk of FnStatusAbsorbsItsOwnAnswer (4).
-/
import Derived.Test.Qxb6630208aJn
namespace Go.Proofs.Qxb6630208a
open Go.RowKit

/-- Are the first k all 'passing'? -/
def allP (T : Nat → ByteArray) : Nat → Bool
  | 0 => true
  | k + 1 => allP T k && isP (T k)
/-- Is one of the first k the word r? (or b) -/
def pres (T : Nat → ByteArray) (r : ByteArray) (b : Bool) : Nat → Bool
  | 0 => b
  | k + 1 => pres T r b k || ((T k).toList == r.toList)

theorem allP_iff (T : Nat → ByteArray) (n : Nat) : allP T n = true ↔ ∀ j, j < n → isP (T j) = true := by
  induction n with
  | zero => exact ⟨fun _ j hj => by omega, fun _ => rfl⟩
  | succ n ih =>
    show (allP T n && isP (T n)) = true ↔ _
    rw [Bool.and_eq_true, ih]
    constructor
    · rintro ⟨h1, h2⟩ j hj
      by_cases e : j = n
      · rw [e]; exact h2
      · exact h1 j (by omega)
    · intro h
      exact ⟨fun j hj => h j (by omega), h n (by omega)⟩

theorem allP_worst (T : Nat → ByteArray) (n : Nat) : isP (worst T n) = allP T n := by
  rw [Bool.eq_iff_iff, allP_iff, worst_passing]

theorem pres_hit (T : Nat → ByteArray) (r : ByteArray) (b : Bool) (n m : Nat) (hm : m < n) (h : (T m).toList = r.toList) : pres T r b n = true := by
  induction n with
  | zero => omega
  | succ n ih =>
    show (pres T r b n || ((T n).toList == r.toList)) = true
    by_cases e : m = n
    · subst e; rw [h]; simp
    · rw [ih (by omega)]; rfl

theorem pres_worst (T : Nat → ByteArray) (n : Nat) : pres T (worst T n) ((n : Int) == 0) n = true := by
  by_cases h : n = 0
  · subst h; rfl
  · obtain ⟨m, h1, h2, _⟩ := worst_first T n (by omega)
    exact pres_hit T _ _ n m h1 h2

/-- The statuses with one more put in. -/
def put (T : Nat → ByteArray) (c : Nat) (r : ByteArray) (i : Nat) : ByteArray := if i < c then T i else if i = c then r else T (i - 1)
theorem put_lt {T : Nat → ByteArray} {c : Nat} {r : ByteArray} {i : Nat} (h : i < c) : put T c r i = T i := by unfold put; rw [if_pos h]
theorem put_at {T : Nat → ByteArray} {c : Nat} {r : ByteArray} : put T c r c = r := by unfold put; rw [if_neg (by omega), if_pos rfl]
theorem put_gt {T : Nat → ByteArray} {c : Nat} {r : ByteArray} {k : Nat} : put T c r (c + 1 + k) = T (c + k) := by
  unfold put
  rw [if_neg (by omega), if_neg (by omega), show c + 1 + k - 1 = c + k by omega]

set_option maxRecDepth 10000 in
set_option maxHeartbeats 1600000 in
theorem absOut (s1 s2 s3 : ByteArray) (a0 : Option Addr) (n0 c0 : Nat) (T0 : Nat → ByteArray) (p : Int) (a1 : Option Addr) (n1 c1 : Nat) (T : Nat → ByteArray) (a2 : Option Addr) (n2 c2 : Nat) (O : Nat → ByteArray) (cut : Int) (s4 : ByteArray) (w : World)
    (z1 : s1.size ≤ 9223372036854775807) (z2 : s2.size ≤ 9223372036854775807) (z3 : s3.size ≤ 9223372036854775807) (z4 : s4.size ≤ 9223372036854775807) (v0 : SView w a0 n0 c0 T0) (v1 : SView w a1 n1 c1 T) (v2 : SView w a2 n2 c2 O) (hcut : cut < 0 ∨ (n1 : Int) < cut) :
    Calls Try.prog 4 #[.string s1, .string s2, .string s3, .slice a0 n0 c0, .int .u16 p, .slice a1 n1 c1, .slice a2 n2 c2, .int .i64 cut, .string s4] w fun e w' => e = .returned (.bool true) ∧ Below w.heap.size w w' := by
  rcases hcut with hcut | hcut
  · go_enter Try.func4, Try.ntmps4
    go_wp2_with (first | (go_at_call 12; refine (bytes12 _ _ _ _ _ _ T0 _ _ _ _ T _ _ _ O _ _ _ z1 z2 z3 z4 v0 v1 v2).mono ?_; rintro e w' ⟨⟨r, rfl⟩, hw⟩; obtain rfl := hw.symm) | (go_at_call 6; refine (sizeok _ _ _ _ _ _ _ T0 _ _ _ T _ _ _ O _ z1 z2 z3 z4 v0 v1 v2).mono ?_; rintro e w' ⟨⟨r', rfl, hr⟩, hw⟩; obtain rfl := hw.symm))
    all_goals (go_ret; exact ⟨rfl, Below.refl _ _⟩)
  · have h0 : ¬ cut < 0 := by omega
    go_enter Try.func4, Try.ntmps4
    go_wp2_with (first | (go_at_call 12; refine (bytes12 _ _ _ _ _ _ T0 _ _ _ _ T _ _ _ O _ _ _ z1 z2 z3 z4 v0 v1 v2).mono ?_; rintro e w' ⟨⟨r, rfl⟩, hw⟩; obtain rfl := hw.symm) | (go_at_call 6; refine (sizeok _ _ _ _ _ _ _ T0 _ _ _ T _ _ _ O _ z1 z2 z3 z4 v0 v1 v2).mono ?_; rintro e w' ⟨⟨r', rfl, hr⟩, hw⟩; obtain rfl := hw.symm))
    all_goals (go_ret; exact ⟨rfl, Below.refl _ _⟩)

set_option maxRecDepth 10000 in
set_option maxHeartbeats 3200000 in
theorem absIn (s1 s2 s3 : ByteArray) (a0 : Option Addr) (n0 c0 : Nat) (T0 : Nat → ByteArray) (p : Int) (a1 : Option Addr) (n1 c1 : Nat) (T : Nat → ByteArray) (a2 : Option Addr) (n2 c2 : Nat) (O : Nat → ByteArray) (c : Nat) (s4 : ByteArray) (w : World)
    (z1 : s1.size ≤ 9223372036854775807) (z2 : s2.size ≤ 9223372036854775807) (z3 : s3.size ≤ 9223372036854775807) (z4 : s4.size ≤ 9223372036854775807) (v0 : SView w a0 n0 c0 T0) (v1 : SView w a1 n1 c1 T) (v2 : SView w a2 n2 c2 O) (hc : c ≤ n1) :
    Calls Try.prog 4 #[.string s1, .string s2, .string s3, .slice a0 n0 c0, .int .u16 p, .slice a1 n1 c1, .slice a2 n2 c2, .int .i64 c, .string s4] w fun e w' => e = .returned (.bool true) ∧ Below w.heap.size w w' := by
  have m1 := v1.max
  have l1 := v1.le
  obtain ⟨i49, hi49, hz49, hs49, hby49⟩ := info_parts Try.info49
  go_enter Try.func4, Try.ntmps4
  go_wp2_with (first | (go_at_call 12; refine (bytes12 _ _ _ _ _ _ T0 _ _ _ _ T _ _ _ O _ _ _ z1 z2 z3 z4 v0 v1 v2).mono ?_; rintro e w' ⟨⟨r, rfl⟩, hw⟩; obtain rfl := hw.symm) | (go_at_call 6; refine (sizeok _ _ _ _ _ _ _ T0 _ _ _ T _ _ _ O _ z1 z2 z3 z4 v0 v1 v2).mono ?_; rintro e w' ⟨⟨r', rfl, hr⟩, hw⟩; obtain rfl := hw.symm))
  any_goals (go_ret; exact ⟨rfl, Below.refl _ _⟩)
  have hr'' : r' = true := by
    have h : (!r') = false := by assumption
    simpa using h
  have HK : Hid (n1 ≤ 65536 ∧ n2 ≤ 65536) := hr hr''
  clear hr z1 z2 z3 z4 v0
  subst hr''
  refine (checks0 _ _ _ _ T _ _ _ O _ _ v1 v2 (by have := HK.out; omega) (by have := HK.out; omega) (Nat.le_refl _)).mono ?_
  rintro e w1 ⟨gb, k1, rfl, vx1, hb1⟩
  go_wp2_with fail
  refine (inst_any _ _ _ _ _ _ _ _ _ _ _).mono ?_
  rintro e w2 ⟨rfl, hb2⟩
  have vx2 := vx1.below hb2
  go_wp2_with fail
  refine (status_any _ _ _ _ _ _ _ _ _ _ T _ vx2).mono ?_
  rintro e w3 ⟨rfl, hb3⟩
  have hB3 : Below w.heap.size w w3 := (hb1.trans (hb2.mono hb1.size)).trans (hb3.mono (Nat.le_trans hb1.size hb2.size))
  have vx3 := vx2.below hb3
  have v1b := v1.below hB3
  clear vx1 vx2 hb1 hb2 hb3 v2 v1
  have hnI : (n1 : Int) ≤ 65536 := by have := HK.out; omega
  go_wp2_with (at_make; refine wpList_make_own _ rfl _ _ 37 rfl w3.heap.size 49 i49 _ 4 Try.underlying37 hi49 hz49 hs49 _ _ _ (n1 + 1) rfl rfl (by omega) (by rw [hby49]; have := HK.out; omega) (by unfold maxLen; have := HK.out; omega) (Nat.le_refl _) ?_; intro w4 hown4 hgrow4)
  have hb4 : Below w3.heap.size w3 w4 := (Below.refl _ _).grown hgrow4 (Nat.le_refl _) (fun k hk => by cases hk)
  have HB : Hid (∀ i, i < n1 → gb < w3.heap.size ∧ ∃ x y z : ByteArray, w3.cell? ⟨gb, i * 4, none⟩ = some (.string x) ∧ w3.cell? ⟨gb, i * 4 + 1, none⟩ = some (.string y) ∧ w3.cell? ⟨gb, i * 4 + 2, none⟩ = some (.string (T i)) ∧ w3.cell? ⟨gb, i * 4 + 3, none⟩ = some (.string z)) := by
    intro i hi
    rcases vx3.at' with h0 | ⟨b, hx, hlt, hcc⟩
    · omega
    · cases hx; exact ⟨hlt, hcc i hi⟩
  clear vx3 hgrow4
  have hn65 : Hid (n1 ≤ 65536) := HK.out.1
  clear HK
  go_loopw [22, 23] (fun v i wr => ∃ (k : Nat) (xs : List Value), k ≤ c ∧ i = .int .i64 k ∧ v = .slice (some ⟨w3.heap.size, 0, none⟩) k (n1 + 1) ∧ wr.ownsRow w3.heap.size 49 4 (.slice (some ⟨w3.heap.size, 0, none⟩) k (n1 + 1)) k xs ∧ Chk xs (put T c (worst T n1)) k ∧ Below w3.heap.size w3 wr) (fun _ i _ => c - (intOf i).toNat)
  case atStart => exact ⟨0, [], by omega, rfl, rfl, hown4, Chk.nil _, hb4⟩
  case round =>
    clear hown4 hb4
    obtain ⟨k, xs, hk, rfl, rfl, hown, hx, hbel⟩ := hrel
    have HX : Hid (Chk xs (put T c (worst T n1)) k) := hx
    clear hx
    by_cases hlt : k < c
    · obtain ⟨hgb, x, y, z, e1, e2, e3, e4⟩ := HB.out k (by omega)
      have f1 := (hbel.cell (p := ⟨gb, k * 4, none⟩) hgb).trans e1
      have f2 := (hbel.cell (p := ⟨gb, k * 4 + 1, none⟩) hgb).trans e2
      have f3 := (hbel.cell (p := ⟨gb, k * 4 + 2, none⟩) hgb).trans e3
      have f4 := (hbel.cell (p := ⟨gb, k * 4 + 3, none⟩) hgb).trans e4
      have hkn : k < n1 := by omega
      clear e1 e2 e3 e4
      go_wp2_with (at_builtin; refine wpList_append_fits _ rfl (.tmp 82) (.tmp 87) 37 rfl w3.heap.size 49 i49 4 Try.underlying37 hi49 hs49 w3.heap.size k (n1 + 1) xs rfl (hown.alloc _) ⟨wr.heap.size, 0, none⟩ 1 1 [.string x, .string y, .string (T k), .string z] rfl rfl (four_new _ _ _ _ _ _) (four_one _ _ _ _) (by omega) ?_; intro w5 hown5 hgrow5)
      go_wp2
      go_roundw
      case rel => exact ⟨k + 1, _, by omega, by go_num, rfl, hown5, HX.out.push _ _ _ _ (put_lt hlt).symm, (hbel.alloc hbel.size _).grown hgrow5 (by simp; have := hbel.size; omega) (fun g hg => by cases hg; omega)⟩
      case measure => simp [intOf]; omega
    · obtain rfl : k = c := by omega
      go_wp2_with (at_builtin; refine wpList_append_fits _ rfl (.tmp 89) (.tmp 95) 37 rfl w3.heap.size 49 i49 4 Try.underlying37 hi49 hs49 w3.heap.size k (n1 + 1) xs rfl (hown.alloc _) ⟨wr.heap.size, 0, none⟩ 1 1 [.string (ByteArray.mk #[101, 120, 116, 114, 97]), .string s2, .string (worst T n1), .string s4] rfl rfl (four_new _ _ _ _ _ _) (four_one _ _ _ _) (by omega) ?_; intro w5 hown5 hgrow5)
      have hb5 : Below w3.heap.size w3 w5 := (hbel.alloc hbel.size _).grown hgrow5 (by simp; have := hbel.size; omega) (fun g hg => by cases hg; omega)
      have hx5 := HX.out.push (ByteArray.mk #[101, 120, 116, 114, 97]) s2 (worst T n1) s4 put_at.symm
      have HX5 : Hid (Chk (xs ++ [.string (ByteArray.mk #[101, 120, 116, 114, 97]), .string s2, .string (worst T n1), .string s4]) (put T k (worst T n1)) (k + 1)) := hx5
      clear hx5 hgrow5 hbel hown HX
      go_loopw [22, 24] (fun v i wr => ∃ (q : Nat) (ys : List Value), k + q ≤ n1 ∧ i = .int .i64 ((k + q : Nat) : Int) ∧ v = .slice (some ⟨w3.heap.size, 0, none⟩) (k + 1 + q) (n1 + 1) ∧ wr.ownsRow w3.heap.size 49 4 (.slice (some ⟨w3.heap.size, 0, none⟩) (k + 1 + q) (n1 + 1)) (k + 1 + q) ys ∧ Chk ys (put T k (worst T n1)) (k + 1 + q) ∧ Below w3.heap.size w3 wr) (fun _ i _ => n1 - (intOf i).toNat)
      case atStart => exact ⟨0, _, by omega, rfl, rfl, hown5, HX5.out, hb5⟩
      case round =>
        clear hown5 hb5 HX5
        obtain ⟨q, ys, hq, rfl, rfl, hown, hx, hbel⟩ := hrel
        have HX : Hid (Chk ys (put T k (worst T n1)) (k + 1 + q)) := hx
        clear hx
        by_cases hlt2 : k + q < n1
        · obtain ⟨hgb, x, y, z, e1, e2, e3, e4⟩ := HB.out (k + q) (by omega)
          have f1 := (hbel.cell (p := ⟨gb, (k + q) * 4, none⟩) hgb).trans e1
          have f2 := (hbel.cell (p := ⟨gb, (k + q) * 4 + 1, none⟩) hgb).trans e2
          have f3 := (hbel.cell (p := ⟨gb, (k + q) * 4 + 2, none⟩) hgb).trans e3
          have f4 := (hbel.cell (p := ⟨gb, (k + q) * 4 + 3, none⟩) hgb).trans e4
          clear e1 e2 e3 e4
          go_wp2_with (at_builtin; refine wpList_append_fits _ rfl (.tmp 103) (.tmp 108) 37 rfl w3.heap.size 49 i49 4 Try.underlying37 hi49 hs49 w3.heap.size (k + 1 + q) (n1 + 1) ys rfl (hown.alloc _) ⟨wr.heap.size, 0, none⟩ 1 1 [.string x, .string y, .string (T (k + q)), .string z] rfl rfl (four_new _ _ _ _ _ _) (four_one _ _ _ _) (by omega) ?_; intro w5 hown5 hgrow5)
          go_wp2
          go_roundw
          case rel => exact ⟨q + 1, _, by omega, by go_num, rfl, hown5, HX.out.push _ _ _ _ put_gt.symm, (hbel.alloc hbel.size _).grown hgrow5 (by simp; have := hbel.size; omega) (fun g hg => by cases hg; omega)⟩
          case measure => simp [intOf]; omega
        · have HQ : Hid (k + q = n1) := by show _ = _; omega
          have vy := view_owned hown HX.out (by omega) (by have := hn65.out; omega)
          have v1c := v1b.below hbel
          have hE : ((worst (put T k (worst T n1)) (k + 1 + q)).toList == (worst T n1).toList) = true := by
            have h := worst_grown T (put T k (worst T n1)) k q (fun i hi => put_lt hi) (by rw [put_at, HQ.out]) (fun i _ => put_gt)
            rw [HQ.out, show n1 + 1 = k + 1 + q by have := HQ.out; omega] at h
            rw [h]; simp
          have HE : Hid (((worst (put T k (worst T n1)) (k + 1 + q)).toList == (worst T n1).toList) = true) := hE
          have hBw : Below w.heap.size w wr := hB3.trans (hbel.mono hB3.size)
          clear hE hown HX hbel v1b hB3 HB
          go_wp2_with fail
          refine (inst_any _ _ _ _ _ _ _ _ _ _ _).mono ?_
          rintro e w6 ⟨rfl, hb6⟩
          have vy2 := vy.below hb6
          go_wp2_with fail
          refine (status_any _ _ _ _ _ _ _ _ _ _ (put T k (worst T n1)) _ vy2).mono ?_
          rintro e w7 ⟨rfl, hb7⟩
          have hB67 : Below wr.heap.size wr w7 := hb6.trans (hb7.mono hb6.size)
          have hB7 : Below w.heap.size w w7 := hBw.trans (hB67.mono hBw.size)
          have V1 := (v1c.below hB67).open'
          clear vy vy2 hb6 hb7 v1c hB67 hBw
          go_wp2
          generalize hb0 : ((n1 : Int) == 0) = b0
          have HB0 : Hid (((n1 : Int) == 0) = b0) := hb0
          clear hb0
          have HW : Hid (∀ j, j < n1 → wrs (T j) (worst T n1) = false) := by
            intro j hj
            have := (worst_inv T n1).2 j hj
            simp [wrs]; omega
          go_loop [26, 27, 28, 29] (fun a b d i => ∃ j : Nat, j ≤ n1 ∧ i = .int .i64 j ∧ a = .bool (allP T j) ∧ b = .bool true ∧ d = .bool (pres T (worst T n1) b0 j)) (fun _ _ _ i => n1 - (intOf i).toNat)
          case atStart => exact ⟨0, Nat.zero_le _, rfl, rfl, rfl, rfl⟩
          case round =>
            obtain ⟨j, hj, rfl, rfl, rfl, rfl⟩ := hrel
            by_cases hlt3 : j < n1
            · obtain ⟨b, off, rfl, hcc⟩ := V1.out (by omega)
              have f := hcc j hlt3
              clear hcc
              have g := HW.out j hlt3
              have EA : Hid (allP T (j + 1) = (allP T j && ((T j).toList == [112, 97, 115, 115, 105, 110, 103]))) := rfl
              have EP : Hid (pres T (worst T n1) b0 (j + 1) = (pres T (worst T n1) b0 j || ((T j).toList == (worst T n1).toList))) := rfl
              cases h1 : ((T j).toList == [112, 97, 115, 115, 105, 110, 103]) <;> cases h2 : ((T j).toList == (worst T n1).toList)
              · go_wp2_with (go_at_call 10; refine (worse_any _ _ _).mono ?_; rintro e w' ⟨rfl, hw9⟩; obtain rfl := hw9.symm)
                go_round
                case rel => exact ⟨j + 1, by omega, by go_num, by rw [EA.out, h1, Bool.and_false], rfl, by rw [EP.out, h2, Bool.or_false]⟩
                case measure => simp [intOf]; omega
              · go_wp2_with (go_at_call 10; refine (worse_any _ _ _).mono ?_; rintro e w' ⟨rfl, hw9⟩; obtain rfl := hw9.symm)
                go_round
                case rel => exact ⟨j + 1, by omega, by go_num, by rw [EA.out, h1, Bool.and_false], rfl, by rw [EP.out, h2, Bool.or_true]⟩
                case measure => simp [intOf]; omega
              · go_wp2_with (go_at_call 10; refine (worse_any _ _ _).mono ?_; rintro e w' ⟨rfl, hw9⟩; obtain rfl := hw9.symm)
                go_round
                case rel => exact ⟨j + 1, by omega, by go_num, by rw [EA.out, h1, Bool.and_true], rfl, by rw [EP.out, h2, Bool.or_false]⟩
                case measure => simp [intOf]; omega
              · go_wp2_with (go_at_call 10; refine (worse_any _ _ _).mono ?_; rintro e w' ⟨rfl, hw9⟩; obtain rfl := hw9.symm)
                go_round
                case rel => exact ⟨j + 1, by omega, by go_num, by rw [EA.out, h1, Bool.and_true], rfl, by rw [EP.out, h2, Bool.or_true]⟩
                case measure => simp [intOf]; omega
            · obtain rfl : j = n1 := by omega
              have hP : pres T (worst T j) b0 j = true := by
                rw [← HB0.out]; exact pres_worst T j
              have hE := HE.out
              cases hA : allP T j
              · have hR : ((worst T j).toList == [112, 97, 115, 115, 105, 110, 103]) = false := by
                  have := allP_worst T j
                  rw [hA] at this
                  exact this
                go_wp2
                go_ret
                exact ⟨rfl, hB7⟩
              · have hR : ((worst T j).toList == [112, 97, 115, 115, 105, 110, 103]) = true := by
                  have := allP_worst T j
                  rw [hA] at this
                  exact this
                go_wp2
                go_ret
                exact ⟨rfl, hB7⟩

end Go.Proofs.Qxb6630208a
