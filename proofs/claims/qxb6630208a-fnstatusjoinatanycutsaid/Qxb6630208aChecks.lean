/-
  OUR OWN TEXT (by an AI prover). A slice of strings; rows of checks that the call itself makes; the walk of zzChecks (8).
-/
import Derived.Test.Qxb6630208aStat
namespace Go.Proofs.Qxb6630208a
open Go.RowKit

theorem Try.info49 : (Try.prog.info? 49).map (fun i => (i.zero, i.size, i.bytes)) = some (some (.agg #[.string ByteArray.empty, .string ByteArray.empty, .string ByteArray.empty, .string ByteArray.empty]), 4, 64) := by kernel_rfl

/-- The slice of strings (a, n, cap) reads, in w, the strings S 0 .. S (n-1). -/
structure SView (w : World) (a : Option Addr) (n cap : Nat) (S : Nat → ByteArray) : Prop where
  le : n ≤ cap
  max : cap ≤ 9223372036854775807
  at' : n = 0 ∨ ∃ b off, a = some ⟨b, off, none⟩ ∧ b < w.heap.size ∧ ∀ i, i < n → w.cell? ⟨b, off + i, none⟩ = some (.string (S i))
  bd : ∀ i, (S i).size ≤ 9223372036854775807

theorem SView.below {w w' : World} {a : Option Addr} {n cap : Nat} {S : Nat → ByteArray} (h : SView w a n cap S) (hb0 : Below w.heap.size w w') : SView w' a n cap S := by
  refine ⟨h.le, h.max, ?_, h.bd⟩
  rcases h.at' with h0 | ⟨b, off, rfl, hlt, hc⟩
  · exact .inl h0
  · refine .inr ⟨b, off, rfl, Nat.lt_of_lt_of_le hlt hb0.size, fun i hi => ?_⟩
    rw [hb0.cell (p := ⟨b, off + i, none⟩) hlt]
    exact hc i hi

/-- The cells of k checks, whose statuses are T 0 .. -/
def Chk (xs : List Value) (T : Nat → ByteArray) (k : Nat) : Prop :=
  xs.length = k * 4 ∧ ∀ i, i < k → ∃ x y z : ByteArray, xs[i * 4]? = some (.string x) ∧ xs[i * 4 + 1]? = some (.string y) ∧ xs[i * 4 + 2]? = some (.string (T i)) ∧ xs[i * 4 + 3]? = some (.string z)

theorem Chk.nil (T : Nat → ByteArray) : Chk [] T 0 := ⟨rfl, fun i hi => by omega⟩

theorem Chk.push {xs : List Value} {T : Nat → ByteArray} {k : Nat} (h : Chk xs T k) (x y t z : ByteArray) (ht : t = T k) : Chk (xs ++ [.string x, .string y, .string t, .string z]) T (k + 1) := by
  obtain ⟨h1, h2⟩ := h
  subst ht
  refine ⟨by simp [h1]; omega, fun i hi => ?_⟩
  by_cases e : i = k
  · subst e
    refine ⟨x, y, z, ?_, ?_, ?_, ?_⟩
    · rw [List.getElem?_append_right (by omega), h1, Nat.sub_self]; rfl
    · rw [List.getElem?_append_right (by omega), h1, show i * 4 + 1 - i * 4 = 1 by omega]; rfl
    · rw [List.getElem?_append_right (by omega), h1, show i * 4 + 2 - i * 4 = 2 by omega]; rfl
    · rw [List.getElem?_append_right (by omega), h1, show i * 4 + 3 - i * 4 = 3 by omega]; rfl
  · obtain ⟨x', y', z', a, b, c, d⟩ := h2 i (by omega)
    refine ⟨x', y', z', ?_, ?_, ?_, ?_⟩
    · rw [List.getElem?_append_left (by omega)]; exact a
    · rw [List.getElem?_append_left (by omega)]; exact b
    · rw [List.getElem?_append_left (by omega)]; exact c
    · rw [List.getElem?_append_left (by omega)]; exact d

/-- An owned row of checks is a view. -/
theorem view_owned {w : World} {base g k cap : Nat} {xs : List Value} {T : Nat → ByteArray} (h : w.ownsRow base 49 4 (.slice (some ⟨g, 0, none⟩) k cap) k xs) (hc : Chk xs T k) (hk : k ≤ cap) (hm : cap ≤ 131072) : CView w (some ⟨g, 0, none⟩) k cap T := by
  refine ⟨hk, hm, ?_⟩
  by_cases h0 : k = 0
  · exact .inl h0
  right
  refine ⟨g, rfl, (h.lt g rfl).2, fun i hi => ?_⟩
  obtain ⟨x, y, z, h1, h2, h3, h4⟩ := hc.2 i hi
  have f := h.cells (g := g) rfl
  refine ⟨x, y, z, ?_, ?_, ?_, ?_⟩
  · have := f _ _ h1; rwa [Addr.add_lit, Nat.zero_add] at this
  · have := f _ _ h2; rwa [Addr.add_lit, Nat.zero_add] at this
  · have := f _ _ h3; rwa [Addr.add_lit, Nat.zero_add] at this
  · have := f _ _ h4; rwa [Addr.add_lit, Nat.zero_add] at this

/-- The four cells of a new block. -/
theorem four_new (w : World) (a b c d : Value) (e : TypeId) : ∀ j u, [a, b, c, d][j]? = some u → (w.alloc (.cells #[a, b, c, d] e)).cell? ((⟨w.heap.size, 0, none⟩ : Addr).add j) = some u := by
  intro j u hj
  rw [Addr.add_lit, Nat.zero_add, cell_of_row (w.alloc (.cells #[a, b, c, d] e)) w.heap.size j #[a, b, c, d] e (0, 0) (heap_alloc_new w _)]
  simpa using hj

theorem four_one (a b c d : ByteArray) : ∀ u ∈ [Value.string a, .string b, .string c, .string d], u.oneCell' = true := by
  intro u hu
  simp at hu
  rcases hu with rfl | rfl | rfl | rfl <;> rfl

set_option maxHeartbeats 1600000 in
theorem checks_some (id : ByteArray) (b off n cap : Nat) (T : Nat → ByteArray) (b' off' no co : Nat) (O : Nat → ByteArray) (lo hi : Nat) (w : World) (hn : n ≤ 131072) (hno : no ≤ 131072) (hlh : lo ≤ hi) (hhn : hi ≤ n) (hb : b < w.heap.size) (hb' : no = 0 ∨ b' < w.heap.size)
    (hc : ∀ i, i < n → w.cell? ⟨b, off + i, none⟩ = some (.string (T i))) (hc' : ∀ i, i < no → w.cell? ⟨b', off' + i, none⟩ = some (.string (O i))) :
    Calls Try.prog 8 #[.string id, .slice (some ⟨b, off, none⟩) n cap, .slice (some ⟨b', off', none⟩) no co, .int .i64 lo, .int .i64 hi] w
      fun e w' => ∃ g cap', e = .returned (.slice (some ⟨g, 0, none⟩) (hi - lo) cap') ∧ CView w' (some ⟨g, 0, none⟩) (hi - lo) cap' (fun i => T (lo + i)) ∧ Below w.heap.size w w' := by
  have HC : Hid (∀ i, i < n → w.cell? ⟨b, off + i, none⟩ = some (.string (T i))) := hc
  have HO : Hid (∀ i, i < no → b' < w.heap.size ∧ w.cell? ⟨b', off' + i, none⟩ = some (.string (O i))) := fun i hi => ⟨by omega, hc' i hi⟩
  clear hc hc' hb'
  obtain ⟨i49, hi49, hz49, hs49, hby49⟩ := info_parts Try.info49
  go_enter Try.func8, Try.ntmps8
  go_wp2_with (at_make; refine wpList_make_own _ rfl _ _ 37 rfl w.heap.size 49 i49 _ 4 Try.underlying37 hi49 hz49 hs49 _ _ _ (hi - lo) rfl rfl (by omega) (by rw [hby49]; omega) (by unfold maxLen; omega) (Nat.le_refl _) ?_; intro w1 hown1 hgrow1)
  have hb1 : Below w.heap.size w w1 := (Below.refl _ _).grown hgrow1 (Nat.le_refl _) (fun k hk => by cases hk)
  go_loopw [11, 12] (fun v i wr => ∃ (k : Nat) (xs : List Value), lo + k ≤ hi ∧ i = .int .i64 ((lo + k : Nat) : Int) ∧ v = .slice (some ⟨w.heap.size, 0, none⟩) k (hi - lo) ∧ wr.ownsRow w.heap.size 49 4 (.slice (some ⟨w.heap.size, 0, none⟩) k (hi - lo)) k xs ∧ Chk xs (fun i => T (lo + i)) k ∧ Below w.heap.size w wr) (fun _ i _ => hi - (intOf i).toNat)
  case atStart => exact ⟨0, [], by omega, rfl, rfl, hown1, Chk.nil _, hb1⟩
  case round =>
    clear hown1 hgrow1 hb1
    obtain ⟨k, xs, hk, rfl, rfl, hown, hx, hbel⟩ := hrel
    have HX : Hid (Chk xs (fun i => T (lo + i)) k) := hx
    clear hx
    by_cases hlt : lo + k < hi
    · have f1 := (hbel.cell (p := ⟨b, off + (lo + k), none⟩) hb).trans (HC.out (lo + k) (by omega))
      have hlt2 : lo + k < n := by omega
      by_cases hio : lo + k < no
      · have f2 := (hbel.cell (p := ⟨b', off' + (lo + k), none⟩) (HO.out (lo + k) hio).1).trans (HO.out (lo + k) hio).2
        by_cases hp : 0 < lo + k
        · have hp' : (0 : Int) < ((lo + k : Nat) : Int) := by omega
          go_wp2_with (at_builtin; refine wpList_append_fits _ rfl (.tmp 37) (.tmp 47) 37 rfl w.heap.size 49 i49 4 Try.underlying37 hi49 hs49 w.heap.size k (hi - lo) xs rfl (hown.alloc _) ⟨wr.heap.size, 0, none⟩ 1 1 [.string (ByteArray.mk #[115, 101, 114, 118, 105, 99, 101]), .string id, .string (T (lo + k)), .string (O (lo + k))] rfl rfl (four_new _ _ _ _ _ _) (four_one _ _ _ _) (by omega) ?_; intro w2 hown2 hgrow2)
          go_wp2
          go_roundw
          case rel => exact ⟨k + 1, _, by omega, by go_num, rfl, hown2, HX.out.push _ _ _ _ rfl, (hbel.alloc hbel.size _).grown hgrow2 (by simp; have := hbel.size; omega) (fun g hg => by cases hg; omega)⟩
          case measure => simp [intOf]; omega
        · have hp' : ¬ (0 : Int) < ((lo + k : Nat) : Int) := by omega
          go_wp2_with (at_builtin; refine wpList_append_fits _ rfl (.tmp 37) (.tmp 47) 37 rfl w.heap.size 49 i49 4 Try.underlying37 hi49 hs49 w.heap.size k (hi - lo) xs rfl (hown.alloc _) ⟨wr.heap.size, 0, none⟩ 1 1 [.string (ByteArray.mk #[109, 101, 109, 98, 101, 114]), .string (ByteArray.mk #[]), .string (T (lo + k)), .string (O (lo + k))] rfl rfl (four_new _ _ _ _ _ _) (four_one _ _ _ _) (by omega) ?_; intro w2 hown2 hgrow2)
          go_wp2
          go_roundw
          case rel => exact ⟨k + 1, _, by omega, by go_num, rfl, hown2, HX.out.push _ _ _ _ rfl, (hbel.alloc hbel.size _).grown hgrow2 (by simp; have := hbel.size; omega) (fun g hg => by cases hg; omega)⟩
          case measure => simp [intOf]; omega
      · have hio' : ¬ ((lo + k : Nat) : Int) < (no : Int) := by omega
        by_cases hp : 0 < lo + k
        · have hp' : (0 : Int) < ((lo + k : Nat) : Int) := by omega
          go_wp2_with (at_builtin; refine wpList_append_fits _ rfl (.tmp 37) (.tmp 47) 37 rfl w.heap.size 49 i49 4 Try.underlying37 hi49 hs49 w.heap.size k (hi - lo) xs rfl (hown.alloc _) ⟨wr.heap.size, 0, none⟩ 1 1 [.string (ByteArray.mk #[115, 101, 114, 118, 105, 99, 101]), .string id, .string (T (lo + k)), .string (ByteArray.mk #[])] rfl rfl (four_new _ _ _ _ _ _) (four_one _ _ _ _) (by omega) ?_; intro w2 hown2 hgrow2)
          go_wp2
          go_roundw
          case rel => exact ⟨k + 1, _, by omega, by go_num, rfl, hown2, HX.out.push _ _ _ _ rfl, (hbel.alloc hbel.size _).grown hgrow2 (by simp; have := hbel.size; omega) (fun g hg => by cases hg; omega)⟩
          case measure => simp [intOf]; omega
        · have hp' : ¬ (0 : Int) < ((lo + k : Nat) : Int) := by omega
          go_wp2_with (at_builtin; refine wpList_append_fits _ rfl (.tmp 37) (.tmp 47) 37 rfl w.heap.size 49 i49 4 Try.underlying37 hi49 hs49 w.heap.size k (hi - lo) xs rfl (hown.alloc _) ⟨wr.heap.size, 0, none⟩ 1 1 [.string (ByteArray.mk #[109, 101, 109, 98, 101, 114]), .string (ByteArray.mk #[]), .string (T (lo + k)), .string (ByteArray.mk #[])] rfl rfl (four_new _ _ _ _ _ _) (four_one _ _ _ _) (by omega) ?_; intro w2 hown2 hgrow2)
          go_wp2
          go_roundw
          case rel => exact ⟨k + 1, _, by omega, by go_num, rfl, hown2, HX.out.push _ _ _ _ rfl, (hbel.alloc hbel.size _).grown hgrow2 (by simp; have := hbel.size; omega) (fun g hg => by cases hg; omega)⟩
          case measure => simp [intOf]; omega
    · have hke : k = hi - lo := by omega
      have HK : Hid (k = hi - lo) := hke
      clear hke
      go_wp2
      go_ret
      refine ⟨w.heap.size, hi - lo, ?_, ?_, hbel⟩
      · rw [← HK.out]; rfl
      · have := HX.out
        rw [HK.out] at this hown
        exact view_owned hown this (Nat.le_refl _) (by omega)

set_option maxHeartbeats 1600000 in
theorem checks_noout (id : ByteArray) (b off n cap : Nat) (T : Nat → ByteArray) (ao : Option Addr) (co : Nat) (lo hi : Nat) (w : World) (hn : n ≤ 131072) (hlh : lo ≤ hi) (hhn : hi ≤ n) (hb : b < w.heap.size) 
    (hc : ∀ i, i < n → w.cell? ⟨b, off + i, none⟩ = some (.string (T i))) :
    Calls Try.prog 8 #[.string id, .slice (some ⟨b, off, none⟩) n cap, .slice ao 0 co, .int .i64 lo, .int .i64 hi] w
      fun e w' => ∃ g cap', e = .returned (.slice (some ⟨g, 0, none⟩) (hi - lo) cap') ∧ CView w' (some ⟨g, 0, none⟩) (hi - lo) cap' (fun i => T (lo + i)) ∧ Below w.heap.size w w' := by
  have HC : Hid (∀ i, i < n → w.cell? ⟨b, off + i, none⟩ = some (.string (T i))) := hc
  clear hc
  obtain ⟨i49, hi49, hz49, hs49, hby49⟩ := info_parts Try.info49
  go_enter Try.func8, Try.ntmps8
  go_wp2_with (at_make; refine wpList_make_own _ rfl _ _ 37 rfl w.heap.size 49 i49 _ 4 Try.underlying37 hi49 hz49 hs49 _ _ _ (hi - lo) rfl rfl (by omega) (by rw [hby49]; omega) (by unfold maxLen; omega) (Nat.le_refl _) ?_; intro w1 hown1 hgrow1)
  have hb1 : Below w.heap.size w w1 := (Below.refl _ _).grown hgrow1 (Nat.le_refl _) (fun k hk => by cases hk)
  go_loopw [11, 12] (fun v i wr => ∃ (k : Nat) (xs : List Value), lo + k ≤ hi ∧ i = .int .i64 ((lo + k : Nat) : Int) ∧ v = .slice (some ⟨w.heap.size, 0, none⟩) k (hi - lo) ∧ wr.ownsRow w.heap.size 49 4 (.slice (some ⟨w.heap.size, 0, none⟩) k (hi - lo)) k xs ∧ Chk xs (fun i => T (lo + i)) k ∧ Below w.heap.size w wr) (fun _ i _ => hi - (intOf i).toNat)
  case atStart => exact ⟨0, [], by omega, rfl, rfl, hown1, Chk.nil _, hb1⟩
  case round =>
    clear hown1 hgrow1 hb1
    obtain ⟨k, xs, hk, rfl, rfl, hown, hx, hbel⟩ := hrel
    have HX : Hid (Chk xs (fun i => T (lo + i)) k) := hx
    clear hx
    by_cases hlt : lo + k < hi
    · have f1 := (hbel.cell (p := ⟨b, off + (lo + k), none⟩) hb).trans (HC.out (lo + k) (by omega))
      have hlt2 : lo + k < n := by omega
      have hio' : ¬ ((lo + k : Nat) : Int) < (0 : Int) := by omega
      by_cases hp : 0 < lo + k
      · have hp' : (0 : Int) < ((lo + k : Nat) : Int) := by omega
        go_wp2_with (at_builtin; refine wpList_append_fits _ rfl (.tmp 37) (.tmp 47) 37 rfl w.heap.size 49 i49 4 Try.underlying37 hi49 hs49 w.heap.size k (hi - lo) xs rfl (hown.alloc _) ⟨wr.heap.size, 0, none⟩ 1 1 [.string (ByteArray.mk #[115, 101, 114, 118, 105, 99, 101]), .string id, .string (T (lo + k)), .string (ByteArray.mk #[])] rfl rfl (four_new _ _ _ _ _ _) (four_one _ _ _ _) (by omega) ?_; intro w2 hown2 hgrow2)
        go_wp2
        go_roundw
        case rel => exact ⟨k + 1, _, by omega, by go_num, rfl, hown2, HX.out.push _ _ _ _ rfl, (hbel.alloc hbel.size _).grown hgrow2 (by simp; have := hbel.size; omega) (fun g hg => by cases hg; omega)⟩
        case measure => simp [intOf]; omega
      · have hp' : ¬ (0 : Int) < ((lo + k : Nat) : Int) := by omega
        go_wp2_with (at_builtin; refine wpList_append_fits _ rfl (.tmp 37) (.tmp 47) 37 rfl w.heap.size 49 i49 4 Try.underlying37 hi49 hs49 w.heap.size k (hi - lo) xs rfl (hown.alloc _) ⟨wr.heap.size, 0, none⟩ 1 1 [.string (ByteArray.mk #[109, 101, 109, 98, 101, 114]), .string (ByteArray.mk #[]), .string (T (lo + k)), .string (ByteArray.mk #[])] rfl rfl (four_new _ _ _ _ _ _) (four_one _ _ _ _) (by omega) ?_; intro w2 hown2 hgrow2)
        go_wp2
        go_roundw
        case rel => exact ⟨k + 1, _, by omega, by go_num, rfl, hown2, HX.out.push _ _ _ _ rfl, (hbel.alloc hbel.size _).grown hgrow2 (by simp; have := hbel.size; omega) (fun g hg => by cases hg; omega)⟩
        case measure => simp [intOf]; omega
    · have hke : k = hi - lo := by omega
      have HK : Hid (k = hi - lo) := hke
      clear hke
      go_wp2
      go_ret
      refine ⟨w.heap.size, hi - lo, ?_, ?_, hbel⟩
      · rw [← HK.out]; rfl
      · have := HX.out
        rw [HK.out] at this hown
        exact view_owned hown this (Nat.le_refl _) (by omega)

set_option maxHeartbeats 1600000 in
theorem checks_empty (id : ByteArray) (a : Option Addr) (cap : Nat) (T : Nat → ByteArray) (ao : Option Addr) (no co : Nat) (w : World) :
    Calls Try.prog 8 #[.string id, .slice a 0 cap, .slice ao no co, .int .i64 0, .int .i64 0] w
      fun e w' => ∃ g cap', e = .returned (.slice (some ⟨g, 0, none⟩) 0 cap') ∧ CView w' (some ⟨g, 0, none⟩) 0 cap' T ∧ Below w.heap.size w w' := by
  obtain ⟨i49, hi49, hz49, hs49, hby49⟩ := info_parts Try.info49
  go_enter Try.func8, Try.ntmps8
  go_wp2_with (at_make; refine wpList_make_own _ rfl _ _ 37 rfl w.heap.size 49 i49 _ 4 Try.underlying37 hi49 hz49 hs49 _ _ _ 0 rfl rfl (by omega) (by rw [hby49]; omega) (by unfold maxLen; omega) (Nat.le_refl _) ?_; intro w1 hown1 hgrow1)
  have hb1 : Below w.heap.size w w1 := (Below.refl _ _).grown hgrow1 (Nat.le_refl _) (fun k hk => by cases hk)
  refine wp_loop_rounds 1 ?_
  rw [rounds_succ]
  go_wp2
  go_ret
  exact ⟨_, _, rfl, ⟨Nat.le_refl _, by omega, .inl rfl⟩, hb1⟩

/-- zzChecks makes checks with the statuses T lo .. T (hi-1). -/
theorem checks_any (id : ByteArray) (a : Option Addr) (n cap : Nat) (T : Nat → ByteArray) (ao : Option Addr) (no co : Nat) (O : Nat → ByteArray) (lo hi : Nat) (w : World) (hv : SView w a n cap T) (ho : SView w ao no co O) (hn : n ≤ 131072) (hno : no ≤ 131072)
    (hlh : lo ≤ hi) (hhn : hi ≤ n) :
    Calls Try.prog 8 #[.string id, .slice a n cap, .slice ao no co, .int .i64 lo, .int .i64 hi] w
      fun e w' => ∃ g cap', e = .returned (.slice (some ⟨g, 0, none⟩) (hi - lo) cap') ∧ CView w' (some ⟨g, 0, none⟩) (hi - lo) cap' (fun i => T (lo + i)) ∧ Below w.heap.size w w' := by
  rcases hv.at' with h0 | ⟨b, off, rfl, hb, hc⟩
  · subst h0
    obtain rfl : hi = 0 := by omega
    obtain rfl : lo = 0 := by omega
    exact checks_empty id a cap _ ao no co w
  · rcases ho.at' with h0 | ⟨b', off', rfl, hb', hc'⟩
    · subst h0
      exact checks_noout id b off n cap T ao co lo hi w hn hlh hhn hb hc
    · exact checks_some id b off n cap T b' off' no co O lo hi w hn hno hlh hhn hb (.inr hb') hc hc'

end Go.Proofs.Qxb6630208a
