/-
  OUR OWN TEXT (by an AI prover). The walks of the guards zzBytes_.. (5, 12) and zzSizeOK (6).
-/
import Derived.Test.Qxb6630208aChecks
namespace Go.Proofs.Qxb6630208a
open Go.RowKit

/-- It answers some bool. (Behind a name, so that the walk does not part on the bool.) -/
def Says (e : Ending) : Prop := ∃ r : Bool, e = .returned (.bool r)
theorem Says.mk (r : Bool) : Says (.returned (.bool r)) := ⟨r, rfl⟩
/-- It answers a bool; where it is true the lists are short. -/
def Sized (n no : Nat) (e : Ending) : Prop := ∃ r : Bool, e = .returned (.bool r) ∧ (r = true → n ≤ 65536 ∧ no ≤ 65536)
theorem Sized.no {n no : Nat} : Sized n no (.returned (.bool false)) := ⟨false, rfl, by intro h; cases h⟩
theorem Sized.yes {n no : Nat} (h1 : n ≤ 65536) (h2 : no ≤ 65536) : Sized n no (.returned (.bool true)) := ⟨true, rfl, fun _ => ⟨h1, h2⟩⟩

theorem SView.open' {w : World} {a : Option Addr} {n cap : Nat} {S : Nat → ByteArray} (h : SView w a n cap S) : Hid (0 < n → ∃ b off, a = some ⟨b, off, none⟩ ∧ ∀ i, i < n → w.cell? ⟨b, off + i, none⟩ = some (.string (S i))) := by
  intro h0
  rcases h.at' with h1 | ⟨b, off, h1, _, h2⟩
  · omega
  · exact ⟨b, off, h1, h2⟩

set_option maxHeartbeats 1600000 in
theorem bytes5 (s1 s2 s3 : ByteArray) (a0 : Option Addr) (n0 c0 : Nat) (T0 : Nat → ByteArray) (p : Int) (a1 : Option Addr) (n1 c1 : Nat) (T1 : Nat → ByteArray) (a2 : Option Addr) (n2 c2 : Nat) (T2 : Nat → ByteArray) (cut : Int) (w : World) (z1 : s1.size ≤ 9223372036854775807) (z2 : s2.size ≤ 9223372036854775807) (z3 : s3.size ≤ 9223372036854775807) (v0 : SView w a0 n0 c0 T0) (v1 : SView w a1 n1 c1 T1) (v2 : SView w a2 n2 c2 T2) :
    Calls Try.prog 5 #[.string s1, .string s2, .string s3, .slice a0 n0 c0, .int .u16 p, .slice a1 n1 c1, .slice a2 n2 c2, .int .i64 cut] w fun e w' => Says e ∧ w' = w := by
  have V0 := v0.open'
  have S0 : Hid (∀ i, (T0 i).size ≤ 9223372036854775807) := v0.bd
  have m0 := v0.max
  have l0 := v0.le
  have V1 := v1.open'
  have S1 : Hid (∀ i, (T1 i).size ≤ 9223372036854775807) := v1.bd
  have m1 := v1.max
  have l1 := v1.le
  have V2 := v2.open'
  have S2 : Hid (∀ i, (T2 i).size ≤ 9223372036854775807) := v2.bd
  have m2 := v2.max
  have l2 := v2.le
  clear v0 v1 v2
  go_enter Try.func5, Try.ntmps5
  go_wp2
  try any_goals (go_ret; exact ⟨Says.mk _, rfl⟩)
  go_loop [17, 18] (fun t i => ∃ (k : Nat) (z : Int), k ≤ n0 ∧ i = .int .i64 k ∧ t = .int .i64 z ∧ 0 ≤ z ∧ z ≤ 1048576) (fun _ i => n0 - (intOf i).toNat)
  case atStart => exact ⟨0, _, Nat.zero_le _, rfl, rfl, by omega, by omega⟩
  case round =>
    obtain ⟨k, z, hk, rfl, rfl, hz0, hz1⟩ := hrel
    by_cases hlt : k < n0
    · obtain ⟨b, off, rfl, hc⟩ := V0.out (by omega)
      have f := hc k hlt
      have g := S0.out k
      clear hc
      go_wp2
      any_goals (go_ret; exact ⟨Says.mk _, rfl⟩)
      go_round
      case rel => exact ⟨k + 1, _, by omega, by go_num, rfl, by omega, by omega⟩
      case measure => simp [intOf]; omega
    · go_wp2
      try any_goals (go_ret; exact ⟨Says.mk _, rfl⟩)
      go_loop [17, 19] (fun t i => ∃ (k : Nat) (z : Int), k ≤ n1 ∧ i = .int .i64 k ∧ t = .int .i64 z ∧ 0 ≤ z ∧ z ≤ 1048576) (fun _ i => n1 - (intOf i).toNat)
      case atStart => exact ⟨0, _, Nat.zero_le _, rfl, rfl, by omega, by omega⟩
      case round =>
        obtain ⟨k, z, hk, rfl, rfl, hz0, hz1⟩ := hrel
        by_cases hlt : k < n1
        · obtain ⟨b, off, rfl, hc⟩ := V1.out (by omega)
          have f := hc k hlt
          have g := S1.out k
          clear hc
          go_wp2
          any_goals (go_ret; exact ⟨Says.mk _, rfl⟩)
          go_round
          case rel => exact ⟨k + 1, _, by omega, by go_num, rfl, by omega, by omega⟩
          case measure => simp [intOf]; omega
        · go_wp2
          try any_goals (go_ret; exact ⟨Says.mk _, rfl⟩)
          go_loop [17, 20] (fun t i => ∃ (k : Nat) (z : Int), k ≤ n2 ∧ i = .int .i64 k ∧ t = .int .i64 z ∧ 0 ≤ z ∧ z ≤ 1048576) (fun _ i => n2 - (intOf i).toNat)
          case atStart => exact ⟨0, _, Nat.zero_le _, rfl, rfl, by omega, by omega⟩
          case round =>
            obtain ⟨k, z, hk, rfl, rfl, hz0, hz1⟩ := hrel
            by_cases hlt : k < n2
            · obtain ⟨b, off, rfl, hc⟩ := V2.out (by omega)
              have f := hc k hlt
              have g := S2.out k
              clear hc
              go_wp2
              any_goals (go_ret; exact ⟨Says.mk _, rfl⟩)
              go_round
              case rel => exact ⟨k + 1, _, by omega, by go_num, rfl, by omega, by omega⟩
              case measure => simp [intOf]; omega
            · go_wp2
              go_ret
              exact ⟨Says.mk _, rfl⟩

set_option maxHeartbeats 1600000 in
theorem bytes12 (s1 s2 s3 : ByteArray) (a0 : Option Addr) (n0 c0 : Nat) (T0 : Nat → ByteArray) (p : Int) (a1 : Option Addr) (n1 c1 : Nat) (T1 : Nat → ByteArray) (a2 : Option Addr) (n2 c2 : Nat) (T2 : Nat → ByteArray) (pos : Int) (s4 : ByteArray) (w : World) (z1 : s1.size ≤ 9223372036854775807) (z2 : s2.size ≤ 9223372036854775807) (z3 : s3.size ≤ 9223372036854775807) (z4 : s4.size ≤ 9223372036854775807) (v0 : SView w a0 n0 c0 T0) (v1 : SView w a1 n1 c1 T1) (v2 : SView w a2 n2 c2 T2) :
    Calls Try.prog 12 #[.string s1, .string s2, .string s3, .slice a0 n0 c0, .int .u16 p, .slice a1 n1 c1, .slice a2 n2 c2, .int .i64 pos, .string s4] w fun e w' => Says e ∧ w' = w := by
  have V0 := v0.open'
  have S0 : Hid (∀ i, (T0 i).size ≤ 9223372036854775807) := v0.bd
  have m0 := v0.max
  have l0 := v0.le
  have V1 := v1.open'
  have S1 : Hid (∀ i, (T1 i).size ≤ 9223372036854775807) := v1.bd
  have m1 := v1.max
  have l1 := v1.le
  have V2 := v2.open'
  have S2 : Hid (∀ i, (T2 i).size ≤ 9223372036854775807) := v2.bd
  have m2 := v2.max
  have l2 := v2.le
  clear v0 v1 v2
  go_enter Try.func12, Try.ntmps12
  go_wp2
  try any_goals (go_ret; exact ⟨Says.mk _, rfl⟩)
  go_loop [19, 20] (fun t i => ∃ (k : Nat) (z : Int), k ≤ n0 ∧ i = .int .i64 k ∧ t = .int .i64 z ∧ 0 ≤ z ∧ z ≤ 1048576) (fun _ i => n0 - (intOf i).toNat)
  case atStart => exact ⟨0, _, Nat.zero_le _, rfl, rfl, by omega, by omega⟩
  case round =>
    obtain ⟨k, z, hk, rfl, rfl, hz0, hz1⟩ := hrel
    by_cases hlt : k < n0
    · obtain ⟨b, off, rfl, hc⟩ := V0.out (by omega)
      have f := hc k hlt
      have g := S0.out k
      clear hc
      go_wp2
      any_goals (go_ret; exact ⟨Says.mk _, rfl⟩)
      go_round
      case rel => exact ⟨k + 1, _, by omega, by go_num, rfl, by omega, by omega⟩
      case measure => simp [intOf]; omega
    · go_wp2
      try any_goals (go_ret; exact ⟨Says.mk _, rfl⟩)
      go_loop [19, 21] (fun t i => ∃ (k : Nat) (z : Int), k ≤ n1 ∧ i = .int .i64 k ∧ t = .int .i64 z ∧ 0 ≤ z ∧ z ≤ 1048576) (fun _ i => n1 - (intOf i).toNat)
      case atStart => exact ⟨0, _, Nat.zero_le _, rfl, rfl, by omega, by omega⟩
      case round =>
        obtain ⟨k, z, hk, rfl, rfl, hz0, hz1⟩ := hrel
        by_cases hlt : k < n1
        · obtain ⟨b, off, rfl, hc⟩ := V1.out (by omega)
          have f := hc k hlt
          have g := S1.out k
          clear hc
          go_wp2
          any_goals (go_ret; exact ⟨Says.mk _, rfl⟩)
          go_round
          case rel => exact ⟨k + 1, _, by omega, by go_num, rfl, by omega, by omega⟩
          case measure => simp [intOf]; omega
        · go_wp2
          try any_goals (go_ret; exact ⟨Says.mk _, rfl⟩)
          go_loop [19, 22] (fun t i => ∃ (k : Nat) (z : Int), k ≤ n2 ∧ i = .int .i64 k ∧ t = .int .i64 z ∧ 0 ≤ z ∧ z ≤ 1048576) (fun _ i => n2 - (intOf i).toNat)
          case atStart => exact ⟨0, _, Nat.zero_le _, rfl, rfl, by omega, by omega⟩
          case round =>
            obtain ⟨k, z, hk, rfl, rfl, hz0, hz1⟩ := hrel
            by_cases hlt : k < n2
            · obtain ⟨b, off, rfl, hc⟩ := V2.out (by omega)
              have f := hc k hlt
              have g := S2.out k
              clear hc
              go_wp2
              any_goals (go_ret; exact ⟨Says.mk _, rfl⟩)
              go_round
              case rel => exact ⟨k + 1, _, by omega, by go_num, rfl, by omega, by omega⟩
              case measure => simp [intOf]; omega
            · go_wp2
              all_goals (go_ret; exact ⟨Says.mk _, rfl⟩)

set_option maxHeartbeats 3200000 in
theorem sizeok (s1 s2 s3 s4 : ByteArray) (a0 : Option Addr) (n0 c0 : Nat) (T0 : Nat → ByteArray) (a1 : Option Addr) (n1 c1 : Nat) (T1 : Nat → ByteArray) (a2 : Option Addr) (n2 c2 : Nat) (T2 : Nat → ByteArray) (w : World) (z1 : s1.size ≤ 9223372036854775807) (z2 : s2.size ≤ 9223372036854775807) (z3 : s3.size ≤ 9223372036854775807) (z4 : s4.size ≤ 9223372036854775807) (v0 : SView w a0 n0 c0 T0) (v1 : SView w a1 n1 c1 T1) (v2 : SView w a2 n2 c2 T2) :
    Calls Try.prog 6 #[.string s1, .string s2, .string s3, .string s4, .slice a0 n0 c0, .slice a1 n1 c1, .slice a2 n2 c2] w fun e w' => Sized n1 n2 e ∧ w' = w := by
  have V0 := v0.open'
  have S0 : Hid (∀ i, (T0 i).size ≤ 9223372036854775807) := v0.bd
  have m0 := v0.max
  have l0 := v0.le
  have V1 := v1.open'
  have S1 : Hid (∀ i, (T1 i).size ≤ 9223372036854775807) := v1.bd
  have m1 := v1.max
  have l1 := v1.le
  have V2 := v2.open'
  have S2 : Hid (∀ i, (T2 i).size ≤ 9223372036854775807) := v2.bd
  have m2 := v2.max
  have l2 := v2.le
  clear v0 v1 v2
  go_enter Try.func6, Try.ntmps6
  go_wp2
  try any_goals (go_ret; exact ⟨Sized.no, rfl⟩)
  go_loop [15, 16] (fun t i => ∃ (k : Nat) (z : Int), k ≤ n0 ∧ i = .int .i64 k ∧ t = .int .i64 z ∧ 0 ≤ z ∧ z ≤ 1048576) (fun _ i => n0 - (intOf i).toNat)
  case atStart => exact ⟨0, _, Nat.zero_le _, rfl, rfl, by omega, by omega⟩
  case round =>
    obtain ⟨k, z, hk, rfl, rfl, hz0, hz1⟩ := hrel
    by_cases hlt : k < n0
    · obtain ⟨b, off, rfl, hc⟩ := V0.out (by omega)
      have f := hc k hlt
      have g := S0.out k
      clear hc
      go_wp2
      any_goals (go_ret; exact ⟨Sized.no, rfl⟩)
      go_round
      case rel => exact ⟨k + 1, _, by omega, by go_num, rfl, by omega, by omega⟩
      case measure => simp [intOf]; omega
    · go_wp2
      try any_goals (go_ret; exact ⟨Sized.no, rfl⟩)
      go_loop [15, 17] (fun t i => ∃ (k : Nat) (z : Int), k ≤ n1 ∧ i = .int .i64 k ∧ t = .int .i64 z ∧ 0 ≤ z ∧ z ≤ 1048576) (fun _ i => n1 - (intOf i).toNat)
      case atStart => exact ⟨0, _, Nat.zero_le _, rfl, rfl, by omega, by omega⟩
      case round =>
        obtain ⟨k, z, hk, rfl, rfl, hz0, hz1⟩ := hrel
        by_cases hlt : k < n1
        · obtain ⟨b, off, rfl, hc⟩ := V1.out (by omega)
          have f := hc k hlt
          have g := S1.out k
          clear hc
          go_wp2
          any_goals (go_ret; exact ⟨Sized.no, rfl⟩)
          go_round
          case rel => exact ⟨k + 1, _, by omega, by go_num, rfl, by omega, by omega⟩
          case measure => simp [intOf]; omega
        · go_wp2
          try any_goals (go_ret; exact ⟨Sized.no, rfl⟩)
          go_loop [15, 18] (fun t i => ∃ (k : Nat) (z : Int), k ≤ n2 ∧ i = .int .i64 k ∧ t = .int .i64 z ∧ 0 ≤ z ∧ z ≤ 1048576) (fun _ i => n2 - (intOf i).toNat)
          case atStart => exact ⟨0, _, Nat.zero_le _, rfl, rfl, by omega, by omega⟩
          case round =>
            obtain ⟨k, z, hk, rfl, rfl, hz0, hz1⟩ := hrel
            by_cases hlt : k < n2
            · obtain ⟨b, off, rfl, hc⟩ := V2.out (by omega)
              have f := hc k hlt
              have g := S2.out k
              clear hc
              go_wp2
              any_goals (go_ret; exact ⟨Sized.no, rfl⟩)
              go_round
              case rel => exact ⟨k + 1, _, by omega, by go_num, rfl, by omega, by omega⟩
              case measure => simp [intOf]; omega
            · go_wp2
              go_ret
              exact ⟨Sized.yes (by omega) (by omega), rfl⟩

end Go.Proofs.Qxb6630208a
