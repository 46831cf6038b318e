/- The law FnImmrot returns true: a number of 32 bits is told as eight bits that are turned to the right by twice a number of four bits, with bit 25 set, and 0 is told where there are none such: for every number of 32 bits; no condition. -/
import Derived.Test.YtcfeljdbjhamiaaRows
import Derived.Test.YtcfeljdbjhamiaaAid
import Derived.Test.YtcfeljdbjhamiaaWorld
namespace Go.Proofs.Ytcfeljdbjhamiaa.Wk
set_option linter.unusedVariables false
open Go.RowKit Go.Proofs.Ytcfeljdbjhamiaa.Aid
theorem segu (n : Nat) (x m : Int) (hm : m = 2 ^ n - 1) (hn : n ≤ 32) : bits .and .u32 x m = x % 2 ^ n := by
  have h3 : (2 : Int) ^ n ≤ 2 ^ 32 := by exact_mod_cast Nat.pow_le_pow_right (by decide) hn
  have := and_seg .u32 0 n x (m := m) (by rw [hm]; simp) (by rw [hm]; simp only [IntKind.max, IntKind.bits, IntKind.signed]; simp; omega) (by simp only [IntKind.bits]; omega)
  simpa using this
theorem joinu (j : Nat) {x y : Int} (hx : x % 2 ^ j = 0) (h0 : 0 ≤ y) (hj : y < 2 ^ j) (hw : j ≤ 32) (hx0 : 0 ≤ x) (hr : x + y < 4294967296) : bits .or .u32 x y = x + y := by
  rw [or_mid .u32 0 j (by rw [hx]; decide) (by omega) h0 hj (by simp only [IntKind.bits]; omega) (by omega), wrap_u32]
  omega
/-- Turned to the left by two, k times. -/
def rot (v : Int) : Nat → Int
  | 0 => v
  | k + 1 => rot v k * 4 % 4294967296 + rot v k / 1073741824
theorem rot_in (v : Int) (h0 : 0 ≤ v) (h1 : v < 4294967296) (k : Nat) : 0 ≤ rot v k ∧ rot v k < 4294967296 := by
  induction k with
  | zero => exact ⟨h0, h1⟩
  | succ k ih => simp only [rot]; omega
theorem step_or (x : Int) (h0 : 0 ≤ x) (h1 : x < 4294967296) : bits .or .u32 (x * 4 % 4294967296) (x / 1073741824) = x * 4 % 4294967296 + x / 1073741824 := joinu 2 (by omega) (by omega) (by omega) (by decide) (by omega) (by omega)
theorem small (x : Int) (h0 : 0 ≤ x) (h1 : x < 4294967296) : bits .andNot .u32 x 255 = x - x % 256 := by
  rw [andNot_eq, segu 8 _ _ (by decide) (by decide), wrap_u32]; omega
theorem told (k : Nat) (x : Int) (hk : k < 16) (h0 : 0 ≤ x) (h1 : x < 256) : bits .or .u32 (bits .or .u32 ((k : Int) * 256) x) 33554432 = 33554432 + k * 256 + x := by
  rw [joinu 8 (x := (k : Int) * 256) (y := x) (by omega) (by omega) (by omega) (by decide) (by omega) (by omega), or_comm', joinu 25 (by decide) (by omega) (by omega) (by decide) (by omega) (by omega)]
  omega
set_option maxHeartbeats 1600000 in
/-- What Immrot tells: n rounds are left in vain, then (below 16) the number fits. -/
theorem imm_any (v : Int) (n : Nat) (r : Int) (w : World) (h0 : 0 ≤ v) (h1 : v < 4294967296) (hn : n ≤ 16) (hno : ∀ j, j < n → 256 ≤ rot v j) (hr : if n < 16 then rot v n < 256 ∧ r = 33554432 + n * 256 + rot v n else r = 0) :
    Calls Try.prog 13 #[.int .u32 v] w fun e w' => e = .returned (.int .u32 r) ∧ w = w' := by
  have HN := Lib.hid hno
  have HR := Lib.hid hr
  clear hno hr
  go_enter Try.func13, Try.ntmps13
  go_wp2
  go_loop [0, 3] (fun x i => ∃ k : Nat, k ≤ n ∧ i = .int .i64 k ∧ x = .int .u32 (rot v k)) (fun _ i => 16 - (intOf i).toNat)
  case atStart => exact ⟨0, Nat.zero_le _, rfl, rfl⟩
  case round =>
    obtain ⟨k, hk, rfl, rfl⟩ := hrel
    obtain ⟨b0, b1⟩ := rot_in v h0 h1 k
    by_cases hlt : k < n
    · have h256 := HN.out k hlt
      have X1 : (bits .andNot .u32 (rot v k) 255 == 0) = false := by rw [small _ b0 b1, beq_eq_false_iff_ne]; omega
      have hs : Hid (rot v (k + 1) = bits .or .u32 (rot v k * 4 % 4294967296) (rot v k / 1073741824)) := (step_or _ b0 b1).symm
      clear HR HN
      have hk16 : k < 16 := by omega
      go_wp2
      go_round
      case rel => exact ⟨k + 1, by omega, by go_num, by rw [hs.out]⟩
      case measure => simp [intOf]; omega
    · obtain rfl : k = n := by omega
      by_cases h16 : k < 16
      · have h := HR.out
        rw [if_pos h16] at h
        obtain ⟨h256, hr⟩ := h
        have X1 : (bits .andNot .u32 (rot v k) 255 == 0) = true := by rw [small _ b0 b1, beq_iff_eq]; omega
        have T := Lib.hid ((told k (rot v k) h16 b0 h256).trans hr.symm)
        clear HR HN hr
        go_wp2
        go_ret
        exact ⟨ret_int T.out, rfl⟩
      · have h := HR.out
        rw [if_neg h16] at h
        obtain rfl : k = 16 := by omega
        subst h
        clear HR HN
        go_wp2
        go_ret
        exact ⟨rfl, rfl⟩
theorem imp_any (v r : Int) (w : World) (c : Calls Try.prog 13 #[.int .u32 v] w fun e w' => e = .returned (.int .u32 r) ∧ w = w') :
    Calls Try.prog 10 #[.int .u32 v] w fun e w' => e = .returned (.int .u32 r) ∧ w = w' := by
  go_enter Try.func10, Try.ntmps10
  go_wp2_with (go_at_call 13; ((with_reducible refine c.mono ?_); rintro e w' ⟨rfl, rfl⟩))
  go_ret
  exact ⟨rfl, rfl⟩
theorem rot0 (v : Int) (h0 : 0 ≤ v) (h1 : v < 4294967296) : rot v 0 = v % 4294967296 * 1 + v / 4294967296 := by simp only [rot]; omega
theorem rot1 (v : Int) (h0 : 0 ≤ v) (h1 : v < 4294967296) : rot v 1 = v % 1073741824 * 4 + v / 1073741824 := by
  have e := rot0 v h0 h1
  show rot v 0 * 4 % 4294967296 + rot v 0 / 1073741824 = _
  rw [e]
  obtain ⟨h, g, l, b1, b2, b3, rfl⟩ : ∃ h g l : Int, (0 ≤ h ∧ h < 1) ∧ (0 ≤ g ∧ g < 4) ∧ (0 ≤ l ∧ l < 1073741824) ∧ v = (4 * h + g) * 1073741824 + l := ⟨v / 4294967296, v / 1073741824 % 4, v % 1073741824, by omega, by omega, by omega, by omega⟩
  clear e h0 h1
  have f5 : ((g * 1073741824 + l) * 1 + h) / 1073741824 = g := by omega
  have f6 : ((g * 1073741824 + l) * 1 + h) * 4 % 4294967296 = 4 * (l * 1 + h) := by clear f5; omega
  have f7 : 4 * (l * 1 + h) + g = l * 4 + (4 * h + g) := by clear f5 f6; omega
  have f1 : ((4 * h + g) * 1073741824 + l) % 4294967296 = g * 1073741824 + l := by clear f5 f6 f7; omega
  have f2 : ((4 * h + g) * 1073741824 + l) / 4294967296 = h := by clear f5 f6 f7 f1; omega
  have f3 : ((4 * h + g) * 1073741824 + l) % 1073741824 = l := by clear f5 f6 f7 f1 f2; omega
  have f4 : ((4 * h + g) * 1073741824 + l) / 1073741824 = 4 * h + g := by clear f5 f6 f7 f1 f2 f3; omega
  rw [f1, f2, f3, f4, f5, f6, f7]
theorem rot2 (v : Int) (h0 : 0 ≤ v) (h1 : v < 4294967296) : rot v 2 = v % 268435456 * 16 + v / 268435456 := by
  have e := rot1 v h0 h1
  show rot v 1 * 4 % 4294967296 + rot v 1 / 1073741824 = _
  rw [e]
  obtain ⟨h, g, l, b1, b2, b3, rfl⟩ : ∃ h g l : Int, (0 ≤ h ∧ h < 4) ∧ (0 ≤ g ∧ g < 4) ∧ (0 ≤ l ∧ l < 268435456) ∧ v = (4 * h + g) * 268435456 + l := ⟨v / 1073741824, v / 268435456 % 4, v % 268435456, by omega, by omega, by omega, by omega⟩
  clear e h0 h1
  have f5 : ((g * 268435456 + l) * 4 + h) / 1073741824 = g := by omega
  have f6 : ((g * 268435456 + l) * 4 + h) * 4 % 4294967296 = 4 * (l * 4 + h) := by clear f5; omega
  have f7 : 4 * (l * 4 + h) + g = l * 16 + (4 * h + g) := by clear f5 f6; omega
  have f1 : ((4 * h + g) * 268435456 + l) % 1073741824 = g * 268435456 + l := by clear f5 f6 f7; omega
  have f2 : ((4 * h + g) * 268435456 + l) / 1073741824 = h := by clear f5 f6 f7 f1; omega
  have f3 : ((4 * h + g) * 268435456 + l) % 268435456 = l := by clear f5 f6 f7 f1 f2; omega
  have f4 : ((4 * h + g) * 268435456 + l) / 268435456 = 4 * h + g := by clear f5 f6 f7 f1 f2 f3; omega
  rw [f1, f2, f3, f4, f5, f6, f7]
theorem rot3 (v : Int) (h0 : 0 ≤ v) (h1 : v < 4294967296) : rot v 3 = v % 67108864 * 64 + v / 67108864 := by
  have e := rot2 v h0 h1
  show rot v 2 * 4 % 4294967296 + rot v 2 / 1073741824 = _
  rw [e]
  obtain ⟨h, g, l, b1, b2, b3, rfl⟩ : ∃ h g l : Int, (0 ≤ h ∧ h < 16) ∧ (0 ≤ g ∧ g < 4) ∧ (0 ≤ l ∧ l < 67108864) ∧ v = (4 * h + g) * 67108864 + l := ⟨v / 268435456, v / 67108864 % 4, v % 67108864, by omega, by omega, by omega, by omega⟩
  clear e h0 h1
  have f5 : ((g * 67108864 + l) * 16 + h) / 1073741824 = g := by omega
  have f6 : ((g * 67108864 + l) * 16 + h) * 4 % 4294967296 = 4 * (l * 16 + h) := by clear f5; omega
  have f7 : 4 * (l * 16 + h) + g = l * 64 + (4 * h + g) := by clear f5 f6; omega
  have f1 : ((4 * h + g) * 67108864 + l) % 268435456 = g * 67108864 + l := by clear f5 f6 f7; omega
  have f2 : ((4 * h + g) * 67108864 + l) / 268435456 = h := by clear f5 f6 f7 f1; omega
  have f3 : ((4 * h + g) * 67108864 + l) % 67108864 = l := by clear f5 f6 f7 f1 f2; omega
  have f4 : ((4 * h + g) * 67108864 + l) / 67108864 = 4 * h + g := by clear f5 f6 f7 f1 f2 f3; omega
  rw [f1, f2, f3, f4, f5, f6, f7]
theorem rot4 (v : Int) (h0 : 0 ≤ v) (h1 : v < 4294967296) : rot v 4 = v % 16777216 * 256 + v / 16777216 := by
  have e := rot3 v h0 h1
  show rot v 3 * 4 % 4294967296 + rot v 3 / 1073741824 = _
  rw [e]
  obtain ⟨h, g, l, b1, b2, b3, rfl⟩ : ∃ h g l : Int, (0 ≤ h ∧ h < 64) ∧ (0 ≤ g ∧ g < 4) ∧ (0 ≤ l ∧ l < 16777216) ∧ v = (4 * h + g) * 16777216 + l := ⟨v / 67108864, v / 16777216 % 4, v % 16777216, by omega, by omega, by omega, by omega⟩
  clear e h0 h1
  have f5 : ((g * 16777216 + l) * 64 + h) / 1073741824 = g := by omega
  have f6 : ((g * 16777216 + l) * 64 + h) * 4 % 4294967296 = 4 * (l * 64 + h) := by clear f5; omega
  have f7 : 4 * (l * 64 + h) + g = l * 256 + (4 * h + g) := by clear f5 f6; omega
  have f1 : ((4 * h + g) * 16777216 + l) % 67108864 = g * 16777216 + l := by clear f5 f6 f7; omega
  have f2 : ((4 * h + g) * 16777216 + l) / 67108864 = h := by clear f5 f6 f7 f1; omega
  have f3 : ((4 * h + g) * 16777216 + l) % 16777216 = l := by clear f5 f6 f7 f1 f2; omega
  have f4 : ((4 * h + g) * 16777216 + l) / 16777216 = 4 * h + g := by clear f5 f6 f7 f1 f2 f3; omega
  rw [f1, f2, f3, f4, f5, f6, f7]
theorem rot5 (v : Int) (h0 : 0 ≤ v) (h1 : v < 4294967296) : rot v 5 = v % 4194304 * 1024 + v / 4194304 := by
  have e := rot4 v h0 h1
  show rot v 4 * 4 % 4294967296 + rot v 4 / 1073741824 = _
  rw [e]
  obtain ⟨h, g, l, b1, b2, b3, rfl⟩ : ∃ h g l : Int, (0 ≤ h ∧ h < 256) ∧ (0 ≤ g ∧ g < 4) ∧ (0 ≤ l ∧ l < 4194304) ∧ v = (4 * h + g) * 4194304 + l := ⟨v / 16777216, v / 4194304 % 4, v % 4194304, by omega, by omega, by omega, by omega⟩
  clear e h0 h1
  have f5 : ((g * 4194304 + l) * 256 + h) / 1073741824 = g := by omega
  have f6 : ((g * 4194304 + l) * 256 + h) * 4 % 4294967296 = 4 * (l * 256 + h) := by clear f5; omega
  have f7 : 4 * (l * 256 + h) + g = l * 1024 + (4 * h + g) := by clear f5 f6; omega
  have f1 : ((4 * h + g) * 4194304 + l) % 16777216 = g * 4194304 + l := by clear f5 f6 f7; omega
  have f2 : ((4 * h + g) * 4194304 + l) / 16777216 = h := by clear f5 f6 f7 f1; omega
  have f3 : ((4 * h + g) * 4194304 + l) % 4194304 = l := by clear f5 f6 f7 f1 f2; omega
  have f4 : ((4 * h + g) * 4194304 + l) / 4194304 = 4 * h + g := by clear f5 f6 f7 f1 f2 f3; omega
  rw [f1, f2, f3, f4, f5, f6, f7]
theorem rot6 (v : Int) (h0 : 0 ≤ v) (h1 : v < 4294967296) : rot v 6 = v % 1048576 * 4096 + v / 1048576 := by
  have e := rot5 v h0 h1
  show rot v 5 * 4 % 4294967296 + rot v 5 / 1073741824 = _
  rw [e]
  obtain ⟨h, g, l, b1, b2, b3, rfl⟩ : ∃ h g l : Int, (0 ≤ h ∧ h < 1024) ∧ (0 ≤ g ∧ g < 4) ∧ (0 ≤ l ∧ l < 1048576) ∧ v = (4 * h + g) * 1048576 + l := ⟨v / 4194304, v / 1048576 % 4, v % 1048576, by omega, by omega, by omega, by omega⟩
  clear e h0 h1
  have f5 : ((g * 1048576 + l) * 1024 + h) / 1073741824 = g := by omega
  have f6 : ((g * 1048576 + l) * 1024 + h) * 4 % 4294967296 = 4 * (l * 1024 + h) := by clear f5; omega
  have f7 : 4 * (l * 1024 + h) + g = l * 4096 + (4 * h + g) := by clear f5 f6; omega
  have f1 : ((4 * h + g) * 1048576 + l) % 4194304 = g * 1048576 + l := by clear f5 f6 f7; omega
  have f2 : ((4 * h + g) * 1048576 + l) / 4194304 = h := by clear f5 f6 f7 f1; omega
  have f3 : ((4 * h + g) * 1048576 + l) % 1048576 = l := by clear f5 f6 f7 f1 f2; omega
  have f4 : ((4 * h + g) * 1048576 + l) / 1048576 = 4 * h + g := by clear f5 f6 f7 f1 f2 f3; omega
  rw [f1, f2, f3, f4, f5, f6, f7]
theorem rot7 (v : Int) (h0 : 0 ≤ v) (h1 : v < 4294967296) : rot v 7 = v % 262144 * 16384 + v / 262144 := by
  have e := rot6 v h0 h1
  show rot v 6 * 4 % 4294967296 + rot v 6 / 1073741824 = _
  rw [e]
  obtain ⟨h, g, l, b1, b2, b3, rfl⟩ : ∃ h g l : Int, (0 ≤ h ∧ h < 4096) ∧ (0 ≤ g ∧ g < 4) ∧ (0 ≤ l ∧ l < 262144) ∧ v = (4 * h + g) * 262144 + l := ⟨v / 1048576, v / 262144 % 4, v % 262144, by omega, by omega, by omega, by omega⟩
  clear e h0 h1
  have f5 : ((g * 262144 + l) * 4096 + h) / 1073741824 = g := by omega
  have f6 : ((g * 262144 + l) * 4096 + h) * 4 % 4294967296 = 4 * (l * 4096 + h) := by clear f5; omega
  have f7 : 4 * (l * 4096 + h) + g = l * 16384 + (4 * h + g) := by clear f5 f6; omega
  have f1 : ((4 * h + g) * 262144 + l) % 1048576 = g * 262144 + l := by clear f5 f6 f7; omega
  have f2 : ((4 * h + g) * 262144 + l) / 1048576 = h := by clear f5 f6 f7 f1; omega
  have f3 : ((4 * h + g) * 262144 + l) % 262144 = l := by clear f5 f6 f7 f1 f2; omega
  have f4 : ((4 * h + g) * 262144 + l) / 262144 = 4 * h + g := by clear f5 f6 f7 f1 f2 f3; omega
  rw [f1, f2, f3, f4, f5, f6, f7]
theorem rot8 (v : Int) (h0 : 0 ≤ v) (h1 : v < 4294967296) : rot v 8 = v % 65536 * 65536 + v / 65536 := by
  have e := rot7 v h0 h1
  show rot v 7 * 4 % 4294967296 + rot v 7 / 1073741824 = _
  rw [e]
  obtain ⟨h, g, l, b1, b2, b3, rfl⟩ : ∃ h g l : Int, (0 ≤ h ∧ h < 16384) ∧ (0 ≤ g ∧ g < 4) ∧ (0 ≤ l ∧ l < 65536) ∧ v = (4 * h + g) * 65536 + l := ⟨v / 262144, v / 65536 % 4, v % 65536, by omega, by omega, by omega, by omega⟩
  clear e h0 h1
  have f5 : ((g * 65536 + l) * 16384 + h) / 1073741824 = g := by omega
  have f6 : ((g * 65536 + l) * 16384 + h) * 4 % 4294967296 = 4 * (l * 16384 + h) := by clear f5; omega
  have f7 : 4 * (l * 16384 + h) + g = l * 65536 + (4 * h + g) := by clear f5 f6; omega
  have f1 : ((4 * h + g) * 65536 + l) % 262144 = g * 65536 + l := by clear f5 f6 f7; omega
  have f2 : ((4 * h + g) * 65536 + l) / 262144 = h := by clear f5 f6 f7 f1; omega
  have f3 : ((4 * h + g) * 65536 + l) % 65536 = l := by clear f5 f6 f7 f1 f2; omega
  have f4 : ((4 * h + g) * 65536 + l) / 65536 = 4 * h + g := by clear f5 f6 f7 f1 f2 f3; omega
  rw [f1, f2, f3, f4, f5, f6, f7]
theorem rot9 (v : Int) (h0 : 0 ≤ v) (h1 : v < 4294967296) : rot v 9 = v % 16384 * 262144 + v / 16384 := by
  have e := rot8 v h0 h1
  show rot v 8 * 4 % 4294967296 + rot v 8 / 1073741824 = _
  rw [e]
  obtain ⟨h, g, l, b1, b2, b3, rfl⟩ : ∃ h g l : Int, (0 ≤ h ∧ h < 65536) ∧ (0 ≤ g ∧ g < 4) ∧ (0 ≤ l ∧ l < 16384) ∧ v = (4 * h + g) * 16384 + l := ⟨v / 65536, v / 16384 % 4, v % 16384, by omega, by omega, by omega, by omega⟩
  clear e h0 h1
  have f5 : ((g * 16384 + l) * 65536 + h) / 1073741824 = g := by omega
  have f6 : ((g * 16384 + l) * 65536 + h) * 4 % 4294967296 = 4 * (l * 65536 + h) := by clear f5; omega
  have f7 : 4 * (l * 65536 + h) + g = l * 262144 + (4 * h + g) := by clear f5 f6; omega
  have f1 : ((4 * h + g) * 16384 + l) % 65536 = g * 16384 + l := by clear f5 f6 f7; omega
  have f2 : ((4 * h + g) * 16384 + l) / 65536 = h := by clear f5 f6 f7 f1; omega
  have f3 : ((4 * h + g) * 16384 + l) % 16384 = l := by clear f5 f6 f7 f1 f2; omega
  have f4 : ((4 * h + g) * 16384 + l) / 16384 = 4 * h + g := by clear f5 f6 f7 f1 f2 f3; omega
  rw [f1, f2, f3, f4, f5, f6, f7]
theorem rot10 (v : Int) (h0 : 0 ≤ v) (h1 : v < 4294967296) : rot v 10 = v % 4096 * 1048576 + v / 4096 := by
  have e := rot9 v h0 h1
  show rot v 9 * 4 % 4294967296 + rot v 9 / 1073741824 = _
  rw [e]
  obtain ⟨h, g, l, b1, b2, b3, rfl⟩ : ∃ h g l : Int, (0 ≤ h ∧ h < 262144) ∧ (0 ≤ g ∧ g < 4) ∧ (0 ≤ l ∧ l < 4096) ∧ v = (4 * h + g) * 4096 + l := ⟨v / 16384, v / 4096 % 4, v % 4096, by omega, by omega, by omega, by omega⟩
  clear e h0 h1
  have f5 : ((g * 4096 + l) * 262144 + h) / 1073741824 = g := by omega
  have f6 : ((g * 4096 + l) * 262144 + h) * 4 % 4294967296 = 4 * (l * 262144 + h) := by clear f5; omega
  have f7 : 4 * (l * 262144 + h) + g = l * 1048576 + (4 * h + g) := by clear f5 f6; omega
  have f1 : ((4 * h + g) * 4096 + l) % 16384 = g * 4096 + l := by clear f5 f6 f7; omega
  have f2 : ((4 * h + g) * 4096 + l) / 16384 = h := by clear f5 f6 f7 f1; omega
  have f3 : ((4 * h + g) * 4096 + l) % 4096 = l := by clear f5 f6 f7 f1 f2; omega
  have f4 : ((4 * h + g) * 4096 + l) / 4096 = 4 * h + g := by clear f5 f6 f7 f1 f2 f3; omega
  rw [f1, f2, f3, f4, f5, f6, f7]
theorem rot11 (v : Int) (h0 : 0 ≤ v) (h1 : v < 4294967296) : rot v 11 = v % 1024 * 4194304 + v / 1024 := by
  have e := rot10 v h0 h1
  show rot v 10 * 4 % 4294967296 + rot v 10 / 1073741824 = _
  rw [e]
  obtain ⟨h, g, l, b1, b2, b3, rfl⟩ : ∃ h g l : Int, (0 ≤ h ∧ h < 1048576) ∧ (0 ≤ g ∧ g < 4) ∧ (0 ≤ l ∧ l < 1024) ∧ v = (4 * h + g) * 1024 + l := ⟨v / 4096, v / 1024 % 4, v % 1024, by omega, by omega, by omega, by omega⟩
  clear e h0 h1
  have f5 : ((g * 1024 + l) * 1048576 + h) / 1073741824 = g := by omega
  have f6 : ((g * 1024 + l) * 1048576 + h) * 4 % 4294967296 = 4 * (l * 1048576 + h) := by clear f5; omega
  have f7 : 4 * (l * 1048576 + h) + g = l * 4194304 + (4 * h + g) := by clear f5 f6; omega
  have f1 : ((4 * h + g) * 1024 + l) % 4096 = g * 1024 + l := by clear f5 f6 f7; omega
  have f2 : ((4 * h + g) * 1024 + l) / 4096 = h := by clear f5 f6 f7 f1; omega
  have f3 : ((4 * h + g) * 1024 + l) % 1024 = l := by clear f5 f6 f7 f1 f2; omega
  have f4 : ((4 * h + g) * 1024 + l) / 1024 = 4 * h + g := by clear f5 f6 f7 f1 f2 f3; omega
  rw [f1, f2, f3, f4, f5, f6, f7]
theorem rot12 (v : Int) (h0 : 0 ≤ v) (h1 : v < 4294967296) : rot v 12 = v % 256 * 16777216 + v / 256 := by
  have e := rot11 v h0 h1
  show rot v 11 * 4 % 4294967296 + rot v 11 / 1073741824 = _
  rw [e]
  obtain ⟨h, g, l, b1, b2, b3, rfl⟩ : ∃ h g l : Int, (0 ≤ h ∧ h < 4194304) ∧ (0 ≤ g ∧ g < 4) ∧ (0 ≤ l ∧ l < 256) ∧ v = (4 * h + g) * 256 + l := ⟨v / 1024, v / 256 % 4, v % 256, by omega, by omega, by omega, by omega⟩
  clear e h0 h1
  have f5 : ((g * 256 + l) * 4194304 + h) / 1073741824 = g := by omega
  have f6 : ((g * 256 + l) * 4194304 + h) * 4 % 4294967296 = 4 * (l * 4194304 + h) := by clear f5; omega
  have f7 : 4 * (l * 4194304 + h) + g = l * 16777216 + (4 * h + g) := by clear f5 f6; omega
  have f1 : ((4 * h + g) * 256 + l) % 1024 = g * 256 + l := by clear f5 f6 f7; omega
  have f2 : ((4 * h + g) * 256 + l) / 1024 = h := by clear f5 f6 f7 f1; omega
  have f3 : ((4 * h + g) * 256 + l) % 256 = l := by clear f5 f6 f7 f1 f2; omega
  have f4 : ((4 * h + g) * 256 + l) / 256 = 4 * h + g := by clear f5 f6 f7 f1 f2 f3; omega
  rw [f1, f2, f3, f4, f5, f6, f7]
theorem rot13 (v : Int) (h0 : 0 ≤ v) (h1 : v < 4294967296) : rot v 13 = v % 64 * 67108864 + v / 64 := by
  have e := rot12 v h0 h1
  show rot v 12 * 4 % 4294967296 + rot v 12 / 1073741824 = _
  rw [e]
  obtain ⟨h, g, l, b1, b2, b3, rfl⟩ : ∃ h g l : Int, (0 ≤ h ∧ h < 16777216) ∧ (0 ≤ g ∧ g < 4) ∧ (0 ≤ l ∧ l < 64) ∧ v = (4 * h + g) * 64 + l := ⟨v / 256, v / 64 % 4, v % 64, by omega, by omega, by omega, by omega⟩
  clear e h0 h1
  have f5 : ((g * 64 + l) * 16777216 + h) / 1073741824 = g := by omega
  have f6 : ((g * 64 + l) * 16777216 + h) * 4 % 4294967296 = 4 * (l * 16777216 + h) := by clear f5; omega
  have f7 : 4 * (l * 16777216 + h) + g = l * 67108864 + (4 * h + g) := by clear f5 f6; omega
  have f1 : ((4 * h + g) * 64 + l) % 256 = g * 64 + l := by clear f5 f6 f7; omega
  have f2 : ((4 * h + g) * 64 + l) / 256 = h := by clear f5 f6 f7 f1; omega
  have f3 : ((4 * h + g) * 64 + l) % 64 = l := by clear f5 f6 f7 f1 f2; omega
  have f4 : ((4 * h + g) * 64 + l) / 64 = 4 * h + g := by clear f5 f6 f7 f1 f2 f3; omega
  rw [f1, f2, f3, f4, f5, f6, f7]
theorem rot14 (v : Int) (h0 : 0 ≤ v) (h1 : v < 4294967296) : rot v 14 = v % 16 * 268435456 + v / 16 := by
  have e := rot13 v h0 h1
  show rot v 13 * 4 % 4294967296 + rot v 13 / 1073741824 = _
  rw [e]
  obtain ⟨h, g, l, b1, b2, b3, rfl⟩ : ∃ h g l : Int, (0 ≤ h ∧ h < 67108864) ∧ (0 ≤ g ∧ g < 4) ∧ (0 ≤ l ∧ l < 16) ∧ v = (4 * h + g) * 16 + l := ⟨v / 64, v / 16 % 4, v % 16, by omega, by omega, by omega, by omega⟩
  clear e h0 h1
  have f5 : ((g * 16 + l) * 67108864 + h) / 1073741824 = g := by omega
  have f6 : ((g * 16 + l) * 67108864 + h) * 4 % 4294967296 = 4 * (l * 67108864 + h) := by clear f5; omega
  have f7 : 4 * (l * 67108864 + h) + g = l * 268435456 + (4 * h + g) := by clear f5 f6; omega
  have f1 : ((4 * h + g) * 16 + l) % 64 = g * 16 + l := by clear f5 f6 f7; omega
  have f2 : ((4 * h + g) * 16 + l) / 64 = h := by clear f5 f6 f7 f1; omega
  have f3 : ((4 * h + g) * 16 + l) % 16 = l := by clear f5 f6 f7 f1 f2; omega
  have f4 : ((4 * h + g) * 16 + l) / 16 = 4 * h + g := by clear f5 f6 f7 f1 f2 f3; omega
  rw [f1, f2, f3, f4, f5, f6, f7]
theorem rot15 (v : Int) (h0 : 0 ≤ v) (h1 : v < 4294967296) : rot v 15 = v % 4 * 1073741824 + v / 4 := by
  have e := rot14 v h0 h1
  show rot v 14 * 4 % 4294967296 + rot v 14 / 1073741824 = _
  rw [e]
  obtain ⟨h, g, l, b1, b2, b3, rfl⟩ : ∃ h g l : Int, (0 ≤ h ∧ h < 268435456) ∧ (0 ≤ g ∧ g < 4) ∧ (0 ≤ l ∧ l < 4) ∧ v = (4 * h + g) * 4 + l := ⟨v / 16, v / 4 % 4, v % 4, by omega, by omega, by omega, by omega⟩
  clear e h0 h1
  have f5 : ((g * 4 + l) * 268435456 + h) / 1073741824 = g := by omega
  have f6 : ((g * 4 + l) * 268435456 + h) * 4 % 4294967296 = 4 * (l * 268435456 + h) := by clear f5; omega
  have f7 : 4 * (l * 268435456 + h) + g = l * 1073741824 + (4 * h + g) := by clear f5 f6; omega
  have f1 : ((4 * h + g) * 4 + l) % 16 = g * 4 + l := by clear f5 f6 f7; omega
  have f2 : ((4 * h + g) * 4 + l) / 16 = h := by clear f5 f6 f7 f1; omega
  have f3 : ((4 * h + g) * 4 + l) % 4 = l := by clear f5 f6 f7 f1 f2; omega
  have f4 : ((4 * h + g) * 4 + l) / 4 = 4 * h + g := by clear f5 f6 f7 f1 f2 f3; omega
  rw [f1, f2, f3, f4, f5, f6, f7]
end Go.Proofs.Ytcfeljdbjhamiaa.Wk
