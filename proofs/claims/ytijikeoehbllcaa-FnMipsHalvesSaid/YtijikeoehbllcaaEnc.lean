/- Contracts of the encoders of the forms I, S, U, B and J of RISC-V: a number that fits is put into its field; another is an error. -/
import Derived.Test.YtijikeoehbllcaaErr
import Derived.Test.YtijikeoehbllcaaSpec
namespace Go.Proofs.Ytijikeoehbllcaa.Wk
set_option linter.unusedVariables false
open Go.RowKit Go.Proofs.Ytijikeoehbllcaa.Aid
theorem joinu (j : Nat) {x y : Int} (hx : x % 2 ^ j = 0) (h0 : 0 ≤ y) (hj : y < 2 ^ j) (hw : j ≤ 32) (hx0 : 0 ≤ x) (hr : x + y < 4294967296) : bits .or .u32 x y = x + y := by
  rw [or_mid .u32 0 j (by rw [hx]; decide) (by omega) h0 hj (by simp only [IntKind.bits]; omega) (by omega), wrap_u32]
  omega
theorem segu (n : Nat) (x m : Int) (hm : m = 2 ^ n - 1) (hn : n ≤ 32) : bits .and .u32 x m = x % 2 ^ n := by
  have h3 : (2 : Int) ^ n ≤ 2 ^ 32 := by exact_mod_cast Nat.pow_le_pow_right (by decide) hn
  have := and_seg .u32 0 n x (m := m) (by rw [hm]; simp) (by rw [hm]; simp only [IntKind.max, IntKind.bits, IntKind.signed]; simp; omega) (by simp only [IntKind.bits]; omega)
  simpa using this
def eI (x : Int) : Int := x * 1048576
def eU (x : Int) : Int := x * 4096
def eS (x : Int) : Int := x / 32 * 33554432 + x % 32 * 128
theorem eS_eq (x : Int) (h1 : -2048 ≤ x) (h2 : x ≤ 2047) : bits .or .i64 (x / 32 * 33554432) (bits .and .i64 x 31 * 128) = eS x := by
  have e : bits .and .i64 x 31 = x % 32 := by simpa using and_seg .i64 0 5 x (m := 31) (by decide) (by decide) (by decide)
  rw [e, or_mid .i64 0 25 (by omega) (by omega) (by omega) (by omega) (by decide) (by decide), wrap_i64, w64 (by omega) (by omega)]
  rfl
theorem and31 (x : Int) : 0 ≤ bits .and .i64 x 31 ∧ bits .and .i64 x 31 ≤ 31 := by
  have e : bits .and .i64 x 31 = x % 32 := by simpa using and_seg .i64 0 5 x (m := 31) (by decide) (by decide) (by decide)
  omega
def eB (u : Int) : Int := u / 4096 % 2 * 2147483648 + u / 32 % 64 * 33554432 + u / 2 % 16 * 256 + u / 2048 % 2 * 128
theorem eB_eq (u : Int) (h0 : 0 ≤ u) (h1 : u < 4294967296) : bits .or .u32 (bits .or .u32 (bits .or .u32 ((u / 4096 * 2147483648) % 4294967296) ((bits .and .u32 (u / 32) 63 * 33554432) % 4294967296)) ((bits .and .u32 (u / 2) 15 * 256) % 4294967296)) ((bits .and .u32 (u / 2048) 1 * 128) % 4294967296) = eB u := by
  have s0 : bits .and .u32 (u / 32) 63 = u / 32 % 64 := segu 6 _ _ (by decide) (by decide)
  have s1 : bits .and .u32 (u / 2) 15 = u / 2 % 16 := segu 4 _ _ (by decide) (by decide)
  have s2 : bits .and .u32 (u / 2048) 1 = u / 2048 % 2 := segu 1 _ _ (by decide) (by decide)
  have p0 : (u / 4096 * 2147483648) % 4294967296 = u / 4096 % 2 * 2147483648 := by omega
  have p1 : (bits .and .u32 (u / 32) 63 * 33554432) % 4294967296 = u / 32 % 64 * 33554432 := by rw [s0]; omega
  have p2 : (bits .and .u32 (u / 2) 15 * 256) % 4294967296 = u / 2 % 16 * 256 := by rw [s1]; omega
  have p3 : (bits .and .u32 (u / 2048) 1 * 128) % 4294967296 = u / 2048 % 2 * 128 := by rw [s2]; omega
  rw [p0, p1, p2, p3]
  rw [joinu 31 (x := u / 4096 % 2 * 2147483648) (y := u / 32 % 64 * 33554432) (by omega) (by omega) (by omega) (by decide) (by omega) (by omega),
    joinu 25 (x := u / 4096 % 2 * 2147483648 + u / 32 % 64 * 33554432) (y := u / 2 % 16 * 256) (by omega) (by omega) (by omega) (by decide) (by omega) (by omega),
    joinu 8 (x := u / 4096 % 2 * 2147483648 + u / 32 % 64 * 33554432 + u / 2 % 16 * 256) (y := u / 2048 % 2 * 128) (by omega) (by omega) (by omega) (by decide) (by omega) (by omega)]
  rfl
theorem eB_mod (x : Int) : eB (x % 4294967296) = eB x := by
  unfold eB
  have q0 : x % 4294967296 / 4096 % 2 = x / 4096 % 2 := by omega
  have q1 : x % 4294967296 / 32 % 64 = x / 32 % 64 := by omega
  have q2 : x % 4294967296 / 2 % 16 = x / 2 % 16 := by omega
  have q3 : x % 4294967296 / 2048 % 2 = x / 2048 % 2 := by omega
  rw [q0, q1, q2, q3]
theorem eB_in (x : Int) : 0 ≤ eB x ∧ eB x < 4294967296 := by unfold eB; omega
theorem rawB (u : Int) (w : World) (h0 : 0 ≤ u) (h1 : u < 4294967296) : Calls Try.prog 53 #[.int .u32 u] w fun e w' => e = .returned (.int .u32 (eB u)) ∧ w = w' := by
  have H := Lib.hid (eB_eq u h0 h1)
  go_enter Try.func53, Try.ntmps53
  go_wp2
  go_ret
  exact ⟨ret_int H.out, rfl⟩
def eJ (u : Int) : Int := u / 1048576 % 2 * 2147483648 + u / 2 % 1024 * 2097152 + u / 2048 % 2 * 1048576 + u / 4096 % 256 * 4096
theorem eJ_eq (u : Int) (h0 : 0 ≤ u) (h1 : u < 4294967296) : bits .or .u32 (bits .or .u32 (bits .or .u32 ((u / 1048576 * 2147483648) % 4294967296) ((bits .and .u32 (u / 2) 1023 * 2097152) % 4294967296)) ((bits .and .u32 (u / 2048) 1 * 1048576) % 4294967296)) ((bits .and .u32 (u / 4096) 255 * 4096) % 4294967296) = eJ u := by
  have s0 : bits .and .u32 (u / 2) 1023 = u / 2 % 1024 := segu 10 _ _ (by decide) (by decide)
  have s1 : bits .and .u32 (u / 2048) 1 = u / 2048 % 2 := segu 1 _ _ (by decide) (by decide)
  have s2 : bits .and .u32 (u / 4096) 255 = u / 4096 % 256 := segu 8 _ _ (by decide) (by decide)
  have p0 : (u / 1048576 * 2147483648) % 4294967296 = u / 1048576 % 2 * 2147483648 := by omega
  have p1 : (bits .and .u32 (u / 2) 1023 * 2097152) % 4294967296 = u / 2 % 1024 * 2097152 := by rw [s0]; omega
  have p2 : (bits .and .u32 (u / 2048) 1 * 1048576) % 4294967296 = u / 2048 % 2 * 1048576 := by rw [s1]; omega
  have p3 : (bits .and .u32 (u / 4096) 255 * 4096) % 4294967296 = u / 4096 % 256 * 4096 := by rw [s2]; omega
  rw [p0, p1, p2, p3]
  rw [joinu 31 (x := u / 1048576 % 2 * 2147483648) (y := u / 2 % 1024 * 2097152) (by omega) (by omega) (by omega) (by decide) (by omega) (by omega),
    joinu 21 (x := u / 1048576 % 2 * 2147483648 + u / 2 % 1024 * 2097152) (y := u / 2048 % 2 * 1048576) (by omega) (by omega) (by omega) (by decide) (by omega) (by omega),
    joinu 20 (x := u / 1048576 % 2 * 2147483648 + u / 2 % 1024 * 2097152 + u / 2048 % 2 * 1048576) (y := u / 4096 % 256 * 4096) (by omega) (by omega) (by omega) (by decide) (by omega) (by omega)]
  rfl
theorem eJ_mod (x : Int) : eJ (x % 4294967296) = eJ x := by
  unfold eJ
  have q0 : x % 4294967296 / 1048576 % 2 = x / 1048576 % 2 := by omega
  have q1 : x % 4294967296 / 2 % 1024 = x / 2 % 1024 := by omega
  have q2 : x % 4294967296 / 2048 % 2 = x / 2048 % 2 := by omega
  have q3 : x % 4294967296 / 4096 % 256 = x / 4096 % 256 := by omega
  rw [q0, q1, q2, q3]
theorem eJ_in (x : Int) : 0 ≤ eJ x ∧ eJ x < 4294967296 := by unfold eJ; omega
theorem rawJ (u : Int) (w : World) (h0 : 0 ≤ u) (h1 : u < 4294967296) : Calls Try.prog 51 #[.int .u32 u] w fun e w' => e = .returned (.int .u32 (eJ u)) ∧ w = w' := by
  have H := Lib.hid (eJ_eq u h0 h1)
  go_enter Try.func51, Try.ntmps51
  go_wp2
  go_ret
  exact ⟨ret_int H.out, rfl⟩
theorem encI_in (x : Int) (w : World) (h1 : -2048 ≤ x) (h2 : x ≤ 2047) : Calls Try.prog 41 #[.int .i64 x] w fun e w' => e = .returned (.tuple #[.int .i64 (eI x), .nilIface]) ∧ w = w' := by
  have c := ifits_in x 12 (-2048) 2047 w (by simp [Wide]) h1 h2
  go_enter Try.func41, Try.ntmps41
  go_wp2_with (go_at_call 49; refine c.mono ?_; rintro e w' ⟨rfl, rfl⟩)
  go_ret2
  exact ⟨rfl, rfl⟩
theorem encI_out (x : Int) (w : World) (h : x < -2048 ∨ 2047 < x) : Calls Try.prog 41 #[.int .i64 x] w fun e w' => (∃ v, Err v ∧ e = .returned (.tuple #[.int .i64 0, v])) ∧ Ext w w' := by
  have c := ifits_out x 12 (-2048) 2047 w (by simp [Wide]) h
  clear h
  go_enter Try.func41, Try.ntmps41
  go_wp2_with (go_at_call 49; refine c.mono ?_; rintro e w' ⟨⟨v, ⟨a, rfl⟩, rfl⟩, hx⟩)
  go_ret2
  exact ⟨⟨_, ⟨_, rfl⟩, rfl⟩, hx⟩
theorem encS_in (x : Int) (w : World) (h1 : -2048 ≤ x) (h2 : x ≤ 2047) : Calls Try.prog 45 #[.int .i64 x] w fun e w' => e = .returned (.tuple #[.int .i64 (eS x), .nilIface]) ∧ w = w' := by
  have c := ifits_in x 12 (-2048) 2047 w (by simp [Wide]) h1 h2
  have H := Lib.hid (eS_eq x h1 h2)
  obtain ⟨g1, g2⟩ := and31 x
  go_enter Try.func45, Try.ntmps45
  go_wp2_with (go_at_call 49; refine c.mono ?_; rintro e w' ⟨rfl, rfl⟩)
  go_ret2
  exact ⟨by rw [show (bits .or .i64 (x / 32 * 33554432) (bits .and .i64 x 31 * 128)) = eS x from H.out]; rfl, rfl⟩
theorem encS_out (x : Int) (w : World) (h : x < -2048 ∨ 2047 < x) : Calls Try.prog 45 #[.int .i64 x] w fun e w' => (∃ v, Err v ∧ e = .returned (.tuple #[.int .i64 0, v])) ∧ Ext w w' := by
  have c := ifits_out x 12 (-2048) 2047 w (by simp [Wide]) h
  clear h
  go_enter Try.func45, Try.ntmps45
  go_wp2_with (go_at_call 49; refine c.mono ?_; rintro e w' ⟨⟨v, ⟨a, rfl⟩, rfl⟩, hx⟩)
  go_ret2
  exact ⟨⟨_, ⟨_, rfl⟩, rfl⟩, hx⟩
theorem encU_in (x : Int) (w : World) (h1 : -524288 ≤ x) (h2 : x ≤ 524287) : Calls Try.prog 40 #[.int .i64 x] w fun e w' => e = .returned (.tuple #[.int .i64 (eU x), .nilIface]) ∧ w = w' := by
  have c := ifits_in x 20 (-524288) 524287 w (by simp [Wide]) h1 h2
  go_enter Try.func40, Try.ntmps40
  go_wp2_with (go_at_call 49; refine c.mono ?_; rintro e w' ⟨rfl, rfl⟩)
  go_ret2
  exact ⟨rfl, rfl⟩
theorem encU_out (x : Int) (w : World) (h : x < -524288 ∨ 524287 < x) : Calls Try.prog 40 #[.int .i64 x] w fun e w' => (∃ v, Err v ∧ e = .returned (.tuple #[.int .i64 0, v])) ∧ Ext w w' := by
  have c := ifits_out x 20 (-524288) 524287 w (by simp [Wide]) h
  clear h
  go_enter Try.func40, Try.ntmps40
  go_wp2_with (go_at_call 49; refine c.mono ?_; rintro e w' ⟨⟨v, ⟨a, rfl⟩, rfl⟩, hx⟩)
  go_ret2
  exact ⟨⟨_, ⟨_, rfl⟩, rfl⟩, hx⟩
theorem encB_in (x : Int) (w : World) (h1 : -4096 ≤ x) (h2 : x ≤ 4095) (he : x % 2 = 0) : Calls Try.prog 42 #[.int .i64 x] w fun e w' => e = .returned (.tuple #[.int .i64 (eB x), .nilIface]) ∧ w = w' := by
  have c := ifits_in x 13 (-4096) 4095 w (by simp [Wide]) h1 h2
  have d := even_in x w he
  have r := rawB (x % 4294967296) w (by omega) (by omega)
  rw [eB_mod] at r
  obtain ⟨g1, g2⟩ := eB_in x
  clear he
  go_enter Try.func42, Try.ntmps42
  go_wp2_with (first | (go_at_call 49; refine c.mono ?_; rintro e w' ⟨rfl, rfl⟩) | (go_at_call 50; refine d.mono ?_; rintro e w' ⟨rfl, rfl⟩) | (go_at_call 53; refine r.mono ?_; rintro e w' ⟨rfl, rfl⟩))
  go_ret2
  exact ⟨rfl, rfl⟩
theorem encB_out (x : Int) (w : World) (h : x < -4096 ∨ 4095 < x) : Calls Try.prog 42 #[.int .i64 x] w fun e w' => (∃ v, Err v ∧ e = .returned (.tuple #[.int .i64 0, v])) ∧ Ext w w' := by
  have c := ifits_out x 13 (-4096) 4095 w (by simp [Wide]) h
  clear h
  go_enter Try.func42, Try.ntmps42
  go_wp2_with (go_at_call 49; refine c.mono ?_; rintro e w' ⟨⟨v, ⟨a, rfl⟩, rfl⟩, hx⟩)
  go_ret2
  exact ⟨⟨_, ⟨_, rfl⟩, rfl⟩, hx⟩
theorem encB_odd (x : Int) (w : World) (h1 : -4096 ≤ x) (h2 : x ≤ 4095) (ho : x % 2 = 1) : Calls Try.prog 42 #[.int .i64 x] w fun e w' => (∃ v, Err v ∧ e = .returned (.tuple #[.int .i64 0, v])) ∧ Ext w w' := by
  have c := ifits_in x 13 (-4096) 4095 w (by simp [Wide]) h1 h2
  have d := even_out x w ho
  clear ho
  go_enter Try.func42, Try.ntmps42
  go_wp2_with (first | (go_at_call 49; refine c.mono ?_; rintro e w' ⟨rfl, rfl⟩) | (go_at_call 50; refine d.mono ?_; rintro e w' ⟨⟨v, ⟨a, rfl⟩, rfl⟩, hx⟩))
  go_ret2
  exact ⟨⟨_, ⟨_, rfl⟩, rfl⟩, hx⟩
/-- Either way out. -/
theorem encB_bad (x : Int) (w : World) (h : ¬ (-4096 ≤ x ∧ x ≤ 4095 ∧ x % 2 = 0)) : Calls Try.prog 42 #[.int .i64 x] w fun e w' => (∃ v, Err v ∧ e = .returned (.tuple #[.int .i64 0, v])) ∧ Ext w w' := by
  by_cases h1 : x < -4096 ∨ 4095 < x
  · exact encB_out x w h1
  · exact encB_odd x w (by omega) (by omega) (by omega)
theorem encJ_in (x : Int) (w : World) (h1 : -1048576 ≤ x) (h2 : x ≤ 1048575) (he : x % 2 = 0) : Calls Try.prog 38 #[.int .i64 x] w fun e w' => e = .returned (.tuple #[.int .i64 (eJ x), .nilIface]) ∧ w = w' := by
  have c := ifits_in x 21 (-1048576) 1048575 w (by simp [Wide]) h1 h2
  have d := even_in x w he
  have r := rawJ (x % 4294967296) w (by omega) (by omega)
  rw [eJ_mod] at r
  obtain ⟨g1, g2⟩ := eJ_in x
  clear he
  go_enter Try.func38, Try.ntmps38
  go_wp2_with (first | (go_at_call 49; refine c.mono ?_; rintro e w' ⟨rfl, rfl⟩) | (go_at_call 50; refine d.mono ?_; rintro e w' ⟨rfl, rfl⟩) | (go_at_call 51; refine r.mono ?_; rintro e w' ⟨rfl, rfl⟩))
  go_ret2
  exact ⟨rfl, rfl⟩
theorem encJ_out (x : Int) (w : World) (h : x < -1048576 ∨ 1048575 < x) : Calls Try.prog 38 #[.int .i64 x] w fun e w' => (∃ v, Err v ∧ e = .returned (.tuple #[.int .i64 0, v])) ∧ Ext w w' := by
  have c := ifits_out x 21 (-1048576) 1048575 w (by simp [Wide]) h
  clear h
  go_enter Try.func38, Try.ntmps38
  go_wp2_with (go_at_call 49; refine c.mono ?_; rintro e w' ⟨⟨v, ⟨a, rfl⟩, rfl⟩, hx⟩)
  go_ret2
  exact ⟨⟨_, ⟨_, rfl⟩, rfl⟩, hx⟩
theorem encJ_odd (x : Int) (w : World) (h1 : -1048576 ≤ x) (h2 : x ≤ 1048575) (ho : x % 2 = 1) : Calls Try.prog 38 #[.int .i64 x] w fun e w' => (∃ v, Err v ∧ e = .returned (.tuple #[.int .i64 0, v])) ∧ Ext w w' := by
  have c := ifits_in x 21 (-1048576) 1048575 w (by simp [Wide]) h1 h2
  have d := even_out x w ho
  clear ho
  go_enter Try.func38, Try.ntmps38
  go_wp2_with (first | (go_at_call 49; refine c.mono ?_; rintro e w' ⟨rfl, rfl⟩) | (go_at_call 50; refine d.mono ?_; rintro e w' ⟨⟨v, ⟨a, rfl⟩, rfl⟩, hx⟩))
  go_ret2
  exact ⟨⟨_, ⟨_, rfl⟩, rfl⟩, hx⟩
/-- Either way out. -/
theorem encJ_bad (x : Int) (w : World) (h : ¬ (-1048576 ≤ x ∧ x ≤ 1048575 ∧ x % 2 = 0)) : Calls Try.prog 38 #[.int .i64 x] w fun e w' => (∃ v, Err v ∧ e = .returned (.tuple #[.int .i64 0, v])) ∧ Ext w w' := by
  by_cases h1 : x < -1048576 ∨ 1048575 < x
  · exact encJ_out x w h1
  · exact encJ_odd x w (by omega) (by omega) (by omega)
end Go.Proofs.Ytijikeoehbllcaa.Wk
