/- Contracts of the reference's readers of LoongArch, AArch64 and POWER: which number stands in an instruction of 32 bits. -/
import Derived.Test.YtcchhdjpmnhfmaaSpec
namespace Go.Proofs.Ytcchhdjpmnhfmaa.Wk
set_option linter.unusedVariables false
open Go.RowKit Go.Proofs.Ytcchhdjpmnhfmaa.Aid
/-- Two numbers put together: the lower one below bit j. -/
theorem join (j : Nat) {x y : Int} (hx : x % 2 ^ j = 0) (h0 : 0 ≤ y) (hj : y < 2 ^ j) (hw : j ≤ 62) (hx0 : 0 ≤ x) (hr : x < 4611686018427387904) : bits .or .i64 x y = x + y := by
  have h3 : (2 : Int) ^ j ≤ 2 ^ 62 := by exact_mod_cast Nat.pow_le_pow_right (by decide) hw
  rw [or_mid .i64 0 j (by rw [hx]; decide) (by omega) h0 hj (by simp only [IntKind.bits]; omega) (by omega), wrap_i64, w64 (by omega) (by omega)]
set_option maxHeartbeats 800000 in
theorem rdLoong20 (i r : Int) (w : World) (h0 : 0 ≤ i) (h1 : i < 4294967296) (hr : sx 20 (i / 32 % 1048576) = r) : Calls Try.prog 19 #[.int .u32 i] w fun e w' => e = .returned (.int .i64 (r)) ∧ ∃ nq, w' = w.drewN nq := by
  have f5_20 := fun W => field_as i 5 20 (i / 32 % 1048576) W h0 h1 (by decide) (by decide) (by decide) (by decide) (by simp)
  have l0 : 0 ≤ i / 32 % 1048576 := by omega
  have u0 : i / 32 % 1048576 < 1048576 := by omega
  have s := fun W => sext_as (i / 32 % 1048576) 20 r W (by decide) (by decide) hr
  clear hr
  go_enter Try.func19, Try.ntmps19
  go_wp2_with (first | (go_at_call 32; (with_reducible refine (f5_20 _).mono ?_); rintro e w' ⟨rfl, nq, rfl⟩) | (go_at_call 31; (with_reducible refine (s _).mono ?_); rintro e w' ⟨rfl, rfl⟩))
  go_ret
  exact ⟨rfl, _, rfl⟩
set_option maxHeartbeats 800000 in
theorem rdLoong12 (i r : Int) (w : World) (h0 : 0 ≤ i) (h1 : i < 4294967296) (hr : sx 12 (i / 1024 % 4096) = r) : Calls Try.prog 20 #[.int .u32 i] w fun e w' => e = .returned (.int .i64 (r)) ∧ ∃ nq, w' = w.drewN nq := by
  have f10_12 := fun W => field_as i 10 12 (i / 1024 % 4096) W h0 h1 (by decide) (by decide) (by decide) (by decide) (by simp)
  have l0 : 0 ≤ i / 1024 % 4096 := by omega
  have u0 : i / 1024 % 4096 < 4096 := by omega
  have s := fun W => sext_as (i / 1024 % 4096) 12 r W (by decide) (by decide) hr
  clear hr
  go_enter Try.func20, Try.ntmps20
  go_wp2_with (first | (go_at_call 32; (with_reducible refine (f10_12 _).mono ?_); rintro e w' ⟨rfl, nq, rfl⟩) | (go_at_call 31; (with_reducible refine (s _).mono ?_); rintro e w' ⟨rfl, rfl⟩))
  go_ret
  exact ⟨rfl, _, rfl⟩
set_option maxHeartbeats 800000 in
theorem rdLoong16 (i r : Int) (w : World) (h0 : 0 ≤ i) (h1 : i < 4294967296) (hr : sx 16 (i / 1024 % 65536) = r) : Calls Try.prog 18 #[.int .u32 i] w fun e w' => e = .returned (.int .i64 (r * 4)) ∧ ∃ nq, w' = w.drewN nq := by
  have f10_16 := fun W => field_as i 10 16 (i / 1024 % 65536) W h0 h1 (by decide) (by decide) (by decide) (by decide) (by simp)
  have l0 : 0 ≤ i / 1024 % 65536 := by omega
  have u0 : i / 1024 % 65536 < 65536 := by omega
  have s := fun W => sext_as (i / 1024 % 65536) 16 r W (by decide) (by decide) hr
  have q0 : -32768 ≤ r := by rw [← hr]; simp only [sx]; omega
  have q1 : r < 32768 := by rw [← hr]; simp only [sx]; omega
  clear hr
  go_enter Try.func18, Try.ntmps18
  go_wp2_with (first | (go_at_call 32; (with_reducible refine (f10_16 _).mono ?_); rintro e w' ⟨rfl, nq, rfl⟩) | (go_at_call 31; (with_reducible refine (s _).mono ?_); rintro e w' ⟨rfl, rfl⟩))
  go_ret
  exact ⟨rfl, _, rfl⟩
set_option maxHeartbeats 800000 in
theorem rdLoong21 (i r : Int) (w : World) (h0 : 0 ≤ i) (h1 : i < 4294967296) (hr : sx 21 (i % 32 * 65536 + i / 1024 % 65536) = r) : Calls Try.prog 17 #[.int .u32 i] w fun e w' => e = .returned (.int .i64 (r * 4)) ∧ ∃ nq, w' = w.drewN nq := by
  have f0_5 := fun W => field_as i 0 5 (i % 32) W h0 h1 (by decide) (by decide) (by decide) (by decide) (by simp)
  have f10_16 := fun W => field_as i 10 16 (i / 1024 % 65536) W h0 h1 (by decide) (by decide) (by decide) (by decide) (by simp)
  have l0 : 0 ≤ i % 32 := by omega
  have u0 : i % 32 < 32 := by omega
  have l1 : 0 ≤ i / 1024 % 65536 := by omega
  have u1 : i / 1024 % 65536 < 65536 := by omega
  have s := fun W => sext_as (bits .or .i64 (i % 32 * 65536) (i / 1024 % 65536)) 21 r W (by decide) (by decide) (by rw [join 16 (x := i % 32 * 65536) (y := i / 1024 % 65536) (by omega) (by omega) (by omega) (by decide) (by omega) (by omega)]; exact hr)
  have q0 : -1048576 ≤ r := by rw [← hr]; simp only [sx]; omega
  have q1 : r < 1048576 := by rw [← hr]; simp only [sx]; omega
  clear hr
  go_enter Try.func17, Try.ntmps17
  go_wp2_with (first | (go_at_call 32; (with_reducible refine (f0_5 _).mono ?_); rintro e w' ⟨rfl, nq, rfl⟩) | (go_at_call 32; (with_reducible refine (f10_16 _).mono ?_); rintro e w' ⟨rfl, nq, rfl⟩) | (go_at_call 31; (with_reducible refine (s _).mono ?_); rintro e w' ⟨rfl, rfl⟩))
  go_ret
  exact ⟨rfl, _, rfl⟩
set_option maxHeartbeats 800000 in
theorem rdLoong26 (i r : Int) (w : World) (h0 : 0 ≤ i) (h1 : i < 4294967296) (hr : sx 26 (i % 1024 * 65536 + i / 1024 % 65536) = r) : Calls Try.prog 16 #[.int .u32 i] w fun e w' => e = .returned (.int .i64 (r * 4)) ∧ ∃ nq, w' = w.drewN nq := by
  have f0_10 := fun W => field_as i 0 10 (i % 1024) W h0 h1 (by decide) (by decide) (by decide) (by decide) (by simp)
  have f10_16 := fun W => field_as i 10 16 (i / 1024 % 65536) W h0 h1 (by decide) (by decide) (by decide) (by decide) (by simp)
  have l0 : 0 ≤ i % 1024 := by omega
  have u0 : i % 1024 < 1024 := by omega
  have l1 : 0 ≤ i / 1024 % 65536 := by omega
  have u1 : i / 1024 % 65536 < 65536 := by omega
  have s := fun W => sext_as (bits .or .i64 (i % 1024 * 65536) (i / 1024 % 65536)) 26 r W (by decide) (by decide) (by rw [join 16 (x := i % 1024 * 65536) (y := i / 1024 % 65536) (by omega) (by omega) (by omega) (by decide) (by omega) (by omega)]; exact hr)
  have q0 : -33554432 ≤ r := by rw [← hr]; simp only [sx]; omega
  have q1 : r < 33554432 := by rw [← hr]; simp only [sx]; omega
  clear hr
  go_enter Try.func16, Try.ntmps16
  go_wp2_with (first | (go_at_call 32; (with_reducible refine (f0_10 _).mono ?_); rintro e w' ⟨rfl, nq, rfl⟩) | (go_at_call 32; (with_reducible refine (f10_16 _).mono ?_); rintro e w' ⟨rfl, nq, rfl⟩) | (go_at_call 31; (with_reducible refine (s _).mono ?_); rintro e w' ⟨rfl, rfl⟩))
  go_ret
  exact ⟨rfl, _, rfl⟩
set_option maxHeartbeats 800000 in
theorem rdArmBranch (i r : Int) (w : World) (h0 : 0 ≤ i) (h1 : i < 4294967296) (hr : sx 26 (i % 67108864) = r) : Calls Try.prog 27 #[.int .u32 i] w fun e w' => e = .returned (.int .i64 (r * 4)) ∧ ∃ nq, w' = w.drewN nq := by
  have f0_26 := fun W => field_as i 0 26 (i % 67108864) W h0 h1 (by decide) (by decide) (by decide) (by decide) (by simp)
  have l0 : 0 ≤ i % 67108864 := by omega
  have u0 : i % 67108864 < 67108864 := by omega
  have s := fun W => sext_as (i % 67108864) 26 r W (by decide) (by decide) hr
  have q0 : -33554432 ≤ r := by rw [← hr]; simp only [sx]; omega
  have q1 : r < 33554432 := by rw [← hr]; simp only [sx]; omega
  clear hr
  go_enter Try.func27, Try.ntmps27
  go_wp2_with (first | (go_at_call 32; (with_reducible refine (f0_26 _).mono ?_); rintro e w' ⟨rfl, nq, rfl⟩) | (go_at_call 31; (with_reducible refine (s _).mono ?_); rintro e w' ⟨rfl, rfl⟩))
  go_ret
  exact ⟨rfl, _, rfl⟩
set_option maxHeartbeats 800000 in
theorem rdArmPage (i r : Int) (w : World) (h0 : 0 ≤ i) (h1 : i < 4294967296) (hr : sx 21 (i / 32 % 524288 * 4 + i / 536870912 % 4) = r) : Calls Try.prog 28 #[.int .u32 i] w fun e w' => e = .returned (.int .i64 (r)) ∧ ∃ nq, w' = w.drewN nq := by
  have f5_19 := fun W => field_as i 5 19 (i / 32 % 524288) W h0 h1 (by decide) (by decide) (by decide) (by decide) (by simp)
  have f29_2 := fun W => field_as i 29 2 (i / 536870912 % 4) W h0 h1 (by decide) (by decide) (by decide) (by decide) (by simp)
  have l0 : 0 ≤ i / 32 % 524288 := by omega
  have u0 : i / 32 % 524288 < 524288 := by omega
  have l1 : 0 ≤ i / 536870912 % 4 := by omega
  have u1 : i / 536870912 % 4 < 4 := by omega
  have s := fun W => sext_as (bits .or .i64 (i / 32 % 524288 * 4) (i / 536870912 % 4)) 21 r W (by decide) (by decide) (by rw [join 2 (x := i / 32 % 524288 * 4) (y := i / 536870912 % 4) (by omega) (by omega) (by omega) (by decide) (by omega) (by omega)]; exact hr)
  clear hr
  go_enter Try.func28, Try.ntmps28
  go_wp2_with (first | (go_at_call 32; (with_reducible refine (f5_19 _).mono ?_); rintro e w' ⟨rfl, nq, rfl⟩) | (go_at_call 32; (with_reducible refine (f29_2 _).mono ?_); rintro e w' ⟨rfl, nq, rfl⟩) | (go_at_call 31; (with_reducible refine (s _).mono ?_); rintro e w' ⟨rfl, rfl⟩))
  go_ret
  exact ⟨rfl, _, rfl⟩
set_option maxHeartbeats 800000 in
theorem rdArmLow (i r : Int) (w : World) (h0 : 0 ≤ i) (h1 : i < 4294967296) (hr : i / 1024 % 4096 = r) : Calls Try.prog 29 #[.int .u32 i] w fun e w' => e = .returned (.int .i64 (r)) ∧ ∃ nq, w' = w.drewN nq := by
  have f10_12 := fun W => field_as i 10 12 (i / 1024 % 4096) W h0 h1 (by decide) (by decide) (by decide) (by decide) (by simp)
  have l0 : 0 ≤ i / 1024 % 4096 := by omega
  have u0 : i / 1024 % 4096 < 4096 := by omega
  subst hr
  go_enter Try.func29, Try.ntmps29
  go_wp2_with (first | (go_at_call 32; (with_reducible refine (f10_12 _).mono ?_); rintro e w' ⟨rfl, nq, rfl⟩))
  go_ret
  exact ⟨rfl, _, rfl⟩
theorem rdPower (i r : Int) (w : World) (h0 : 0 ≤ i) (h1 : i < 4294967296) (hr : sx 26 (bits .and .i64 i 67108860) = r) : Calls Try.prog 22 #[.int .u32 i] w fun e w' => e = .returned (.int .i64 r) ∧ w = w' := by
  have c := sext_as (bits .and .i64 i 67108860) 26 r w (by decide) (by decide) hr
  clear hr
  go_enter Try.func22, Try.ntmps22
  go_wp2_with (go_at_call 31; ((with_reducible refine c.mono ?_); rintro e w' ⟨rfl, rfl⟩))
  go_ret
  exact ⟨rfl, rfl⟩
theorem rdHalf (i r : Int) (w : World) (h0 : 0 ≤ i) (h1 : i < 4294967296) (hr : sx 16 i = r) : Calls Try.prog 25 #[.int .u32 i] w fun e w' => e = .returned (.int .i64 r) ∧ w = w' := by
  have c := sext_as i 16 r w (by decide) (by decide) hr
  clear hr
  go_enter Try.func25, Try.ntmps25
  go_wp2_with (go_at_call 31; ((with_reducible refine c.mono ?_); rintro e w' ⟨rfl, rfl⟩))
  go_ret
  exact ⟨rfl, rfl⟩
theorem sx42 {x : Int} (h : sx 42 x = x) : -2199023255552 ≤ x ∧ x < 2199023255552 := by simp only [sx] at h; omega
theorem seg64 (n : Nat) (x m : Int) (hm : m = 2 ^ n - 1) (hn : n ≤ 62) : bits .and .i64 x m = x % 2 ^ n := by
  have h3 : (2 : Int) ^ n ≤ 2 ^ 62 := by exact_mod_cast Nat.pow_le_pow_right (by decide) hn
  have := and_seg .i64 0 n x (m := m) (by rw [hm]; simp) (by rw [hm]; show _ ≤ (9223372036854775807 : Int); omega) (by simp only [IntKind.bits]; omega)
  simpa using this
theorem segu (n : Nat) (x m : Int) (hm : m = 2 ^ n - 1) (hn : n ≤ 32) : bits .and .u32 x m = x % 2 ^ n := by
  have h3 : (2 : Int) ^ n ≤ 2 ^ 32 := by exact_mod_cast Nat.pow_le_pow_right (by decide) hn
  have := and_seg .u32 0 n x (m := m) (by rw [hm]; simp) (by rw [hm]; simp only [IntKind.max, IntKind.bits, IntKind.signed]; simp; omega) (by simp only [IntKind.bits]; omega)
  simpa using this
theorem joinu (j : Nat) {x y : Int} (hx : x % 2 ^ j = 0) (h0 : 0 ≤ y) (hj : y < 2 ^ j) (hw : j ≤ 32) (hx0 : 0 ≤ x) (hr : x + y < 4294967296) : bits .or .u32 x y = x + y := by
  rw [or_mid .u32 0 j (by rw [hx]; decide) (by omega) h0 hj (by simp only [IntKind.bits]; omega) (by omega), wrap_u32]
  omega
end Go.Proofs.Ytcchhdjpmnhfmaa.Wk
