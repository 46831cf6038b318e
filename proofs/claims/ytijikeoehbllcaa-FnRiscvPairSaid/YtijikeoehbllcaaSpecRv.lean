/- Contracts of the reference's readers of the forms of RISC-V: which number stands in an instruction of 32 bits; no condition but that it has 32 bits. -/
import Derived.Test.YtijikeoehbllcaaSpec
namespace Go.Proofs.Ytijikeoehbllcaa.Wk
open Go.RowKit Go.Proofs.Ytijikeoehbllcaa.Aid
/-- Two numbers put together: the lower one below bit j. -/
theorem join (j : Nat) {x y : Int} (hx : x % 2 ^ j = 0) (h0 : 0 ≤ y) (hj : y < 2 ^ j) (hw : j ≤ 62) (hx0 : 0 ≤ x) (hr : x < 4611686018427387904) : bits .or .i64 x y = x + y := by
  have h3 : (2 : Int) ^ j ≤ 2 ^ 62 := by exact_mod_cast Nat.pow_le_pow_right (by decide) hw
  rw [or_mid .i64 0 j (by rw [hx]; decide) (by omega) h0 hj (by simp only [IntKind.bits]; omega) (by omega), wrap_i64, w64 (by omega) (by omega)]
/-- The number of form I. -/
def rI (i : Int) : Int := sx 12 (i / 1048576 % 4096)
set_option maxHeartbeats 800000 in
theorem rvI (i : Int) (w : World) (h0 : 0 ≤ i) (h1 : i < 4294967296) : Calls Try.prog 17 #[.int .u32 i] w fun e w' => e = .returned (.int .i64 (rI i)) ∧ ∃ nq, w' = w.drewN nq := by
  have H := Lib.hid (show sx 12 (i / 1048576 % 4096) = rI i from by rfl)
  have b0 : 0 ≤ i / 1048576 % 4096 ∧ i / 1048576 % 4096 < 4096 := by omega
  obtain ⟨l0, u0⟩ := b0
  go_enter Try.func17, Try.ntmps17
  go_wp2_with (first | (go_at_call 32; (with_reducible refine (field_as i 20 12 (i / 1048576 % 4096) _ h0 h1 (by decide) (by decide) (by decide) (by decide) rfl).mono ?_); rintro e w' ⟨rfl, nq, rfl⟩) | (go_at_call 23; refine (sext_as _ 12 (rI i) _ (by decide) (by decide) H.out).mono ?_; rintro e w' ⟨rfl, rfl⟩))
  go_ret
  exact ⟨rfl, _, rfl⟩
/-- The number of form S. -/
def rS (i : Int) : Int := sx 12 (i / 33554432 % 128 * 32 + i / 128 % 32)
theorem rS_eq (i : Int) : bits .or .i64 (i / 33554432 % 128 * 32) (i / 128 % 32) = i / 33554432 % 128 * 32 + i / 128 % 32 := by
  rw [join 5 (x := i / 33554432 % 128 * 32) (y := i / 128 % 32) (by omega) (by omega) (by omega) (by decide) (by omega) (by omega)]
set_option maxHeartbeats 800000 in
theorem rvS (i : Int) (w : World) (h0 : 0 ≤ i) (h1 : i < 4294967296) : Calls Try.prog 18 #[.int .u32 i] w fun e w' => e = .returned (.int .i64 (rS i)) ∧ ∃ nq, w' = w.drewN nq := by
  have H := Lib.hid (show sx 12 (bits .or .i64 (i / 33554432 % 128 * 32) (i / 128 % 32)) = rS i from by rw [rS_eq]; rfl)
  have b0 : 0 ≤ i / 33554432 % 128 ∧ i / 33554432 % 128 < 128 := by omega
  have b1 : 0 ≤ i / 128 % 32 ∧ i / 128 % 32 < 32 := by omega
  obtain ⟨l0, u0⟩ := b0
  obtain ⟨l1, u1⟩ := b1
  go_enter Try.func18, Try.ntmps18
  go_wp2_with (first | (go_at_call 32; (with_reducible refine (field_as i 25 7 (i / 33554432 % 128) _ h0 h1 (by decide) (by decide) (by decide) (by decide) rfl).mono ?_); rintro e w' ⟨rfl, nq, rfl⟩) | (go_at_call 32; (with_reducible refine (field_as i 7 5 (i / 128 % 32) _ h0 h1 (by decide) (by decide) (by decide) (by decide) rfl).mono ?_); rintro e w' ⟨rfl, nq, rfl⟩) | (go_at_call 23; refine (sext_as _ 12 (rS i) _ (by decide) (by decide) H.out).mono ?_; rintro e w' ⟨rfl, rfl⟩))
  go_ret
  exact ⟨rfl, _, rfl⟩
/-- The number of form B. -/
def rB (i : Int) : Int := sx 13 (i / 2147483648 % 2 * 4096 + i / 128 % 2 * 2048 + i / 33554432 % 64 * 32 + i / 256 % 16 * 2)
theorem rB_eq (i : Int) : bits .or .i64 (bits .or .i64 (bits .or .i64 (i / 2147483648 % 2 * 4096) (i / 128 % 2 * 2048)) (i / 33554432 % 64 * 32)) (i / 256 % 16 * 2) = i / 2147483648 % 2 * 4096 + i / 128 % 2 * 2048 + i / 33554432 % 64 * 32 + i / 256 % 16 * 2 := by
  rw [join 12 (x := i / 2147483648 % 2 * 4096) (y := i / 128 % 2 * 2048) (by omega) (by omega) (by omega) (by decide) (by omega) (by omega),
    join 11 (x := i / 2147483648 % 2 * 4096 + i / 128 % 2 * 2048) (y := i / 33554432 % 64 * 32) (by omega) (by omega) (by omega) (by decide) (by omega) (by omega),
    join 5 (x := i / 2147483648 % 2 * 4096 + i / 128 % 2 * 2048 + i / 33554432 % 64 * 32) (y := i / 256 % 16 * 2) (by omega) (by omega) (by omega) (by decide) (by omega) (by omega)]
set_option maxHeartbeats 800000 in
theorem rvB (i : Int) (w : World) (h0 : 0 ≤ i) (h1 : i < 4294967296) : Calls Try.prog 22 #[.int .u32 i] w fun e w' => e = .returned (.int .i64 (rB i)) ∧ ∃ nq, w' = w.drewN nq := by
  have H := Lib.hid (show sx 13 (bits .or .i64 (bits .or .i64 (bits .or .i64 (i / 2147483648 % 2 * 4096) (i / 128 % 2 * 2048)) (i / 33554432 % 64 * 32)) (i / 256 % 16 * 2)) = rB i from by rw [rB_eq]; rfl)
  have b0 : 0 ≤ i / 2147483648 % 2 ∧ i / 2147483648 % 2 < 2 := by omega
  have b1 : 0 ≤ i / 128 % 2 ∧ i / 128 % 2 < 2 := by omega
  have b2 : 0 ≤ i / 33554432 % 64 ∧ i / 33554432 % 64 < 64 := by omega
  have b3 : 0 ≤ i / 256 % 16 ∧ i / 256 % 16 < 16 := by omega
  obtain ⟨l0, u0⟩ := b0
  obtain ⟨l1, u1⟩ := b1
  obtain ⟨l2, u2⟩ := b2
  obtain ⟨l3, u3⟩ := b3
  go_enter Try.func22, Try.ntmps22
  go_wp2_with (first | (go_at_call 32; (with_reducible refine (field_as i 31 1 (i / 2147483648 % 2) _ h0 h1 (by decide) (by decide) (by decide) (by decide) rfl).mono ?_); rintro e w' ⟨rfl, nq, rfl⟩) | (go_at_call 32; (with_reducible refine (field_as i 7 1 (i / 128 % 2) _ h0 h1 (by decide) (by decide) (by decide) (by decide) rfl).mono ?_); rintro e w' ⟨rfl, nq, rfl⟩) | (go_at_call 32; (with_reducible refine (field_as i 25 6 (i / 33554432 % 64) _ h0 h1 (by decide) (by decide) (by decide) (by decide) rfl).mono ?_); rintro e w' ⟨rfl, nq, rfl⟩) | (go_at_call 32; (with_reducible refine (field_as i 8 4 (i / 256 % 16) _ h0 h1 (by decide) (by decide) (by decide) (by decide) rfl).mono ?_); rintro e w' ⟨rfl, nq, rfl⟩) | (go_at_call 23; refine (sext_as _ 13 (rB i) _ (by decide) (by decide) H.out).mono ?_; rintro e w' ⟨rfl, rfl⟩))
  go_ret
  exact ⟨rfl, _, rfl⟩
/-- The number of form U. -/
def rU (i : Int) : Int := sx 20 (i / 4096 % 1048576)
set_option maxHeartbeats 800000 in
theorem rvU (i : Int) (w : World) (h0 : 0 ≤ i) (h1 : i < 4294967296) : Calls Try.prog 19 #[.int .u32 i] w fun e w' => e = .returned (.int .i64 (rU i)) ∧ ∃ nq, w' = w.drewN nq := by
  have H := Lib.hid (show sx 20 (i / 4096 % 1048576) = rU i from by rfl)
  have b0 : 0 ≤ i / 4096 % 1048576 ∧ i / 4096 % 1048576 < 1048576 := by omega
  obtain ⟨l0, u0⟩ := b0
  go_enter Try.func19, Try.ntmps19
  go_wp2_with (first | (go_at_call 32; (with_reducible refine (field_as i 12 20 (i / 4096 % 1048576) _ h0 h1 (by decide) (by decide) (by decide) (by decide) rfl).mono ?_); rintro e w' ⟨rfl, nq, rfl⟩) | (go_at_call 23; refine (sext_as _ 20 (rU i) _ (by decide) (by decide) H.out).mono ?_; rintro e w' ⟨rfl, rfl⟩))
  go_ret
  exact ⟨rfl, _, rfl⟩
/-- The number of form J. -/
def rJ (i : Int) : Int := sx 21 (i / 2147483648 % 2 * 1048576 + i / 4096 % 256 * 4096 + i / 1048576 % 2 * 2048 + i / 2097152 % 1024 * 2)
theorem rJ_eq (i : Int) : bits .or .i64 (bits .or .i64 (bits .or .i64 (i / 2147483648 % 2 * 1048576) (i / 4096 % 256 * 4096)) (i / 1048576 % 2 * 2048)) (i / 2097152 % 1024 * 2) = i / 2147483648 % 2 * 1048576 + i / 4096 % 256 * 4096 + i / 1048576 % 2 * 2048 + i / 2097152 % 1024 * 2 := by
  rw [join 20 (x := i / 2147483648 % 2 * 1048576) (y := i / 4096 % 256 * 4096) (by omega) (by omega) (by omega) (by decide) (by omega) (by omega),
    join 12 (x := i / 2147483648 % 2 * 1048576 + i / 4096 % 256 * 4096) (y := i / 1048576 % 2 * 2048) (by omega) (by omega) (by omega) (by decide) (by omega) (by omega),
    join 11 (x := i / 2147483648 % 2 * 1048576 + i / 4096 % 256 * 4096 + i / 1048576 % 2 * 2048) (y := i / 2097152 % 1024 * 2) (by omega) (by omega) (by omega) (by decide) (by omega) (by omega)]
set_option maxHeartbeats 800000 in
theorem rvJ (i : Int) (w : World) (h0 : 0 ≤ i) (h1 : i < 4294967296) : Calls Try.prog 16 #[.int .u32 i] w fun e w' => e = .returned (.int .i64 (rJ i)) ∧ ∃ nq, w' = w.drewN nq := by
  have H := Lib.hid (show sx 21 (bits .or .i64 (bits .or .i64 (bits .or .i64 (i / 2147483648 % 2 * 1048576) (i / 4096 % 256 * 4096)) (i / 1048576 % 2 * 2048)) (i / 2097152 % 1024 * 2)) = rJ i from by rw [rJ_eq]; rfl)
  have b0 : 0 ≤ i / 2147483648 % 2 ∧ i / 2147483648 % 2 < 2 := by omega
  have b1 : 0 ≤ i / 4096 % 256 ∧ i / 4096 % 256 < 256 := by omega
  have b2 : 0 ≤ i / 1048576 % 2 ∧ i / 1048576 % 2 < 2 := by omega
  have b3 : 0 ≤ i / 2097152 % 1024 ∧ i / 2097152 % 1024 < 1024 := by omega
  obtain ⟨l0, u0⟩ := b0
  obtain ⟨l1, u1⟩ := b1
  obtain ⟨l2, u2⟩ := b2
  obtain ⟨l3, u3⟩ := b3
  go_enter Try.func16, Try.ntmps16
  go_wp2_with (first | (go_at_call 32; (with_reducible refine (field_as i 31 1 (i / 2147483648 % 2) _ h0 h1 (by decide) (by decide) (by decide) (by decide) rfl).mono ?_); rintro e w' ⟨rfl, nq, rfl⟩) | (go_at_call 32; (with_reducible refine (field_as i 12 8 (i / 4096 % 256) _ h0 h1 (by decide) (by decide) (by decide) (by decide) rfl).mono ?_); rintro e w' ⟨rfl, nq, rfl⟩) | (go_at_call 32; (with_reducible refine (field_as i 20 1 (i / 1048576 % 2) _ h0 h1 (by decide) (by decide) (by decide) (by decide) rfl).mono ?_); rintro e w' ⟨rfl, nq, rfl⟩) | (go_at_call 32; (with_reducible refine (field_as i 21 10 (i / 2097152 % 1024) _ h0 h1 (by decide) (by decide) (by decide) (by decide) rfl).mono ?_); rintro e w' ⟨rfl, nq, rfl⟩) | (go_at_call 23; refine (sext_as _ 21 (rJ i) _ (by decide) (by decide) H.out).mono ?_; rintro e w' ⟨rfl, rfl⟩))
  go_ret
  exact ⟨rfl, _, rfl⟩
/-- The number of form CB. -/
def rCB (i : Int) : Int := sx 9 (i / 4096 % 2 * 256 + i / 32 % 4 * 64 + i / 4 % 2 * 32 + i / 1024 % 4 * 8 + i / 8 % 4 * 2)
theorem rCB_eq (i : Int) : bits .or .i64 (bits .or .i64 (bits .or .i64 (bits .or .i64 (i / 4096 % 2 * 256) (i / 32 % 4 * 64)) (i / 4 % 2 * 32)) (i / 1024 % 4 * 8)) (i / 8 % 4 * 2) = i / 4096 % 2 * 256 + i / 32 % 4 * 64 + i / 4 % 2 * 32 + i / 1024 % 4 * 8 + i / 8 % 4 * 2 := by
  rw [join 8 (x := i / 4096 % 2 * 256) (y := i / 32 % 4 * 64) (by omega) (by omega) (by omega) (by decide) (by omega) (by omega),
    join 6 (x := i / 4096 % 2 * 256 + i / 32 % 4 * 64) (y := i / 4 % 2 * 32) (by omega) (by omega) (by omega) (by decide) (by omega) (by omega),
    join 5 (x := i / 4096 % 2 * 256 + i / 32 % 4 * 64 + i / 4 % 2 * 32) (y := i / 1024 % 4 * 8) (by omega) (by omega) (by omega) (by decide) (by omega) (by omega),
    join 3 (x := i / 4096 % 2 * 256 + i / 32 % 4 * 64 + i / 4 % 2 * 32 + i / 1024 % 4 * 8) (y := i / 8 % 4 * 2) (by omega) (by omega) (by omega) (by decide) (by omega) (by omega)]
set_option maxHeartbeats 800000 in
theorem rvCB (i : Int) (w : World) (h0 : 0 ≤ i) (h1 : i < 4294967296) : Calls Try.prog 20 #[.int .u32 i] w fun e w' => e = .returned (.int .i64 (rCB i)) ∧ ∃ nq, w' = w.drewN nq := by
  have H := Lib.hid (show sx 9 (bits .or .i64 (bits .or .i64 (bits .or .i64 (bits .or .i64 (i / 4096 % 2 * 256) (i / 32 % 4 * 64)) (i / 4 % 2 * 32)) (i / 1024 % 4 * 8)) (i / 8 % 4 * 2)) = rCB i from by rw [rCB_eq]; rfl)
  have b0 : 0 ≤ i / 4096 % 2 ∧ i / 4096 % 2 < 2 := by omega
  have b1 : 0 ≤ i / 32 % 4 ∧ i / 32 % 4 < 4 := by omega
  have b2 : 0 ≤ i / 4 % 2 ∧ i / 4 % 2 < 2 := by omega
  have b3 : 0 ≤ i / 1024 % 4 ∧ i / 1024 % 4 < 4 := by omega
  have b4 : 0 ≤ i / 8 % 4 ∧ i / 8 % 4 < 4 := by omega
  obtain ⟨l0, u0⟩ := b0
  obtain ⟨l1, u1⟩ := b1
  obtain ⟨l2, u2⟩ := b2
  obtain ⟨l3, u3⟩ := b3
  obtain ⟨l4, u4⟩ := b4
  go_enter Try.func20, Try.ntmps20
  go_wp2_with (first | (go_at_call 32; (with_reducible refine (field_as i 12 1 (i / 4096 % 2) _ h0 h1 (by decide) (by decide) (by decide) (by decide) rfl).mono ?_); rintro e w' ⟨rfl, nq, rfl⟩) | (go_at_call 32; (with_reducible refine (field_as i 5 2 (i / 32 % 4) _ h0 h1 (by decide) (by decide) (by decide) (by decide) rfl).mono ?_); rintro e w' ⟨rfl, nq, rfl⟩) | (go_at_call 32; (with_reducible refine (field_as i 2 1 (i / 4 % 2) _ h0 h1 (by decide) (by decide) (by decide) (by decide) rfl).mono ?_); rintro e w' ⟨rfl, nq, rfl⟩) | (go_at_call 32; (with_reducible refine (field_as i 10 2 (i / 1024 % 4) _ h0 h1 (by decide) (by decide) (by decide) (by decide) rfl).mono ?_); rintro e w' ⟨rfl, nq, rfl⟩) | (go_at_call 32; (with_reducible refine (field_as i 3 2 (i / 8 % 4) _ h0 h1 (by decide) (by decide) (by decide) (by decide) rfl).mono ?_); rintro e w' ⟨rfl, nq, rfl⟩) | (go_at_call 23; refine (sext_as _ 9 (rCB i) _ (by decide) (by decide) H.out).mono ?_; rintro e w' ⟨rfl, rfl⟩))
  go_ret
  exact ⟨rfl, _, rfl⟩
/-- The number of form CJ. -/
def rCJ (i : Int) : Int := sx 12 (i / 4096 % 2 * 2048 + i / 256 % 2 * 1024 + i / 512 % 4 * 256 + i / 64 % 2 * 128 + i / 128 % 2 * 64 + i / 4 % 2 * 32 + i / 2048 % 2 * 16 + i / 8 % 8 * 2)
theorem rCJ_eq (i : Int) : bits .or .i64 (bits .or .i64 (bits .or .i64 (bits .or .i64 (bits .or .i64 (bits .or .i64 (bits .or .i64 (i / 4096 % 2 * 2048) (i / 256 % 2 * 1024)) (i / 512 % 4 * 256)) (i / 64 % 2 * 128)) (i / 128 % 2 * 64)) (i / 4 % 2 * 32)) (i / 2048 % 2 * 16)) (i / 8 % 8 * 2) = i / 4096 % 2 * 2048 + i / 256 % 2 * 1024 + i / 512 % 4 * 256 + i / 64 % 2 * 128 + i / 128 % 2 * 64 + i / 4 % 2 * 32 + i / 2048 % 2 * 16 + i / 8 % 8 * 2 := by
  rw [join 11 (x := i / 4096 % 2 * 2048) (y := i / 256 % 2 * 1024) (by omega) (by omega) (by omega) (by decide) (by omega) (by omega),
    join 10 (x := i / 4096 % 2 * 2048 + i / 256 % 2 * 1024) (y := i / 512 % 4 * 256) (by omega) (by omega) (by omega) (by decide) (by omega) (by omega),
    join 8 (x := i / 4096 % 2 * 2048 + i / 256 % 2 * 1024 + i / 512 % 4 * 256) (y := i / 64 % 2 * 128) (by omega) (by omega) (by omega) (by decide) (by omega) (by omega),
    join 7 (x := i / 4096 % 2 * 2048 + i / 256 % 2 * 1024 + i / 512 % 4 * 256 + i / 64 % 2 * 128) (y := i / 128 % 2 * 64) (by omega) (by omega) (by omega) (by decide) (by omega) (by omega),
    join 6 (x := i / 4096 % 2 * 2048 + i / 256 % 2 * 1024 + i / 512 % 4 * 256 + i / 64 % 2 * 128 + i / 128 % 2 * 64) (y := i / 4 % 2 * 32) (by omega) (by omega) (by omega) (by decide) (by omega) (by omega),
    join 5 (x := i / 4096 % 2 * 2048 + i / 256 % 2 * 1024 + i / 512 % 4 * 256 + i / 64 % 2 * 128 + i / 128 % 2 * 64 + i / 4 % 2 * 32) (y := i / 2048 % 2 * 16) (by omega) (by omega) (by omega) (by decide) (by omega) (by omega),
    join 4 (x := i / 4096 % 2 * 2048 + i / 256 % 2 * 1024 + i / 512 % 4 * 256 + i / 64 % 2 * 128 + i / 128 % 2 * 64 + i / 4 % 2 * 32 + i / 2048 % 2 * 16) (y := i / 8 % 8 * 2) (by omega) (by omega) (by omega) (by decide) (by omega) (by omega)]
set_option maxHeartbeats 800000 in
theorem rvCJ (i : Int) (w : World) (h0 : 0 ≤ i) (h1 : i < 4294967296) : Calls Try.prog 21 #[.int .u32 i] w fun e w' => e = .returned (.int .i64 (rCJ i)) ∧ ∃ nq, w' = w.drewN nq := by
  have H := Lib.hid (show sx 12 (bits .or .i64 (bits .or .i64 (bits .or .i64 (bits .or .i64 (bits .or .i64 (bits .or .i64 (bits .or .i64 (i / 4096 % 2 * 2048) (i / 256 % 2 * 1024)) (i / 512 % 4 * 256)) (i / 64 % 2 * 128)) (i / 128 % 2 * 64)) (i / 4 % 2 * 32)) (i / 2048 % 2 * 16)) (i / 8 % 8 * 2)) = rCJ i from by rw [rCJ_eq]; rfl)
  have b0 : 0 ≤ i / 4096 % 2 ∧ i / 4096 % 2 < 2 := by omega
  have b1 : 0 ≤ i / 256 % 2 ∧ i / 256 % 2 < 2 := by omega
  have b2 : 0 ≤ i / 512 % 4 ∧ i / 512 % 4 < 4 := by omega
  have b3 : 0 ≤ i / 64 % 2 ∧ i / 64 % 2 < 2 := by omega
  have b4 : 0 ≤ i / 128 % 2 ∧ i / 128 % 2 < 2 := by omega
  have b5 : 0 ≤ i / 4 % 2 ∧ i / 4 % 2 < 2 := by omega
  have b6 : 0 ≤ i / 2048 % 2 ∧ i / 2048 % 2 < 2 := by omega
  have b7 : 0 ≤ i / 8 % 8 ∧ i / 8 % 8 < 8 := by omega
  obtain ⟨l0, u0⟩ := b0
  obtain ⟨l1, u1⟩ := b1
  obtain ⟨l2, u2⟩ := b2
  obtain ⟨l3, u3⟩ := b3
  obtain ⟨l4, u4⟩ := b4
  obtain ⟨l5, u5⟩ := b5
  obtain ⟨l6, u6⟩ := b6
  obtain ⟨l7, u7⟩ := b7
  go_enter Try.func21, Try.ntmps21
  go_wp2_with (first | (go_at_call 32; (with_reducible refine (field_as i 12 1 (i / 4096 % 2) _ h0 h1 (by decide) (by decide) (by decide) (by decide) rfl).mono ?_); rintro e w' ⟨rfl, nq, rfl⟩) | (go_at_call 32; (with_reducible refine (field_as i 8 1 (i / 256 % 2) _ h0 h1 (by decide) (by decide) (by decide) (by decide) rfl).mono ?_); rintro e w' ⟨rfl, nq, rfl⟩) | (go_at_call 32; (with_reducible refine (field_as i 9 2 (i / 512 % 4) _ h0 h1 (by decide) (by decide) (by decide) (by decide) rfl).mono ?_); rintro e w' ⟨rfl, nq, rfl⟩) | (go_at_call 32; (with_reducible refine (field_as i 6 1 (i / 64 % 2) _ h0 h1 (by decide) (by decide) (by decide) (by decide) rfl).mono ?_); rintro e w' ⟨rfl, nq, rfl⟩) | (go_at_call 32; (with_reducible refine (field_as i 7 1 (i / 128 % 2) _ h0 h1 (by decide) (by decide) (by decide) (by decide) rfl).mono ?_); rintro e w' ⟨rfl, nq, rfl⟩) | (go_at_call 32; (with_reducible refine (field_as i 2 1 (i / 4 % 2) _ h0 h1 (by decide) (by decide) (by decide) (by decide) rfl).mono ?_); rintro e w' ⟨rfl, nq, rfl⟩) | (go_at_call 32; (with_reducible refine (field_as i 11 1 (i / 2048 % 2) _ h0 h1 (by decide) (by decide) (by decide) (by decide) rfl).mono ?_); rintro e w' ⟨rfl, nq, rfl⟩) | (go_at_call 32; (with_reducible refine (field_as i 3 3 (i / 8 % 8) _ h0 h1 (by decide) (by decide) (by decide) (by decide) rfl).mono ?_); rintro e w' ⟨rfl, nq, rfl⟩) | (go_at_call 23; refine (sext_as _ 12 (rCJ i) _ (by decide) (by decide) H.out).mono ?_; rintro e w' ⟨rfl, rfl⟩))
  go_ret
  exact ⟨rfl, _, rfl⟩
end Go.Proofs.Ytijikeoehbllcaa.Wk
