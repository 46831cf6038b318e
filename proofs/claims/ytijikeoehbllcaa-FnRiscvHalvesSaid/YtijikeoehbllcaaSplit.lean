/- Contracts of signExtend and Split32BitImmediate: a number of 32 bits with its sign is told as a low part of 12 bits and a high part of 20, each with its sign; another is an error. -/
import Derived.Test.YtijikeoehbllcaaErr
import Derived.Test.YtijikeoehbllcaaSpec
import Derived.OwnWalk
namespace Go.Proofs.Ytijikeoehbllcaa.Wk
set_option linter.unusedVariables false
open Go.RowKit Go.Proofs.Ytijikeoehbllcaa.Aid
theorem signExt (x n : Int) (w : World) (h1 : 1 ≤ n) (h2 : n ≤ 64) : Calls Try.prog 52 #[.int .i64 x, .int .u64 n] w fun e w' => e = .returned (.int .i64 (sx n.toNat x)) ∧ w = w' := by
  obtain ⟨n, rfl⟩ := Int.eq_ofNat_of_zero_le (show 0 ≤ n by omega)
  have H : wrap64 (x * 2 ^ (64 - n)) / 2 ^ (64 - n) = sx n x := by
    have := sx_eq (64 - n) (n - 1) x (by omega)
    rwa [show n - 1 + 1 = n by omega] at this
  have H2 := Lib.hid H
  clear H
  go_enter Try.func52, Try.ntmps52
  go_wp2
  go_ret
  exact ⟨ret_int (a := wrap64 (x * 2 ^ (64 - n)) / 2 ^ (64 - n)) (b := sx n x) H2.out, rfl⟩
/-- The low part, and the high one. -/
def lo (x : Int) : Int := sx 12 x
def hi (x : Int) : Int := sx 20 (x / 4096 + x / 2048 % 2)
theorem lo_in (x : Int) : -2048 ≤ lo x ∧ lo x ≤ 2047 := by simp only [lo, sx]; omega
theorem hi_in (x : Int) : -524288 ≤ hi x ∧ hi x ≤ 524287 := by simp only [hi, sx]; omega
theorem bit11 (x : Int) : bits .and .i64 x 2048 = x / 2048 % 2 * 2048 := by
  simpa using and_seg .i64 11 1 x (m := 2048) (by decide) (by decide) (by decide)
theorem split_short (x : Int) (w : World) (h1 : -2048 ≤ x) (h2 : x ≤ 2047) : Calls Try.prog 39 #[.int .i64 x] w fun e w' => e = .returned (.tuple #[.int .i64 (lo x), .int .i64 (hi x), .nilIface]) ∧ Ext w w' := by
  have c := fun W => ifits_in x 32 (-2147483648) 2147483647 W (by simp [Wide]) (by omega) (by omega)
  have d := fun W => ifits_in x 12 (-2048) 2047 W (by simp [Wide]) h1 h2
  have e1 : lo x = x := by simp only [lo, sx]; omega
  have e2 : hi x = 0 := by simp only [hi, sx]; omega
  rw [e1, e2]
  clear e1 e2
  go_enter Try.func39, Try.ntmps39
  go_wp2_with (first | (go_at_call 49; ((with_reducible refine (c _).mono ?_); rintro e w' ⟨rfl, rfl⟩)) | (go_at_call 49; ((with_reducible refine (d _).mono ?_); rintro e w' ⟨rfl, rfl⟩)))
  go_ret3
  exact ⟨rfl, Ext.refl _⟩
set_option maxHeartbeats 800000 in
theorem split_long (x : Int) (w : World) (h1 : -2147483648 ≤ x) (h2 : x ≤ 2147483647) (h : x < -2048 ∨ 2047 < x) : Calls Try.prog 39 #[.int .i64 x] w fun e w' => e = .returned (.tuple #[.int .i64 (lo x), .int .i64 (hi x), .nilIface]) ∧ Ext w w' := by
  have c := fun W => ifits_in x 32 (-2147483648) 2147483647 W (by simp [Wide]) (by omega) (by omega)
  have d := fun W => ifits_out x 12 (-2048) 2047 W (by simp [Wide]) h
  have l := fun W => signExt x 12 W (by decide) (by decide)
  by_cases hb : x / 2048 % 2 = 0
  · have X : (bits .and .i64 x 2048 != 0) = false := by rw [bit11, hb]; rfl
    have E := Lib.hid (show sx 20 (x / 4096) = hi x by simp only [hi, hb, Int.add_zero])
    have r := fun W => signExt (x / 4096) 20 W (by decide) (by decide)
    clear hb h
    go_enter Try.func39, Try.ntmps39
    go_wp2_with (first | (go_at_call 49; ((with_reducible refine (c _).mono ?_); rintro e w' ⟨rfl, rfl⟩)) | (go_at_call 49; ((with_reducible refine (d _).mono ?_); rintro e w' ⟨⟨v, ⟨a, rfl⟩, rfl⟩, hx⟩)) | (go_at_call 52; ((with_reducible refine (l _).mono ?_); rintro e w' ⟨rfl, rfl⟩)) | (go_at_call 52; ((with_reducible refine (r _).mono ?_); rintro e w' ⟨rfl, rfl⟩)))
    go_ret3
    exact ⟨by rw [← E.out]; rfl, hx⟩
  · have X : (bits .and .i64 x 2048 != 0) = true := by rw [bit11, show x / 2048 % 2 = 1 by omega]; rfl
    have E := Lib.hid (show sx 20 (x / 4096 + 1) = hi x by simp only [hi, show x / 2048 % 2 = 1 by omega])
    have r := fun W => signExt (x / 4096 + 1) 20 W (by decide) (by decide)
    clear hb h
    go_enter Try.func39, Try.ntmps39
    go_wp2_with (first | (go_at_call 49; ((with_reducible refine (c _).mono ?_); rintro e w' ⟨rfl, rfl⟩)) | (go_at_call 49; ((with_reducible refine (d _).mono ?_); rintro e w' ⟨⟨v, ⟨a, rfl⟩, rfl⟩, hx⟩)) | (go_at_call 52; ((with_reducible refine (l _).mono ?_); rintro e w' ⟨rfl, rfl⟩)) | (go_at_call 52; ((with_reducible refine (r _).mono ?_); rintro e w' ⟨rfl, rfl⟩)))
    go_ret3
    exact ⟨by rw [← E.out]; rfl, hx⟩
theorem split_in (x : Int) (w : World) (h1 : -2147483648 ≤ x) (h2 : x ≤ 2147483647) : Calls Try.prog 39 #[.int .i64 x] w fun e w' => e = .returned (.tuple #[.int .i64 (lo x), .int .i64 (hi x), .nilIface]) ∧ Ext w w' := by
  by_cases h : x < -2048 ∨ 2047 < x
  · exact split_long x w h1 h2 h
  · exact split_short x w (by omega) (by omega)
theorem split_out (x : Int) (w : World) (h : x < -2147483648 ∨ 2147483647 < x) : Calls Try.prog 39 #[.int .i64 x] w fun e w' => (∃ v, Err v ∧ e = .returned (.tuple #[.int .i64 0, .int .i64 0, v])) ∧ Ext w w' := by
  have c := ifits_out x 32 (-2147483648) 2147483647 w (by simp [Wide]) h
  clear h
  go_enter Try.func39, Try.ntmps39
  go_wp2_with (go_at_call 49; refine c.mono ?_; rintro e w' ⟨⟨v, ⟨a, rfl⟩, rfl⟩, hx⟩)
  go_ret3
  exact ⟨⟨_, ⟨_, rfl⟩, rfl⟩, hx⟩
end Go.Proofs.Ytijikeoehbllcaa.Wk
