/- The law FnEncodeCJ returns true: an even number of 12 bits with its sign is put into the field of form CJ and read from there, every other number is refused: for every number; no condition. -/
import Derived.Test.YtaekfekgoleolaaEncC
import Derived.Test.YtaekfekgoleolaaSpecRv
namespace Go.Proofs.Ytaekfekgoleolaa.Wk
set_option linter.unusedVariables false
open Go.RowKit Go.Proofs.Ytaekfekgoleolaa.Aid
theorem impCJ_in (x : Int) (w : World) (h1 : -2048 ≤ x) (h2 : x ≤ 2047) (he : x % 2 = 0) : Calls Try.prog 32 #[.int .i64 x] w fun e w' => e = .returned (.tuple #[.int .i64 (eCJ x), .bool true]) ∧ Ext w w' := by
  have c := encCJ_in x w h1 h2 he
  clear he
  go_enter Try.func32, Try.ntmps32
  go_wp2_with (go_at_call 50; refine c.mono ?_; rintro e w' ⟨rfl, hx⟩)
  go_quiet (fail)
  go_wp2
  go_ret2
  exact ⟨rfl, hx.drewN _⟩
theorem impCJ_bad (x : Int) (w : World) (h : ¬ (-2048 ≤ x ∧ x ≤ 2047 ∧ x % 2 = 0)) : Calls Try.prog 32 #[.int .i64 x] w fun e w' => e = .returned (.tuple #[.int .i64 0, .bool false]) ∧ Ext w w' := by
  have c := encCJ_bad x w h
  clear h
  go_enter Try.func32, Try.ntmps32
  go_wp2_with (go_at_call 50; refine c.mono ?_; rintro e w' ⟨⟨v, ⟨a, rfl⟩, rfl⟩, hx⟩)
  go_quiet (fail)
  go_wp2
  go_ret2
  exact ⟨rfl, hx.drewN _⟩
theorem allCJ : ∀ n : Fin 2048, rCJ (eCJ (2 * (n.val : Int) - 2048) % 4294967296) = 2 * (n.val : Int) - 2048 := by decide +kernel
theorem rdCJ (x : Int) (h1 : -2048 ≤ x) (h2 : x ≤ 2047) (he : x % 2 = 0) : rCJ (eCJ x % 4294967296) = x := by
  obtain ⟨n, hn⟩ : ∃ n : Nat, x = 2 * (n : Int) - 2048 := ⟨((x + 2048) / 2).toNat, by omega⟩
  have := allCJ ⟨n, by omega⟩
  rw [hn]; exact this
theorem tsCJ (x : Int) : bits .andNot .i64 (eCJ x) 8188 = 0 := by
  have h := eCJ_in x
  rw [andNot_eq, and_seg .i64 2 11 _ (by decide) (by decide) (by decide), wrap_i64]
  have e : eCJ x - eCJ x / 2 ^ 2 % 2 ^ 11 * 2 ^ 2 = 0 := by have b := bCJ_in x; unfold eCJ; generalize bCJ x = y at *; omega
  rw [e]; simp [wrap64]
theorem shCJ (x : Int) : eCJ x / 65536 = 0 := by have := eCJ_in x; omega
theorem oneCJ : (eCJ 2 != 0) = true := by decide
set_option maxHeartbeats 800000 in
theorem lawCJ_in (x : Int) (w : World) (h1 : -2048 ≤ x) (h2 : x ≤ 2047) (he : x % 2 = 0) : Calls Try.prog 11 #[.int .i64 x] w fun e w' => e = .returned (.bool true) ∧ Ext w w' := by
  have R0 := rdCJ x h1 h2 he
  rw [Int.emod_eq_of_lt (eCJ_in x).1 (by have := eCJ_in x; omega)] at R0
  have R := Lib.hid R0
  clear R0
  have X1 : (bits .andNot .i64 (eCJ x) 8188 == 0) = true := by rw [tsCJ]; rfl
  have X3 : (eCJ x / 65536 == 0) = true := by rw [shCJ]; rfl
  have X4 : (Int.tmod x 2 == 0) = true := by rw [beq_iff_eq, ← Int.dvd_iff_tmod_eq_zero]; omega
  have X5 := oneCJ
  have F := Lib.hid (show (sx 12 x == x) = true by rw [beq_iff_eq]; simp only [sx]; omega)
  obtain ⟨g1, g2⟩ := eCJ_in x
  have c := fun W => impCJ_in x W h1 h2 he
  have d := fun W => impCJ_in 2 W (by decide) (by decide) (by decide)
  have r := fun W => rvCJ (eCJ x) W (by omega) (by omega)
  rw [R.out] at r
  clear he
  go_enter Try.func11, Try.ntmps11
  go_wp2_with (first | (go_at_call 32; ((with_reducible refine (c _).mono ?_); rintro e w' ⟨rfl, hx⟩)) | (go_at_call 32; ((with_reducible refine (d _).mono ?_); rintro e w' ⟨rfl, hy⟩)) | (go_at_call 20; refine (fits_as x 12 true _ (by decide) (by decide) F.out).mono ?_; rintro e w' ⟨rfl, rfl⟩) | (go_at_call 33; refine (r _).mono ?_; rintro e w' ⟨rfl, nq, rfl⟩))
  go_ret
  exact ⟨rfl, by repeat (first | assumption | apply Ext.drewN | exact Ext.trans ‹_› ‹_›)⟩
set_option maxHeartbeats 800000 in
theorem lawCJ_out (x : Int) (w : World) (w0 : -9223372036854775808 ≤ x ∧ x ≤ 9223372036854775807) (h : x < -2048 ∨ 2047 < x) : Calls Try.prog 11 #[.int .i64 x] w fun e w' => e = .returned (.bool true) ∧ Ext w w' := by
  have X5 := oneCJ
  have F := Lib.hid (show (sx 12 x == x) = false by rw [beq_eq_false_iff_ne]; simp only [sx]; omega)
  have c := fun W => impCJ_bad x W (by omega)
  have d := fun W => impCJ_in 2 W (by decide) (by decide) (by decide)
  clear w0 h
  go_enter Try.func11, Try.ntmps11
  go_wp2_with (first | (go_at_call 32; ((with_reducible refine (c _).mono ?_); rintro e w' ⟨rfl, hx⟩)) | (go_at_call 32; ((with_reducible refine (d _).mono ?_); rintro e w' ⟨rfl, hy⟩)) | (go_at_call 20; refine (fits_as x 12 false _ (by decide) (by decide) F.out).mono ?_; rintro e w' ⟨rfl, rfl⟩))
  go_ret
  exact ⟨rfl, by repeat (first | assumption | apply Ext.drewN | exact Ext.trans ‹_› ‹_›)⟩
set_option maxHeartbeats 800000 in
theorem lawCJ_odd (x : Int) (w : World) (w0 : -9223372036854775808 ≤ x ∧ x ≤ 9223372036854775807) (h1 : -2048 ≤ x) (h2 : x ≤ 2047) (ho : x % 2 = 1) : Calls Try.prog 11 #[.int .i64 x] w fun e w' => e = .returned (.bool true) ∧ Ext w w' := by
  have X4 : (Int.tmod x 2 == 0) = false := by
    rw [beq_eq_false_iff_ne]; intro h
    rw [← Int.dvd_iff_tmod_eq_zero] at h; omega
  have X5 := oneCJ
  have F := Lib.hid (show (sx 12 x == x) = true by rw [beq_iff_eq]; simp only [sx]; omega)
  have c := fun W => impCJ_bad x W (by omega)
  have d := fun W => impCJ_in 2 W (by decide) (by decide) (by decide)
  clear w0 ho
  go_enter Try.func11, Try.ntmps11
  go_wp2_with (first | (go_at_call 32; ((with_reducible refine (c _).mono ?_); rintro e w' ⟨rfl, hx⟩)) | (go_at_call 32; ((with_reducible refine (d _).mono ?_); rintro e w' ⟨rfl, hy⟩)) | (go_at_call 20; refine (fits_as x 12 true _ (by decide) (by decide) F.out).mono ?_; rintro e w' ⟨rfl, rfl⟩))
  go_ret
  exact ⟨rfl, by repeat (first | assumption | apply Ext.drewN | exact Ext.trans ‹_› ‹_›)⟩
theorem walkFnEncodeCJ (a0 : Int) (w : World) (w0 : (Lit.int .i64 a0).wf = true) : Calls Try.prog 11 #[.int .i64 a0] w fun e w' => e = .returned (.bool true) ∧ Ext w w' := by
  have b := wf_i64 w0
  by_cases h : a0 < -2048 ∨ 2047 < a0
  · exact lawCJ_out a0 w b h
  · by_cases ho : a0 % 2 = 1
    · exact lawCJ_odd a0 w b (by omega) (by omega) ho
    · exact lawCJ_in a0 w (by omega) (by omega) (by omega)
end Go.Proofs.Ytaekfekgoleolaa.Wk
