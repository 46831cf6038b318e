/- The law FnEncodeU returns true: a number of 20 bits with its sign is put into the field of form U and read from there, every other number is refused: for every number; no condition. -/
import Derived.Test.YtaekfekgoleolaaEnc
import Derived.Test.YtaekfekgoleolaaSpecRv
namespace Go.Proofs.Ytaekfekgoleolaa.Wk
set_option linter.unusedVariables false
open Go.RowKit Go.Proofs.Ytaekfekgoleolaa.Aid
theorem impU_in (x : Int) (w : World) (h1 : -524288 ≤ x) (h2 : x ≤ 524287) : Calls Try.prog 24 #[.int .i64 x] w fun e w' => e = .returned (.tuple #[.int .i64 (eU x), .bool true]) ∧ Ext w w' := by
  have c := encU_in x w h1 h2
  go_enter Try.func24, Try.ntmps24
  go_wp2_with (go_at_call 46; refine c.mono ?_; rintro e w' ⟨rfl, rfl⟩)
  go_quiet (fail)
  go_wp2
  go_ret2
  exact ⟨rfl, (Ext.refl _).drewN _⟩
theorem impU_bad (x : Int) (w : World) (h : x < -524288 ∨ 524287 < x) : Calls Try.prog 24 #[.int .i64 x] w fun e w' => e = .returned (.tuple #[.int .i64 0, .bool false]) ∧ Ext w w' := by
  have c := encU_out x w h
  clear h
  go_enter Try.func24, Try.ntmps24
  go_wp2_with (go_at_call 46; refine c.mono ?_; rintro e w' ⟨⟨v, ⟨a, rfl⟩, rfl⟩, hx⟩)
  go_quiet (fail)
  go_wp2
  go_ret2
  exact ⟨rfl, hx.drewN _⟩
theorem rdU (x : Int) (h1 : -524288 ≤ x) (h2 : x ≤ 524287) : rU (eU x % 4294967296) = x := by simp only [rU, eU, sx]; omega
theorem tsU (x : Int) : bits .and .u32 (eU x % 4294967296) 4095 = 0 := by
  rw [segu 12 _ _ (by decide) (by decide)]; simp only [eU]; omega
theorem oneU : (eU 1 != 0) = true := by decide
set_option maxHeartbeats 800000 in
theorem lawU_in (x : Int) (w : World) (h1 : -524288 ≤ x) (h2 : x ≤ 524287) : Calls Try.prog 7 #[.int .i64 x] w fun e w' => e = .returned (.bool true) ∧ Ext w w' := by
  have R := Lib.hid (rdU x h1 h2)
  have X1 : (bits .and .u32 (eU x % 4294967296) 4095 == 0) = true := by rw [tsU]; rfl
  have X5 := oneU
  have F := Lib.hid (show (sx 20 x == x) = true by rw [beq_iff_eq]; simp only [sx]; omega)
  have g1 : -2147483648 ≤ eU x := by unfold eU; omega
  have g2 : eU x < 2147483648 := by unfold eU; omega
  have c := fun W => impU_in x W h1 h2
  have d := fun W => impU_in 1 W (by decide) (by decide)
  have r := fun W => rvU (eU x % 4294967296) W (by omega) (by omega)
  rw [R.out] at r
  go_enter Try.func7, Try.ntmps7
  go_wp2_with (first | (go_at_call 24; ((with_reducible refine (c _).mono ?_); rintro e w' ⟨rfl, hx⟩)) | (go_at_call 24; ((with_reducible refine (d _).mono ?_); rintro e w' ⟨rfl, hy⟩)) | (go_at_call 20; refine (fits_as x 20 true _ (by decide) (by decide) F.out).mono ?_; rintro e w' ⟨rfl, rfl⟩) | (go_at_call 25; refine (r _).mono ?_; rintro e w' ⟨rfl, nq, rfl⟩))
  go_ret
  exact ⟨rfl, by repeat (first | assumption | apply Ext.drewN | exact Ext.trans ‹_› ‹_›)⟩
set_option maxHeartbeats 800000 in
theorem lawU_out (x : Int) (w : World) (w0 : -9223372036854775808 ≤ x ∧ x ≤ 9223372036854775807) (h : x < -524288 ∨ 524287 < x) : Calls Try.prog 7 #[.int .i64 x] w fun e w' => e = .returned (.bool true) ∧ Ext w w' := by
  have X5 := oneU
  have F := Lib.hid (show (sx 20 x == x) = false by rw [beq_eq_false_iff_ne]; simp only [sx]; omega)
  have c := fun W => impU_bad x W (by omega)
  have d := fun W => impU_in 1 W (by decide) (by decide)
  clear w0 h
  go_enter Try.func7, Try.ntmps7
  go_wp2_with (first | (go_at_call 24; ((with_reducible refine (c _).mono ?_); rintro e w' ⟨rfl, hx⟩)) | (go_at_call 24; ((with_reducible refine (d _).mono ?_); rintro e w' ⟨rfl, hy⟩)) | (go_at_call 20; refine (fits_as x 20 false _ (by decide) (by decide) F.out).mono ?_; rintro e w' ⟨rfl, rfl⟩))
  go_ret
  exact ⟨rfl, by repeat (first | assumption | apply Ext.drewN | exact Ext.trans ‹_› ‹_›)⟩
theorem walkFnEncodeU (a0 : Int) (w : World) (w0 : (Lit.int .i64 a0).wf = true) : Calls Try.prog 7 #[.int .i64 a0] w fun e w' => e = .returned (.bool true) ∧ Ext w w' := by
  have b := wf_i64 w0
  by_cases h : a0 < -524288 ∨ 524287 < a0
  · exact lawU_out a0 w b h
  · exact lawU_in a0 w (by omega) (by omega)
end Go.Proofs.Ytaekfekgoleolaa.Wk
