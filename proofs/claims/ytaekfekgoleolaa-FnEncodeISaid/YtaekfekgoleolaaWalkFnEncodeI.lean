/- The law FnEncodeI returns true: a number of 12 bits with its sign is put into the field of form I and read from there, every other number is refused: for every number; no condition. -/
import Derived.Test.YtaekfekgoleolaaEnc
import Derived.Test.YtaekfekgoleolaaSpecRv
namespace Go.Proofs.Ytaekfekgoleolaa.Wk
set_option linter.unusedVariables false
open Go.RowKit Go.Proofs.Ytaekfekgoleolaa.Aid
theorem impI_in (x : Int) (w : World) (h1 : -2048 ≤ x) (h2 : x ≤ 2047) : Calls Try.prog 19 #[.int .i64 x] w fun e w' => e = .returned (.tuple #[.int .i64 (eI x), .bool true]) ∧ Ext w w' := by
  have c := encI_in x w h1 h2
  go_enter Try.func19, Try.ntmps19
  go_wp2_with (go_at_call 43; refine c.mono ?_; rintro e w' ⟨rfl, rfl⟩)
  go_quiet (fail)
  go_wp2
  go_ret2
  exact ⟨rfl, (Ext.refl _).drewN _⟩
theorem impI_bad (x : Int) (w : World) (h : x < -2048 ∨ 2047 < x) : Calls Try.prog 19 #[.int .i64 x] w fun e w' => e = .returned (.tuple #[.int .i64 0, .bool false]) ∧ Ext w w' := by
  have c := encI_out x w h
  clear h
  go_enter Try.func19, Try.ntmps19
  go_wp2_with (go_at_call 43; refine c.mono ?_; rintro e w' ⟨⟨v, ⟨a, rfl⟩, rfl⟩, hx⟩)
  go_quiet (fail)
  go_wp2
  go_ret2
  exact ⟨rfl, hx.drewN _⟩
theorem rdI (x : Int) (h1 : -2048 ≤ x) (h2 : x ≤ 2047) : rI (eI x % 4294967296) = x := by simp only [rI, eI, sx]; omega
theorem tsI (x : Int) : bits .and .u32 (eI x % 4294967296) 1048575 = 0 := by
  rw [segu 20 _ _ (by decide) (by decide)]; simp only [eI]; omega
theorem oneI : (eI 1 != 0) = true := by decide
set_option maxHeartbeats 800000 in
theorem lawI_in (x : Int) (w : World) (h1 : -2048 ≤ x) (h2 : x ≤ 2047) : Calls Try.prog 5 #[.int .i64 x] w fun e w' => e = .returned (.bool true) ∧ Ext w w' := by
  have R := Lib.hid (rdI x h1 h2)
  have X1 : (bits .and .u32 (eI x % 4294967296) 1048575 == 0) = true := by rw [tsI]; rfl
  have X5 := oneI
  have F := Lib.hid (show (sx 12 x == x) = true by rw [beq_iff_eq]; simp only [sx]; omega)
  have g1 : -2147483648 ≤ eI x := by unfold eI; omega
  have g2 : eI x < 2147483648 := by unfold eI; omega
  have c := fun W => impI_in x W h1 h2
  have d := fun W => impI_in 1 W (by decide) (by decide)
  have r := fun W => rvI (eI x % 4294967296) W (by omega) (by omega)
  rw [R.out] at r
  go_enter Try.func5, Try.ntmps5
  go_wp2_with (first | (go_at_call 19; ((with_reducible refine (c _).mono ?_); rintro e w' ⟨rfl, hx⟩)) | (go_at_call 19; ((with_reducible refine (d _).mono ?_); rintro e w' ⟨rfl, hy⟩)) | (go_at_call 20; refine (fits_as x 12 true _ (by decide) (by decide) F.out).mono ?_; rintro e w' ⟨rfl, rfl⟩) | (go_at_call 21; refine (r _).mono ?_; rintro e w' ⟨rfl, nq, rfl⟩))
  go_ret
  exact ⟨rfl, by repeat (first | assumption | apply Ext.drewN | exact Ext.trans ‹_› ‹_›)⟩
set_option maxHeartbeats 800000 in
theorem lawI_out (x : Int) (w : World) (w0 : -9223372036854775808 ≤ x ∧ x ≤ 9223372036854775807) (h : x < -2048 ∨ 2047 < x) : Calls Try.prog 5 #[.int .i64 x] w fun e w' => e = .returned (.bool true) ∧ Ext w w' := by
  have X5 := oneI
  have F := Lib.hid (show (sx 12 x == x) = false by rw [beq_eq_false_iff_ne]; simp only [sx]; omega)
  have c := fun W => impI_bad x W (by omega)
  have d := fun W => impI_in 1 W (by decide) (by decide)
  clear w0 h
  go_enter Try.func5, Try.ntmps5
  go_wp2_with (first | (go_at_call 19; ((with_reducible refine (c _).mono ?_); rintro e w' ⟨rfl, hx⟩)) | (go_at_call 19; ((with_reducible refine (d _).mono ?_); rintro e w' ⟨rfl, hy⟩)) | (go_at_call 20; refine (fits_as x 12 false _ (by decide) (by decide) F.out).mono ?_; rintro e w' ⟨rfl, rfl⟩))
  go_ret
  exact ⟨rfl, by repeat (first | assumption | apply Ext.drewN | exact Ext.trans ‹_› ‹_›)⟩
theorem walkFnEncodeI (a0 : Int) (w : World) (w0 : (Lit.int .i64 a0).wf = true) : Calls Try.prog 5 #[.int .i64 a0] w fun e w' => e = .returned (.bool true) ∧ Ext w w' := by
  have b := wf_i64 w0
  by_cases h : a0 < -2048 ∨ 2047 < a0
  · exact lawI_out a0 w b h
  · exact lawI_in a0 w (by omega) (by omega)
end Go.Proofs.Ytaekfekgoleolaa.Wk
