/- The law FnEncodeS returns true: a number of 12 bits with its sign is put into the field of form S and read from there, every other number is refused: for every number; no condition. -/
import Derived.Test.YtaekfekgoleolaaEnc
import Derived.Test.YtaekfekgoleolaaSpecRv
namespace Go.Proofs.Ytaekfekgoleolaa.Wk
set_option linter.unusedVariables false
open Go.RowKit Go.Proofs.Ytaekfekgoleolaa.Aid
theorem impS_in (x : Int) (w : World) (h1 : -2048 ≤ x) (h2 : x ≤ 2047) : Calls Try.prog 22 #[.int .i64 x] w fun e w' => e = .returned (.tuple #[.int .i64 (eS x), .bool true]) ∧ Ext w w' := by
  have c := encS_in x w h1 h2
  go_enter Try.func22, Try.ntmps22
  go_wp2_with (go_at_call 45; refine c.mono ?_; rintro e w' ⟨rfl, rfl⟩)
  go_quiet (fail)
  go_wp2
  go_ret2
  exact ⟨rfl, (Ext.refl _).drewN _⟩
theorem impS_bad (x : Int) (w : World) (h : x < -2048 ∨ 2047 < x) : Calls Try.prog 22 #[.int .i64 x] w fun e w' => e = .returned (.tuple #[.int .i64 0, .bool false]) ∧ Ext w w' := by
  have c := encS_out x w h
  clear h
  go_enter Try.func22, Try.ntmps22
  go_wp2_with (go_at_call 45; refine c.mono ?_; rintro e w' ⟨⟨v, ⟨a, rfl⟩, rfl⟩, hx⟩)
  go_quiet (fail)
  go_wp2
  go_ret2
  exact ⟨rfl, hx.drewN _⟩
theorem rdS (x : Int) (h1 : -2048 ≤ x) (h2 : x ≤ 2047) : rS (eS x % 4294967296) = x := by simp only [rS, eS, sx]; omega
theorem tsS (x : Int) : bits .and .u32 (eS x % 4294967296) 33550463 = 0 := by
  rw [show (33550463 : Int) = 33550336 + 127 from rfl, and_split .u32 7 _ (by decide) (by decide) (by decide) (by decide) (by decide), segu 7 _ 127 (by decide) (by decide), and_seg .u32 12 13 (m := 33550336) _ (by decide) (by decide) (by decide)]
  simp only [eS]; omega
theorem oneS : (eS 1 != 0) = true := by decide
set_option maxHeartbeats 800000 in
theorem lawS_in (x : Int) (w : World) (h1 : -2048 ≤ x) (h2 : x ≤ 2047) : Calls Try.prog 6 #[.int .i64 x] w fun e w' => e = .returned (.bool true) ∧ Ext w w' := by
  have R := Lib.hid (rdS x h1 h2)
  have X1 : (bits .and .u32 (eS x % 4294967296) 33550463 == 0) = true := by rw [tsS]; rfl
  have X5 := oneS
  have F := Lib.hid (show (sx 12 x == x) = true by rw [beq_iff_eq]; simp only [sx]; omega)
  have g1 : -2147483648 ≤ eS x := by unfold eS; omega
  have g2 : eS x < 2147483648 := by unfold eS; omega
  have c := fun W => impS_in x W h1 h2
  have d := fun W => impS_in 1 W (by decide) (by decide)
  have r := fun W => rvS (eS x % 4294967296) W (by omega) (by omega)
  rw [R.out] at r
  go_enter Try.func6, Try.ntmps6
  go_wp2_with (first | (go_at_call 22; ((with_reducible refine (c _).mono ?_); rintro e w' ⟨rfl, hx⟩)) | (go_at_call 22; ((with_reducible refine (d _).mono ?_); rintro e w' ⟨rfl, hy⟩)) | (go_at_call 20; refine (fits_as x 12 true _ (by decide) (by decide) F.out).mono ?_; rintro e w' ⟨rfl, rfl⟩) | (go_at_call 23; refine (r _).mono ?_; rintro e w' ⟨rfl, nq, rfl⟩))
  go_ret
  exact ⟨rfl, by repeat (first | assumption | apply Ext.drewN | exact Ext.trans ‹_› ‹_›)⟩
set_option maxHeartbeats 800000 in
theorem lawS_out (x : Int) (w : World) (w0 : -9223372036854775808 ≤ x ∧ x ≤ 9223372036854775807) (h : x < -2048 ∨ 2047 < x) : Calls Try.prog 6 #[.int .i64 x] w fun e w' => e = .returned (.bool true) ∧ Ext w w' := by
  have X5 := oneS
  have F := Lib.hid (show (sx 12 x == x) = false by rw [beq_eq_false_iff_ne]; simp only [sx]; omega)
  have c := fun W => impS_bad x W (by omega)
  have d := fun W => impS_in 1 W (by decide) (by decide)
  clear w0 h
  go_enter Try.func6, Try.ntmps6
  go_wp2_with (first | (go_at_call 22; ((with_reducible refine (c _).mono ?_); rintro e w' ⟨rfl, hx⟩)) | (go_at_call 22; ((with_reducible refine (d _).mono ?_); rintro e w' ⟨rfl, hy⟩)) | (go_at_call 20; refine (fits_as x 12 false _ (by decide) (by decide) F.out).mono ?_; rintro e w' ⟨rfl, rfl⟩))
  go_ret
  exact ⟨rfl, by repeat (first | assumption | apply Ext.drewN | exact Ext.trans ‹_› ‹_›)⟩
theorem walkFnEncodeS (a0 : Int) (w : World) (w0 : (Lit.int .i64 a0).wf = true) : Calls Try.prog 6 #[.int .i64 a0] w fun e w' => e = .returned (.bool true) ∧ Ext w w' := by
  have b := wf_i64 w0
  by_cases h : a0 < -2048 ∨ 2047 < a0
  · exact lawS_out a0 w b h
  · exact lawS_in a0 w (by omega) (by omega)
end Go.Proofs.Ytaekfekgoleolaa.Wk
