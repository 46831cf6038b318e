/- The law FnSplit32 returns true: a number of 32 bits with its sign is a low part of 12 bits and 4096 times a high part of 20 bits, modulo 2^32, and every other number is refused: for every number; no condition. -/
import Derived.Test.YtaekfekgoleolaaSplit
namespace Go.Proofs.Ytaekfekgoleolaa.Wk
set_option linter.unusedVariables false
open Go.RowKit Go.Proofs.Ytaekfekgoleolaa.Aid
theorem impSplit_in (x : Int) (w : World) (h1 : -2147483648 ≤ x) (h2 : x ≤ 2147483647) : Calls Try.prog 34 #[.int .i64 x] w fun e w' => e = .returned (.tuple #[.int .i64 (lo x), .int .i64 (hi x), .bool true]) ∧ Ext w w' := by
  have c := split_in x w h1 h2
  go_enter Try.func34, Try.ntmps34
  go_wp2_with (go_at_call 51; refine c.mono ?_; rintro e w' ⟨rfl, hx⟩)
  go_quiet (fail)
  go_wp2
  go_ret3
  exact ⟨rfl, hx.drewN _⟩
theorem impSplit_out (x : Int) (w : World) (h : x < -2147483648 ∨ 2147483647 < x) : Calls Try.prog 34 #[.int .i64 x] w fun e w' => e = .returned (.tuple #[.int .i64 0, .int .i64 0, .bool false]) ∧ Ext w w' := by
  have c := split_out x w h
  clear h
  go_enter Try.func34, Try.ntmps34
  go_wp2_with (go_at_call 51; refine c.mono ?_; rintro e w' ⟨⟨v, ⟨a, rfl⟩, rfl⟩, hx⟩)
  go_quiet (fail)
  go_wp2
  go_ret3
  exact ⟨rfl, hx.drewN _⟩
theorem lawSplit_out (x : Int) (w : World) (h : x < -2147483648 ∨ 2147483647 < x) : Calls Try.prog 12 #[.int .i64 x] w fun e w' => e = .returned (.bool true) ∧ Ext w w' := by
  have c := fun W => impSplit_out x W h
  have d := fun W => impSplit_in 1 W (by decide) (by decide)
  have F := Lib.hid (show (sx 32 x == x) = false by rw [beq_eq_false_iff_ne]; simp only [sx]; omega)
  clear h
  go_enter Try.func12, Try.ntmps12
  go_wp2_with (first | (go_at_call 34; ((with_reducible refine (c _).mono ?_); rintro e w' ⟨rfl, hx⟩)) | (go_at_call 34; ((with_reducible refine (d _).mono ?_); rintro e w' ⟨rfl, hy⟩)) | (go_at_call 20; refine (fits_as x 32 false _ (by decide) (by decide) F.out).mono ?_; rintro e w' ⟨rfl, rfl⟩))
  go_ret
  exact ⟨rfl, hx.trans hy⟩
theorem together (x : Int) (h1 : -2147483648 ≤ x) (h2 : x ≤ 2147483647) : wrap32 (hi x * 4096 + lo x) = wrap32 x := by
  obtain ⟨c, hc⟩ : ∃ c : Int, hi x = x / 4096 + x / 2048 % 2 + c * 1048576 := ⟨-((x / 4096 + x / 2048 % 2 + 524288) / 1048576), by simp only [hi, sx]; omega⟩
  have hl : lo x = x % 4096 - x / 2048 % 2 * 4096 := by simp only [lo, sx]; omega
  rw [hc, hl]
  unfold wrap32
  omega
theorem lawSplit_in (x : Int) (w : World) (h1 : -2147483648 ≤ x) (h2 : x ≤ 2147483647) : Calls Try.prog 12 #[.int .i64 x] w fun e w' => e = .returned (.bool true) ∧ Ext w w' := by
  have c := impSplit_in x w h1 h2
  have F := Lib.hid (show (sx 32 x == x) = true by rw [beq_iff_eq]; simp only [sx]; omega)
  obtain ⟨l1, l2⟩ := lo_in x
  obtain ⟨m1, m2⟩ := hi_in x
  have L := Lib.hid (show (sx 12 (lo x) == lo x) = true by rw [beq_iff_eq]; simp only [sx]; omega)
  have H := Lib.hid (show (sx 20 (hi x) == hi x) = true by rw [beq_iff_eq]; simp only [sx]; omega)
  have f1 := fun W => fits_as x 32 true W (by decide) (by decide) F.out
  have f2 := fun W => fits_as (lo x) 12 true W (by decide) (by decide) L.out
  have f3 := fun W => fits_as (hi x) 20 true W (by decide) (by decide) H.out
  have X : (wrap32 (hi x * 4096 + lo x) == x) = true := by rw [together x h1 h2, beq_iff_eq, w32 h1 h2]
  go_enter Try.func12, Try.ntmps12
  go_wp2_with (first | (go_at_call 34; ((with_reducible refine c.mono ?_); rintro e w' ⟨rfl, hx⟩)) | (go_at_call 20; ((with_reducible refine (f1 _).mono ?_); rintro e w' ⟨rfl, rfl⟩)) | (go_at_call 20; ((with_reducible refine (f2 _).mono ?_); rintro e w' ⟨rfl, rfl⟩)) | (go_at_call 20; ((with_reducible refine (f3 _).mono ?_); rintro e w' ⟨rfl, rfl⟩)))
  go_ret
  exact ⟨rfl, hx⟩
theorem walkFnSplit32 (a0 : Int) (w : World) (w0 : (Lit.int .i64 a0).wf = true) : Calls Try.prog 12 #[.int .i64 a0] w fun e w' => e = .returned (.bool true) ∧ Ext w w' := by
  by_cases h : a0 < -2147483648 ∨ 2147483647 < a0
  · exact lawSplit_out a0 w h
  · exact lawSplit_in a0 w (by omega) (by omega)
end Go.Proofs.Ytaekfekgoleolaa.Wk
