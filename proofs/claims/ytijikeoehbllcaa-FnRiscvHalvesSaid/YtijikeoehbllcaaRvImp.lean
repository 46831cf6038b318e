/- The thin package's Riscv64 tells what the package's tells. -/
import Derived.Test.YtijikeoehbllcaaRvArith
import Derived.Test.YtijikeoehbllcaaNear
import Derived.OwnWalk
namespace Go.Proofs.Ytijikeoehbllcaa.Wk
set_option linter.unusedVariables false
open Go.RowKit Go.Proofs.Ytijikeoehbllcaa.Aid
theorem impRv {rt s a p v o n : Int} {b : Bool} {w : World} (c : Calls Try.prog 31 #[.int .i64 rt, .int .i64 s, .int .i64 a, .int .i64 p, .int .i64 v] w fun e w' => e = .returned (.tuple #[.int .i64 o, .int .i64 n, .bool b]) ∧ Ext w w') :
    Calls Try.prog 14 #[.int .i64 rt, .int .i64 s, .int .i64 a, .int .i64 p, .int .i64 v] w fun e w' => e = .returned (.tuple #[.int .i64 o, .int .i64 n, .bool b]) ∧ Ext w w' := by
  go_enter Try.func14, Try.ntmps14
  go_wp2_with (go_at_call 31; ((with_reducible refine c.mono ?_); rintro e w' ⟨rfl, hx⟩))
  go_ret3
  exact ⟨rfl, hx⟩
theorem impRv_bad {rt s a p v n : Int} {b : Bool} {w : World} (c : Calls Try.prog 31 #[.int .i64 rt, .int .i64 s, .int .i64 a, .int .i64 p, .int .i64 v] w fun e w' => (∃ o, e = .returned (.tuple #[.int .i64 o, .int .i64 n, .bool b])) ∧ Ext w w') :
    Calls Try.prog 14 #[.int .i64 rt, .int .i64 s, .int .i64 a, .int .i64 p, .int .i64 v] w fun e w' => (∃ o, e = .returned (.tuple #[.int .i64 o, .int .i64 n, .bool b])) ∧ Ext w w' := by
  go_enter Try.func14, Try.ntmps14
  go_wp2_with (go_at_call 31; ((with_reducible refine c.mono ?_); rintro e w' ⟨⟨o, rfl⟩, hx⟩))
  go_ret3
  exact ⟨⟨_, rfl⟩, hx⟩
theorem sx42 {x : Int} (h : sx 42 x = x) : -2199023255552 ≤ x ∧ x < 2199023255552 := by simp only [sx] at h; omega
theorem and0 (v : Int) : bits .and .u32 v 0 = 0 := by rw [segu 0 v 0 (by decide) (by decide)]; omega
end Go.Proofs.Ytijikeoehbllcaa.Wk
