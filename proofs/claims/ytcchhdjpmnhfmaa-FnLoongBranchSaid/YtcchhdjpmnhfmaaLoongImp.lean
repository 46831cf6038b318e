/- The thin package's Loong64 tells what the package's tells. -/
import Derived.Test.YtcchhdjpmnhfmaaSpecM
import Derived.Test.YtcchhdjpmnhfmaaNear
import Derived.OwnWalk
namespace Go.Proofs.Ytcchhdjpmnhfmaa.Wk
set_option linter.unusedVariables false
open Go.RowKit Go.Proofs.Ytcchhdjpmnhfmaa.Aid
theorem impLoong {rt s a p v o n : Int} {b : Bool} {w : World} (c : Calls Try.prog 30 #[.int .i64 rt, .int .i64 s, .int .i64 a, .int .i64 p, .int .i64 v] w fun e w' => e = .returned (.tuple #[.int .i64 o, .int .i64 n, .bool b]) ∧ w = w') :
    Calls Try.prog 14 #[.int .i64 rt, .int .i64 s, .int .i64 a, .int .i64 p, .int .i64 v] w fun e w' => e = .returned (.tuple #[.int .i64 o, .int .i64 n, .bool b]) ∧ w = w' := by
  go_enter Try.func14, Try.ntmps14
  go_wp2_with (go_at_call 30; ((with_reducible refine c.mono ?_); rintro e w' ⟨rfl, rfl⟩))
  go_ret3
  exact ⟨rfl, rfl⟩
theorem impLoong_bad {rt s a p v n : Int} {b : Bool} {w : World} (c : Calls Try.prog 30 #[.int .i64 rt, .int .i64 s, .int .i64 a, .int .i64 p, .int .i64 v] w fun e w' => (∃ o, e = .returned (.tuple #[.int .i64 o, .int .i64 n, .bool b])) ∧ w = w') :
    Calls Try.prog 14 #[.int .i64 rt, .int .i64 s, .int .i64 a, .int .i64 p, .int .i64 v] w fun e w' => (∃ o, e = .returned (.tuple #[.int .i64 o, .int .i64 n, .bool b])) ∧ w = w' := by
  go_enter Try.func14, Try.ntmps14
  go_wp2_with (go_at_call 30; ((with_reducible refine c.mono ?_); rintro e w' ⟨⟨o, rfl⟩, rfl⟩))
  go_ret3
  exact ⟨⟨_, rfl⟩, rfl⟩
theorem tmod_yes (t : Int) (h : t % 4 = 0) : (Int.tmod t 4 != 0) = false := by rw [bne_eq_false_iff_eq, ← Int.dvd_iff_tmod_eq_zero]; omega
theorem tmod_no (t : Int) (h : t % 4 ≠ 0) : (Int.tmod t 4 != 0) = true := by rw [bne_iff_ne]; intro h; rw [← Int.dvd_iff_tmod_eq_zero] at h; omega
theorem fits_yes (n : Nat) (t : Int) (h : -2 ^ (n - 1) ≤ t ∧ t < 2 ^ (n - 1)) (hn : 1 ≤ n) : (sx n t == t) = true := by
  rw [beq_iff_eq]
  unfold sx
  have e : (2 : Int) ^ n = 2 ^ (n - 1) * 2 := by rw [← Int.pow_succ]; congr 1; omega
  rw [Int.emod_eq_of_lt (by omega) (by omega)]
  omega
theorem fits_no (n : Nat) (t : Int) (h : t < -2 ^ (n - 1) ∨ 2 ^ (n - 1) ≤ t) : (sx n t == t) = false := by
  rw [beq_eq_false_iff_ne]
  unfold sx
  intro he
  have e : (2 : Int) ^ n = 2 ^ (n - 1) * 2 ∨ n = 0 := by
    rcases Nat.eq_zero_or_pos n with h0 | h0
    · exact .inr h0
    · left; rw [← Int.pow_succ]; congr 1; omega
  have p := pow_pos' n
  have p1 := pow_pos' (n - 1)
  have l := Int.emod_nonneg (t + 2 ^ (n - 1)) (Int.ne_of_gt p)
  have u := Int.emod_lt_of_pos (t + 2 ^ (n - 1)) p
  rcases e with e | rfl
  · omega
  · simp at *; omega
end Go.Proofs.Ytcchhdjpmnhfmaa.Wk
