/- Contracts of errors.New, immFits, immIFits, immEven: a number that fits has no error, another has one. Widths 9, 12, 13, 20, 21, 32 (all that the program asks for). -/
import Derived.Test.YtijikeoehbllcaaRows
import Derived.Test.YtijikeoehbllcaaAid
import Derived.Test.YtijikeoehbllcaaWorld
namespace Go.Proofs.Ytijikeoehbllcaa.Wk
open Go.RowKit Go.Proofs.Ytijikeoehbllcaa.Aid
/-- An error that errors.New made. -/
def Err (v : Value) : Prop := ∃ a, v = .iface 70 (.pointer (some a))
set_option maxHeartbeats 400000 in
theorem err_new (s : ByteArray) (w : World) : Calls Try.prog 57 #[.string s] w fun e w' => (∃ v, Err v ∧ e = .returned v) ∧ Ext w w' := by
  go_enter Try.func57, Try.ntmps57
  go_wp2
  go_ret
  exact ⟨⟨_, ⟨_, rfl⟩, rfl⟩, (Ext.refl _).alloc _⟩
/-- The widths that the program asks for, with the least and the greatest number of each. -/
def Wide (n lo hi : Int) : Prop := (n = 9 ∧ lo = -256 ∧ hi = 255) ∨ (n = 12 ∧ lo = -2048 ∧ hi = 2047) ∨ (n = 13 ∧ lo = -4096 ∧ hi = 4095) ∨ (n = 20 ∧ lo = -524288 ∧ hi = 524287) ∨ (n = 21 ∧ lo = -1048576 ∧ hi = 1048575) ∨ (n = 32 ∧ lo = -2147483648 ∧ hi = 2147483647)
set_option maxHeartbeats 800000 in
theorem fits_in (x n lo hi : Int) (w : World) (hn : Wide n lo hi) (h1 : lo ≤ x) (h2 : x ≤ hi) : Calls Try.prog 56 #[.int .i64 x, .int .u64 n, .bool true] w fun e w' => e = .returned .nilIface ∧ w = w' := by
  rcases hn with ⟨rfl, rfl, rfl⟩ | ⟨rfl, rfl, rfl⟩ | ⟨rfl, rfl, rfl⟩ | ⟨rfl, rfl, rfl⟩ | ⟨rfl, rfl, rfl⟩ | ⟨rfl, rfl, rfl⟩
  all_goals
    go_enter Try.func56, Try.ntmps56
    go_wp2
    go_ret
    exact ⟨rfl, rfl⟩
set_option maxHeartbeats 800000 in
theorem fits_out (x n lo hi : Int) (w : World) (hn : Wide n lo hi) (h : x < lo ∨ hi < x) : Calls Try.prog 56 #[.int .i64 x, .int .u64 n, .bool true] w fun e w' => (∃ v, Err v ∧ e = .returned v) ∧ Ext w w' := by
  rcases hn with ⟨rfl, rfl, rfl⟩ | ⟨rfl, rfl, rfl⟩ | ⟨rfl, rfl, rfl⟩ | ⟨rfl, rfl, rfl⟩ | ⟨rfl, rfl, rfl⟩ | ⟨rfl, rfl, rfl⟩
  all_goals
    rcases h with h | h
    all_goals
      go_enter Try.func56, Try.ntmps56
      go_wp2_with (go_at_call 57; refine (err_new _ _).mono ?_; rintro e w' ⟨⟨v, hv, rfl⟩, hx⟩)
      go_ret
      exact ⟨⟨_, hv, rfl⟩, hx⟩
theorem ifits_in (x n lo hi : Int) (w : World) (hn : Wide n lo hi) (h1 : lo ≤ x) (h2 : x ≤ hi) : Calls Try.prog 49 #[.int .i64 x, .int .u64 n] w fun e w' => e = .returned .nilIface ∧ w = w' := by
  have c := fits_in x n lo hi w hn h1 h2
  clear h1 h2 hn
  go_enter Try.func49, Try.ntmps49
  go_wp2_with (go_at_call 56; refine c.mono ?_; rintro e w' ⟨rfl, rfl⟩)
  go_ret
  exact ⟨rfl, rfl⟩
theorem ifits_out (x n lo hi : Int) (w : World) (hn : Wide n lo hi) (h : x < lo ∨ hi < x) : Calls Try.prog 49 #[.int .i64 x, .int .u64 n] w fun e w' => (∃ v, Err v ∧ e = .returned v) ∧ Ext w w' := by
  have c := fits_out x n lo hi w hn h
  clear h hn
  go_enter Try.func49, Try.ntmps49
  go_wp2_with (go_at_call 56; refine c.mono ?_; rintro e w' ⟨⟨v, hv, rfl⟩, hx⟩)
  go_ret
  exact ⟨⟨_, hv, rfl⟩, hx⟩
theorem and_one (x : Int) : bits .and .i64 x 1 = x % 2 := by
  simpa using and_seg .i64 0 1 x (m := 1) (by decide) (by decide) (by decide)
theorem even_in (x : Int) (w : World) (h : x % 2 = 0) : Calls Try.prog 50 #[.int .i64 x] w fun e w' => e = .returned .nilIface ∧ w = w' := by
  have h1 : (bits .and .i64 x 1 != 0) = false := by rw [and_one, h]; rfl
  clear h
  go_enter Try.func50, Try.ntmps50
  go_wp2
  go_ret
  exact ⟨rfl, rfl⟩
theorem even_out (x : Int) (w : World) (h : x % 2 = 1) : Calls Try.prog 50 #[.int .i64 x] w fun e w' => (∃ v, Err v ∧ e = .returned v) ∧ Ext w w' := by
  have h1 : (bits .and .i64 x 1 != 0) = true := by rw [and_one, h]; rfl
  clear h
  go_enter Try.func50, Try.ntmps50
  go_wp2_with (go_at_call 57; refine (err_new _ _).mono ?_; rintro e w' ⟨⟨v, hv, rfl⟩, hx⟩)
  go_ret
  exact ⟨⟨_, hv, rfl⟩, hx⟩
end Go.Proofs.Ytijikeoehbllcaa.Wk
