/- Contracts of the laws' near and word: whether two to four numbers have 42 bits with their sign; whether a number has 32 bits of which some are noughts. -/
import Derived.Test.YtcchhdjpmnhfmaaSpec
namespace Go.Proofs.Ytcchhdjpmnhfmaa.Wk
set_option linter.unusedVariables false
open Go.RowKit Go.Proofs.Ytcchhdjpmnhfmaa.Aid
set_option maxHeartbeats 800000 in
theorem near_any (X : Nat → Int) (b n c : Nat) (r : Bool) (w : World) (hn : n ≤ 100) (hr : r = true ↔ ∀ k, k < n → sx 42 (X k) = X k)
    (hc : ∀ k, k < n → w.cell? ⟨b, k, none⟩ = some (.int .i64 (X k))) :
    Calls Try.prog 12 #[.slice (some ⟨b, 0, none⟩) n c] w fun e w' => e = .returned (.bool r) ∧ w = w' := by
  have HR := Lib.hid hr
  clear hr
  go_enter Try.func12, Try.ntmps12
  go_wp2
  go_loop [4, 7] (fun x i => ∃ k : Nat, k ≤ n ∧ i = .int .i64 k ∧ (∃ y, x = y) ∧ Hid (∀ j, j < k → sx 42 (X j) = X j)) (fun _ i => n - (intOf i).toNat)
  case atStart => exact ⟨0, Nat.zero_le _, rfl, ⟨_, rfl⟩, fun j hj => absurd hj (Nat.not_lt_zero _)⟩
  case round =>
    obtain ⟨k, hk, rfl, ⟨y, rfl⟩, hall⟩ := hrel
    by_cases hlt : k < n
    · have hck := hc k hlt
      clear hc
      cases hf : (sx 42 (X k) == X k) with
      | true =>
        have f1 := fun W => fits_as (X k) 42 true W (by decide) (by decide) hf
        have hall' : Hid (∀ j, j < k + 1 → sx 42 (X j) = X j) := fun j hj => by
          rcases Nat.lt_or_ge j k with h | h
          · exact hall.out j h
          · obtain rfl : j = k := by omega
            exact beq_iff_eq.mp hf
        clear hall hf
        go_wp2_with (go_at_call 15; ((with_reducible refine (f1 _).mono ?_); rintro e w' ⟨rfl, rfl⟩))
        go_round
        case rel => exact ⟨k + 1, by omega, by go_num, ⟨_, rfl⟩, hall'⟩
        case measure => simp [intOf]; omega
      | false =>
        have f1 := fun W => fits_as (X k) 42 false W (by decide) (by decide) hf
        have hno : r = false := by
          cases r with
          | false => rfl
          | true => exact absurd (HR.out.mp rfl k hlt) (beq_eq_false_iff_ne.mp hf)
        subst hno
        clear hall hf HR
        go_wp2_with (go_at_call 15; ((with_reducible refine (f1 _).mono ?_); rintro e w' ⟨rfl, rfl⟩))
        go_ret
        exact ⟨rfl, rfl⟩
    · have hyes : r = true := HR.out.mpr fun j hj => hall.out j (by omega)
      subst hyes
      clear hall HR hc
      go_wp2
      go_ret
      exact ⟨rfl, rfl⟩
theorem cells_new (w : World) (cs : Array Value) (t k : Nat) : (w.alloc (.cells cs t)).cell? ⟨w.heap.size, k, none⟩ = cs[k]? := by
  have h : (w.alloc (.cells cs t)).heap[w.heap.size]? = some (.cells cs t) := by
    show (w.heap.push _)[w.heap.size]? = _
    rw [Array.getElem?_push, if_pos rfl]
  unfold World.cell?
  dsimp only
  rw [h]
  rfl
theorem near2 (x y : Int) (r : Bool) (w : World) (hr : r = true ↔ (sx 42 x = x ∧ sx 42 y = y)) :
    Calls Try.prog 12 #[.slice (some ⟨w.heap.size, 0, none⟩) 2 2] (w.alloc (.cells #[.int .i64 x, .int .i64 y] 2)) fun e w' => e = .returned (.bool r) ∧ w.alloc (.cells #[.int .i64 x, .int .i64 y] 2) = w' := by
  refine near_any (fun k => [x, y].getD k 0) w.heap.size 2 2 r _ (by decide) ?_ ?_
  · rw [hr]
    constructor
    · rintro ⟨h1, h2⟩ k hk
      rcases (show k = 0 ∨ k = 1 by omega) with rfl | rfl
      · exact h1
      · exact h2
    · intro h; exact ⟨h 0 (by decide), h 1 (by decide)⟩
  · intro k hk
    rcases (show k = 0 ∨ k = 1 by omega) with rfl | rfl <;> rw [cells_new] <;> rfl
theorem near3 (x y z : Int) (r : Bool) (w : World) (hr : r = true ↔ (sx 42 x = x ∧ sx 42 y = y ∧ sx 42 z = z)) :
    Calls Try.prog 12 #[.slice (some ⟨w.heap.size, 0, none⟩) 3 3] (w.alloc (.cells #[.int .i64 x, .int .i64 y, .int .i64 z] 2)) fun e w' => e = .returned (.bool r) ∧ w.alloc (.cells #[.int .i64 x, .int .i64 y, .int .i64 z] 2) = w' := by
  refine near_any (fun k => [x, y, z].getD k 0) w.heap.size 3 3 r _ (by decide) ?_ ?_
  · rw [hr]
    constructor
    · rintro ⟨h1, h2, h3⟩ k hk
      rcases (show k = 0 ∨ k = 1 ∨ k = 2 by omega) with rfl | rfl | rfl
      · exact h1
      · exact h2
      · exact h3
    · intro h; exact ⟨h 0 (by decide), h 1 (by decide), h 2 (by decide)⟩
  · intro k hk
    rcases (show k = 0 ∨ k = 1 ∨ k = 2 by omega) with rfl | rfl | rfl <;> rw [cells_new] <;> rfl
theorem near4 (x y z u : Int) (r : Bool) (w : World) (hr : r = true ↔ (sx 42 x = x ∧ sx 42 y = y ∧ sx 42 z = z ∧ sx 42 u = u)) :
    Calls Try.prog 12 #[.slice (some ⟨w.heap.size, 0, none⟩) 4 4] (w.alloc (.cells #[.int .i64 x, .int .i64 y, .int .i64 z, .int .i64 u] 2)) fun e w' => e = .returned (.bool r) ∧ w.alloc (.cells #[.int .i64 x, .int .i64 y, .int .i64 z, .int .i64 u] 2) = w' := by
  refine near_any (fun k => [x, y, z, u].getD k 0) w.heap.size 4 4 r _ (by decide) ?_ ?_
  · rw [hr]
    constructor
    · rintro ⟨h1, h2, h3, h4⟩ k hk
      rcases (show k = 0 ∨ k = 1 ∨ k = 2 ∨ k = 3 by omega) with rfl | rfl | rfl | rfl
      · exact h1
      · exact h2
      · exact h3
      · exact h4
    · intro h; exact ⟨h 0 (by decide), h 1 (by decide), h 2 (by decide), h 3 (by decide)⟩
  · intro k hk
    rcases (show k = 0 ∨ k = 1 ∨ k = 2 ∨ k = 3 by omega) with rfl | rfl | rfl | rfl <;> rw [cells_new] <;> rfl
theorem word_yes (v m : Int) (w : World) (h0 : 0 ≤ v) (h1 : v < 4294967296) (hm : bits .and .u32 v m = 0) : Calls Try.prog 13 #[.int .i64 v, .int .u32 m] w fun e w' => e = .returned (.bool true) ∧ w = w' := by
  have X1 : (v / 4294967296 == 0) = true := by rw [beq_iff_eq]; omega
  have X2 : (bits .and .u32 v m == 0) = true := by rw [hm]; rfl
  clear hm
  go_enter Try.func13, Try.ntmps13
  go_wp2
  go_ret
  exact ⟨rfl, rfl⟩
theorem word_far (v m : Int) (w : World) (h : v < 0 ∨ 4294967296 ≤ v) : Calls Try.prog 13 #[.int .i64 v, .int .u32 m] w fun e w' => e = .returned (.bool false) ∧ w = w' := by
  have X1 : (v / 4294967296 == 0) = false := by rw [beq_eq_false_iff_ne]; omega
  clear h
  go_enter Try.func13, Try.ntmps13
  go_wp2
  go_ret
  exact ⟨rfl, rfl⟩
theorem word_ones (v m : Int) (w : World) (h0 : 0 ≤ v) (h1 : v < 4294967296) (hm : bits .and .u32 v m ≠ 0) : Calls Try.prog 13 #[.int .i64 v, .int .u32 m] w fun e w' => e = .returned (.bool false) ∧ w = w' := by
  have X1 : (v / 4294967296 == 0) = true := by rw [beq_iff_eq]; omega
  have X2 : (bits .and .u32 v m == 0) = false := by rw [beq_eq_false_iff_ne]; exact hm
  clear hm
  go_enter Try.func13, Try.ntmps13
  go_wp2
  go_ret
  exact ⟨rfl, rfl⟩
theorem word_no (v m : Int) (w : World) (h : ¬ (0 ≤ v ∧ v < 4294967296 ∧ bits .and .u32 v m = 0)) : Calls Try.prog 13 #[.int .i64 v, .int .u32 m] w fun e w' => e = .returned (.bool false) ∧ w = w' := by
  by_cases h1 : v < 0 ∨ 4294967296 ≤ v
  · exact word_far v m w h1
  · exact word_ones v m w (by omega) (by omega) (fun hm => h ⟨by omega, by omega, hm⟩)
end Go.Proofs.Ytcchhdjpmnhfmaa.Wk
