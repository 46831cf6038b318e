/- The law FnEncodeB returns true: an even number of 13 bits with its sign is put into the field of form B and read from there, every other number is refused: for every number; no condition. -/
import Derived.Test.YtaekfekgoleolaaEnc
import Derived.Test.YtaekfekgoleolaaSpecRv
namespace Go.Proofs.Ytaekfekgoleolaa.Wk
set_option linter.unusedVariables false
open Go.RowKit Go.Proofs.Ytaekfekgoleolaa.Aid
theorem impB_in (x : Int) (w : World) (h1 : -4096 ≤ x) (h2 : x ≤ 4095) (he : x % 2 = 0) : Calls Try.prog 26 #[.int .i64 x] w fun e w' => e = .returned (.tuple #[.int .i64 (eB x), .bool true]) ∧ Ext w w' := by
  have c := encB_in x w h1 h2 he
  clear he
  go_enter Try.func26, Try.ntmps26
  go_wp2_with (go_at_call 47; refine c.mono ?_; rintro e w' ⟨rfl, rfl⟩)
  go_quiet (fail)
  go_wp2
  go_ret2
  exact ⟨rfl, (Ext.refl _).drewN _⟩
theorem impB_bad (x : Int) (w : World) (h : ¬ (-4096 ≤ x ∧ x ≤ 4095 ∧ x % 2 = 0)) : Calls Try.prog 26 #[.int .i64 x] w fun e w' => e = .returned (.tuple #[.int .i64 0, .bool false]) ∧ Ext w w' := by
  have c := encB_bad x w h
  clear h
  go_enter Try.func26, Try.ntmps26
  go_wp2_with (go_at_call 47; refine c.mono ?_; rintro e w' ⟨⟨v, ⟨a, rfl⟩, rfl⟩, hx⟩)
  go_quiet (fail)
  go_wp2
  go_ret2
  exact ⟨rfl, hx.drewN _⟩
theorem toB0 (s a b c : Int) (bs : 0 ≤ s ∧ s < 2) (ba : 0 ≤ a ∧ a < 2) (bb : 0 ≤ b ∧ b < 64) (bc : 0 ≤ c ∧ c < 16) : (-4096 * s + 2048 * a + 32 * b + 2 * c) / 4096 % 2 = s := by omega
theorem toB1 (s a b c : Int) (bs : 0 ≤ s ∧ s < 2) (ba : 0 ≤ a ∧ a < 2) (bb : 0 ≤ b ∧ b < 64) (bc : 0 ≤ c ∧ c < 16) : (-4096 * s + 2048 * a + 32 * b + 2 * c) / 32 % 64 = b := by omega
theorem toB2 (s a b c : Int) (bs : 0 ≤ s ∧ s < 2) (ba : 0 ≤ a ∧ a < 2) (bb : 0 ≤ b ∧ b < 64) (bc : 0 ≤ c ∧ c < 16) : (-4096 * s + 2048 * a + 32 * b + 2 * c) / 2 % 16 = c := by omega
theorem toB3 (s a b c : Int) (bs : 0 ≤ s ∧ s < 2) (ba : 0 ≤ a ∧ a < 2) (bb : 0 ≤ b ∧ b < 64) (bc : 0 ≤ c ∧ c < 16) : (-4096 * s + 2048 * a + 32 * b + 2 * c) / 2048 % 2 = a := by omega
theorem mdB (s a b c : Int) (bs : 0 ≤ s ∧ s < 2) (ba : 0 ≤ a ∧ a < 2) (bb : 0 ≤ b ∧ b < 64) (bc : 0 ≤ c ∧ c < 16) : (s * 2147483648 + b * 33554432 + c * 256 + a * 128) % 4294967296 = s * 2147483648 + b * 33554432 + c * 256 + a * 128 := by omega
theorem ofB0 (s a b c : Int) (bs : 0 ≤ s ∧ s < 2) (ba : 0 ≤ a ∧ a < 2) (bb : 0 ≤ b ∧ b < 64) (bc : 0 ≤ c ∧ c < 16) : (s * 2147483648 + b * 33554432 + c * 256 + a * 128) / 2147483648 % 2 = s := by omega
theorem ofB1 (s a b c : Int) (bs : 0 ≤ s ∧ s < 2) (ba : 0 ≤ a ∧ a < 2) (bb : 0 ≤ b ∧ b < 64) (bc : 0 ≤ c ∧ c < 16) : (s * 2147483648 + b * 33554432 + c * 256 + a * 128) / 128 % 2 = a := by omega
theorem ofB2 (s a b c : Int) (bs : 0 ≤ s ∧ s < 2) (ba : 0 ≤ a ∧ a < 2) (bb : 0 ≤ b ∧ b < 64) (bc : 0 ≤ c ∧ c < 16) : (s * 2147483648 + b * 33554432 + c * 256 + a * 128) / 33554432 % 64 = b := by omega
theorem ofB3 (s a b c : Int) (bs : 0 ≤ s ∧ s < 2) (ba : 0 ≤ a ∧ a < 2) (bb : 0 ≤ b ∧ b < 64) (bc : 0 ≤ c ∧ c < 16) : (s * 2147483648 + b * 33554432 + c * 256 + a * 128) / 256 % 16 = c := by omega
theorem rdB (x : Int) (h1 : -4096 ≤ x) (h2 : x ≤ 4095) (he : x % 2 = 0) : rB (eB x % 4294967296) = x := by
  obtain ⟨s, a, b, c, bs, ba, bb, bc, rfl⟩ : ∃ s a b c : Int, (0 ≤ s ∧ s < 2) ∧ (0 ≤ a ∧ a < 2) ∧ (0 ≤ b ∧ b < 64) ∧ (0 ≤ c ∧ c < 16) ∧ x = -4096 * s + 2048 * a + 32 * b + 2 * c := ⟨x / 4096 % 2, x / 2048 % 2, x / 32 % 64, x / 2 % 16, by omega, by omega, by omega, by omega, by omega⟩
  unfold eB
  rw [toB0 s a b c bs ba bb bc, toB1 s a b c bs ba bb bc, toB2 s a b c bs ba bb bc, toB3 s a b c bs ba bb bc]
  rw [mdB s a b c bs ba bb bc]
  unfold rB
  rw [ofB0 s a b c bs ba bb bc, ofB1 s a b c bs ba bb bc, ofB2 s a b c bs ba bb bc, ofB3 s a b c bs ba bb bc]
  simp only [sx]; omega
theorem tsB (x : Int) : bits .and .u32 (eB x % 4294967296) 33550463 = 0 := by
  rw [show (33550463 : Int) = 33550336 + 127 from rfl, and_split .u32 7 _ (by decide) (by decide) (by decide) (by decide) (by decide), segu 7 _ 127 (by decide) (by decide), and_seg .u32 12 13 (m := 33550336) _ (by decide) (by decide) (by decide)]
  have h : ∀ s a b c : Int, 0 ≤ s ∧ s < 2 → 0 ≤ a ∧ a < 2 → 0 ≤ b ∧ b < 64 → 0 ≤ c ∧ c < 16 → (s * 2147483648 + b * 33554432 + c * 256 + a * 128) % 4294967296 / 2 ^ 12 % 2 ^ 13 * 2 ^ 12 + (s * 2147483648 + b * 33554432 + c * 256 + a * 128) % 4294967296 % 2 ^ 7 = 0 := by
    intro s a b c hs ha hb hc; omega
  exact h _ _ _ _ (by omega) (by omega) (by omega) (by omega)
theorem shB (x : Int) : eB x / 4294967296 = 0 := by have := eB_in x; omega
theorem oneB : (eB 2 != 0) = true := by decide
set_option maxHeartbeats 800000 in
theorem lawB_in (x : Int) (w : World) (h1 : -4096 ≤ x) (h2 : x ≤ 4095) (he : x % 2 = 0) : Calls Try.prog 8 #[.int .i64 x] w fun e w' => e = .returned (.bool true) ∧ Ext w w' := by
  have R0 := rdB x h1 h2 he
  rw [Int.emod_eq_of_lt (eB_in x).1 (by have := eB_in x; omega)] at R0
  have R := Lib.hid R0
  clear R0
  have X1 : (bits .and .u32 (eB x) 33550463 == 0) = true := by have h := tsB x; rw [Int.emod_eq_of_lt (eB_in x).1 (by have := eB_in x; omega)] at h; rw [h]; rfl
  have X3 : (eB x / 4294967296 == 0) = true := by rw [shB]; rfl
  have X4 : (Int.tmod x 2 == 0) = true := by rw [beq_iff_eq, ← Int.dvd_iff_tmod_eq_zero]; omega
  have X5 := oneB
  have F := Lib.hid (show (sx 13 x == x) = true by rw [beq_iff_eq]; simp only [sx]; omega)
  obtain ⟨g1, g2⟩ := eB_in x
  have c := fun W => impB_in x W h1 h2 he
  have d := fun W => impB_in 2 W (by decide) (by decide) (by decide)
  have r := fun W => rvB (eB x) W (by omega) (by omega)
  rw [R.out] at r
  clear he
  go_enter Try.func8, Try.ntmps8
  go_wp2_with (first | (go_at_call 26; ((with_reducible refine (c _).mono ?_); rintro e w' ⟨rfl, hx⟩)) | (go_at_call 26; ((with_reducible refine (d _).mono ?_); rintro e w' ⟨rfl, hy⟩)) | (go_at_call 20; refine (fits_as x 13 true _ (by decide) (by decide) F.out).mono ?_; rintro e w' ⟨rfl, rfl⟩) | (go_at_call 27; refine (r _).mono ?_; rintro e w' ⟨rfl, nq, rfl⟩))
  go_ret
  exact ⟨rfl, by repeat (first | assumption | apply Ext.drewN | exact Ext.trans ‹_› ‹_›)⟩
set_option maxHeartbeats 800000 in
theorem lawB_out (x : Int) (w : World) (w0 : -9223372036854775808 ≤ x ∧ x ≤ 9223372036854775807) (h : x < -4096 ∨ 4095 < x) : Calls Try.prog 8 #[.int .i64 x] w fun e w' => e = .returned (.bool true) ∧ Ext w w' := by
  have X5 := oneB
  have F := Lib.hid (show (sx 13 x == x) = false by rw [beq_eq_false_iff_ne]; simp only [sx]; omega)
  have c := fun W => impB_bad x W (by omega)
  have d := fun W => impB_in 2 W (by decide) (by decide) (by decide)
  clear w0 h
  go_enter Try.func8, Try.ntmps8
  go_wp2_with (first | (go_at_call 26; ((with_reducible refine (c _).mono ?_); rintro e w' ⟨rfl, hx⟩)) | (go_at_call 26; ((with_reducible refine (d _).mono ?_); rintro e w' ⟨rfl, hy⟩)) | (go_at_call 20; refine (fits_as x 13 false _ (by decide) (by decide) F.out).mono ?_; rintro e w' ⟨rfl, rfl⟩))
  go_ret
  exact ⟨rfl, by repeat (first | assumption | apply Ext.drewN | exact Ext.trans ‹_› ‹_›)⟩
set_option maxHeartbeats 800000 in
theorem lawB_odd (x : Int) (w : World) (w0 : -9223372036854775808 ≤ x ∧ x ≤ 9223372036854775807) (h1 : -4096 ≤ x) (h2 : x ≤ 4095) (ho : x % 2 = 1) : Calls Try.prog 8 #[.int .i64 x] w fun e w' => e = .returned (.bool true) ∧ Ext w w' := by
  have X4 : (Int.tmod x 2 == 0) = false := by
    rw [beq_eq_false_iff_ne]; intro h
    rw [← Int.dvd_iff_tmod_eq_zero] at h; omega
  have X5 := oneB
  have F := Lib.hid (show (sx 13 x == x) = true by rw [beq_iff_eq]; simp only [sx]; omega)
  have c := fun W => impB_bad x W (by omega)
  have d := fun W => impB_in 2 W (by decide) (by decide) (by decide)
  clear w0 ho
  go_enter Try.func8, Try.ntmps8
  go_wp2_with (first | (go_at_call 26; ((with_reducible refine (c _).mono ?_); rintro e w' ⟨rfl, hx⟩)) | (go_at_call 26; ((with_reducible refine (d _).mono ?_); rintro e w' ⟨rfl, hy⟩)) | (go_at_call 20; refine (fits_as x 13 true _ (by decide) (by decide) F.out).mono ?_; rintro e w' ⟨rfl, rfl⟩))
  go_ret
  exact ⟨rfl, by repeat (first | assumption | apply Ext.drewN | exact Ext.trans ‹_› ‹_›)⟩
theorem walkFnEncodeB (a0 : Int) (w : World) (w0 : (Lit.int .i64 a0).wf = true) : Calls Try.prog 8 #[.int .i64 a0] w fun e w' => e = .returned (.bool true) ∧ Ext w w' := by
  have b := wf_i64 w0
  by_cases h : a0 < -4096 ∨ 4095 < a0
  · exact lawB_out a0 w b h
  · by_cases ho : a0 % 2 = 1
    · exact lawB_odd a0 w b (by omega) (by omega) ho
    · exact lawB_in a0 w (by omega) (by omega) (by omega)
end Go.Proofs.Ytaekfekgoleolaa.Wk
