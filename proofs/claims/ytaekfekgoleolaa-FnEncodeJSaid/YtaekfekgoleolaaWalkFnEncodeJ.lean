/- The law FnEncodeJ returns true: an even number of 21 bits with its sign is put into the field of form J and read from there, every other number is refused: for every number; no condition. -/
import Derived.Test.YtaekfekgoleolaaEnc
import Derived.Test.YtaekfekgoleolaaSpecRv
namespace Go.Proofs.Ytaekfekgoleolaa.Wk
set_option linter.unusedVariables false
open Go.RowKit Go.Proofs.Ytaekfekgoleolaa.Aid
theorem impJ_in (x : Int) (w : World) (h1 : -1048576 ≤ x) (h2 : x ≤ 1048575) (he : x % 2 = 0) : Calls Try.prog 28 #[.int .i64 x] w fun e w' => e = .returned (.tuple #[.int .i64 (eJ x), .bool true]) ∧ Ext w w' := by
  have c := encJ_in x w h1 h2 he
  clear he
  go_enter Try.func28, Try.ntmps28
  go_wp2_with (go_at_call 48; refine c.mono ?_; rintro e w' ⟨rfl, rfl⟩)
  go_quiet (fail)
  go_wp2
  go_ret2
  exact ⟨rfl, (Ext.refl _).drewN _⟩
theorem impJ_bad (x : Int) (w : World) (h : ¬ (-1048576 ≤ x ∧ x ≤ 1048575 ∧ x % 2 = 0)) : Calls Try.prog 28 #[.int .i64 x] w fun e w' => e = .returned (.tuple #[.int .i64 0, .bool false]) ∧ Ext w w' := by
  have c := encJ_bad x w h
  clear h
  go_enter Try.func28, Try.ntmps28
  go_wp2_with (go_at_call 48; refine c.mono ?_; rintro e w' ⟨⟨v, ⟨a, rfl⟩, rfl⟩, hx⟩)
  go_quiet (fail)
  go_wp2
  go_ret2
  exact ⟨rfl, hx.drewN _⟩
theorem toJ0 (s a b c : Int) (bs : 0 ≤ s ∧ s < 2) (ba : 0 ≤ a ∧ a < 256) (bb : 0 ≤ b ∧ b < 2) (bc : 0 ≤ c ∧ c < 1024) : (-1048576 * s + 4096 * a + 2048 * b + 2 * c) / 1048576 % 2 = s := by omega
theorem toJ1 (s a b c : Int) (bs : 0 ≤ s ∧ s < 2) (ba : 0 ≤ a ∧ a < 256) (bb : 0 ≤ b ∧ b < 2) (bc : 0 ≤ c ∧ c < 1024) : (-1048576 * s + 4096 * a + 2048 * b + 2 * c) / 2 % 1024 = c := by omega
theorem toJ2 (s a b c : Int) (bs : 0 ≤ s ∧ s < 2) (ba : 0 ≤ a ∧ a < 256) (bb : 0 ≤ b ∧ b < 2) (bc : 0 ≤ c ∧ c < 1024) : (-1048576 * s + 4096 * a + 2048 * b + 2 * c) / 2048 % 2 = b := by omega
theorem toJ3 (s a b c : Int) (bs : 0 ≤ s ∧ s < 2) (ba : 0 ≤ a ∧ a < 256) (bb : 0 ≤ b ∧ b < 2) (bc : 0 ≤ c ∧ c < 1024) : (-1048576 * s + 4096 * a + 2048 * b + 2 * c) / 4096 % 256 = a := by omega
theorem mdJ (s a b c : Int) (bs : 0 ≤ s ∧ s < 2) (ba : 0 ≤ a ∧ a < 256) (bb : 0 ≤ b ∧ b < 2) (bc : 0 ≤ c ∧ c < 1024) : (s * 2147483648 + c * 2097152 + b * 1048576 + a * 4096) % 4294967296 = s * 2147483648 + c * 2097152 + b * 1048576 + a * 4096 := by omega
theorem ofJ0 (s a b c : Int) (bs : 0 ≤ s ∧ s < 2) (ba : 0 ≤ a ∧ a < 256) (bb : 0 ≤ b ∧ b < 2) (bc : 0 ≤ c ∧ c < 1024) : (s * 2147483648 + c * 2097152 + b * 1048576 + a * 4096) / 2147483648 % 2 = s := by omega
theorem ofJ1 (s a b c : Int) (bs : 0 ≤ s ∧ s < 2) (ba : 0 ≤ a ∧ a < 256) (bb : 0 ≤ b ∧ b < 2) (bc : 0 ≤ c ∧ c < 1024) : (s * 2147483648 + c * 2097152 + b * 1048576 + a * 4096) / 4096 % 256 = a := by omega
theorem ofJ2 (s a b c : Int) (bs : 0 ≤ s ∧ s < 2) (ba : 0 ≤ a ∧ a < 256) (bb : 0 ≤ b ∧ b < 2) (bc : 0 ≤ c ∧ c < 1024) : (s * 2147483648 + c * 2097152 + b * 1048576 + a * 4096) / 1048576 % 2 = b := by omega
theorem ofJ3 (s a b c : Int) (bs : 0 ≤ s ∧ s < 2) (ba : 0 ≤ a ∧ a < 256) (bb : 0 ≤ b ∧ b < 2) (bc : 0 ≤ c ∧ c < 1024) : (s * 2147483648 + c * 2097152 + b * 1048576 + a * 4096) / 2097152 % 1024 = c := by omega
theorem rdJ (x : Int) (h1 : -1048576 ≤ x) (h2 : x ≤ 1048575) (he : x % 2 = 0) : rJ (eJ x % 4294967296) = x := by
  obtain ⟨s, a, b, c, bs, ba, bb, bc, rfl⟩ : ∃ s a b c : Int, (0 ≤ s ∧ s < 2) ∧ (0 ≤ a ∧ a < 256) ∧ (0 ≤ b ∧ b < 2) ∧ (0 ≤ c ∧ c < 1024) ∧ x = -1048576 * s + 4096 * a + 2048 * b + 2 * c := ⟨x / 1048576 % 2, x / 4096 % 256, x / 2048 % 2, x / 2 % 1024, by omega, by omega, by omega, by omega, by omega⟩
  unfold eJ
  rw [toJ0 s a b c bs ba bb bc, toJ1 s a b c bs ba bb bc, toJ2 s a b c bs ba bb bc, toJ3 s a b c bs ba bb bc]
  rw [mdJ s a b c bs ba bb bc]
  unfold rJ
  rw [ofJ0 s a b c bs ba bb bc, ofJ1 s a b c bs ba bb bc, ofJ2 s a b c bs ba bb bc, ofJ3 s a b c bs ba bb bc]
  simp only [sx]; omega
theorem tsJ (x : Int) : bits .and .u32 (eJ x % 4294967296) 4095 = 0 := by
  rw [segu 12 _ _ (by decide) (by decide)]; simp only [eJ]; omega
theorem oneJ : (eJ 2 != 0) = true := by decide
set_option maxHeartbeats 800000 in
theorem lawJ_in (x : Int) (w : World) (h1 : -1048576 ≤ x) (h2 : x ≤ 1048575) (he : x % 2 = 0) : Calls Try.prog 9 #[.int .i64 x] w fun e w' => e = .returned (.bool true) ∧ Ext w w' := by
  have R0 := rdJ x h1 h2 he
  rw [Int.emod_eq_of_lt (eJ_in x).1 (by have := eJ_in x; omega)] at R0
  have R := Lib.hid R0
  clear R0
  have X1 : (bits .and .u32 (eJ x) 4095 == 0) = true := by have h := tsJ x; rw [Int.emod_eq_of_lt (eJ_in x).1 (by have := eJ_in x; omega)] at h; rw [h]; rfl
  have X4 : (Int.tmod x 2 == 0) = true := by rw [beq_iff_eq, ← Int.dvd_iff_tmod_eq_zero]; omega
  have X5 := oneJ
  have F := Lib.hid (show (sx 21 x == x) = true by rw [beq_iff_eq]; simp only [sx]; omega)
  obtain ⟨g1, g2⟩ := eJ_in x
  have c := fun W => impJ_in x W h1 h2 he
  have d := fun W => impJ_in 2 W (by decide) (by decide) (by decide)
  have r := fun W => rvJ (eJ x) W (by omega) (by omega)
  rw [R.out] at r
  clear he
  go_enter Try.func9, Try.ntmps9
  go_wp2_with (first | (go_at_call 28; ((with_reducible refine (c _).mono ?_); rintro e w' ⟨rfl, hx⟩)) | (go_at_call 28; ((with_reducible refine (d _).mono ?_); rintro e w' ⟨rfl, hy⟩)) | (go_at_call 20; refine (fits_as x 21 true _ (by decide) (by decide) F.out).mono ?_; rintro e w' ⟨rfl, rfl⟩) | (go_at_call 29; refine (r _).mono ?_; rintro e w' ⟨rfl, nq, rfl⟩))
  go_ret
  exact ⟨rfl, by repeat (first | assumption | apply Ext.drewN | exact Ext.trans ‹_› ‹_›)⟩
set_option maxHeartbeats 800000 in
theorem lawJ_out (x : Int) (w : World) (w0 : -9223372036854775808 ≤ x ∧ x ≤ 9223372036854775807) (h : x < -1048576 ∨ 1048575 < x) : Calls Try.prog 9 #[.int .i64 x] w fun e w' => e = .returned (.bool true) ∧ Ext w w' := by
  have X5 := oneJ
  have F := Lib.hid (show (sx 21 x == x) = false by rw [beq_eq_false_iff_ne]; simp only [sx]; omega)
  have c := fun W => impJ_bad x W (by omega)
  have d := fun W => impJ_in 2 W (by decide) (by decide) (by decide)
  clear w0 h
  go_enter Try.func9, Try.ntmps9
  go_wp2_with (first | (go_at_call 28; ((with_reducible refine (c _).mono ?_); rintro e w' ⟨rfl, hx⟩)) | (go_at_call 28; ((with_reducible refine (d _).mono ?_); rintro e w' ⟨rfl, hy⟩)) | (go_at_call 20; refine (fits_as x 21 false _ (by decide) (by decide) F.out).mono ?_; rintro e w' ⟨rfl, rfl⟩))
  go_ret
  exact ⟨rfl, by repeat (first | assumption | apply Ext.drewN | exact Ext.trans ‹_› ‹_›)⟩
set_option maxHeartbeats 800000 in
theorem lawJ_odd (x : Int) (w : World) (w0 : -9223372036854775808 ≤ x ∧ x ≤ 9223372036854775807) (h1 : -1048576 ≤ x) (h2 : x ≤ 1048575) (ho : x % 2 = 1) : Calls Try.prog 9 #[.int .i64 x] w fun e w' => e = .returned (.bool true) ∧ Ext w w' := by
  have X4 : (Int.tmod x 2 == 0) = false := by
    rw [beq_eq_false_iff_ne]; intro h
    rw [← Int.dvd_iff_tmod_eq_zero] at h; omega
  have X5 := oneJ
  have F := Lib.hid (show (sx 21 x == x) = true by rw [beq_iff_eq]; simp only [sx]; omega)
  have c := fun W => impJ_bad x W (by omega)
  have d := fun W => impJ_in 2 W (by decide) (by decide) (by decide)
  clear w0 ho
  go_enter Try.func9, Try.ntmps9
  go_wp2_with (first | (go_at_call 28; ((with_reducible refine (c _).mono ?_); rintro e w' ⟨rfl, hx⟩)) | (go_at_call 28; ((with_reducible refine (d _).mono ?_); rintro e w' ⟨rfl, hy⟩)) | (go_at_call 20; refine (fits_as x 21 true _ (by decide) (by decide) F.out).mono ?_; rintro e w' ⟨rfl, rfl⟩))
  go_ret
  exact ⟨rfl, by repeat (first | assumption | apply Ext.drewN | exact Ext.trans ‹_› ‹_›)⟩
theorem walkFnEncodeJ (a0 : Int) (w : World) (w0 : (Lit.int .i64 a0).wf = true) : Calls Try.prog 9 #[.int .i64 a0] w fun e w' => e = .returned (.bool true) ∧ Ext w w' := by
  have b := wf_i64 w0
  by_cases h : a0 < -1048576 ∨ 1048575 < a0
  · exact lawJ_out a0 w b h
  · by_cases ho : a0 % 2 = 1
    · exact lawJ_odd a0 w b (by omega) (by omega) ho
    · exact lawJ_in a0 w (by omega) (by omega) (by omega)
end Go.Proofs.Ytaekfekgoleolaa.Wk
