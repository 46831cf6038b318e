/- The law FnEncodeCB returns true: an even number of 9 bits with its sign is put into the field of form CB and read from there, every other number is refused: for every number; no condition. -/
import Derived.Test.YtaekfekgoleolaaEncC
import Derived.Test.YtaekfekgoleolaaSpecRv
namespace Go.Proofs.Ytaekfekgoleolaa.Wk
set_option linter.unusedVariables false
open Go.RowKit Go.Proofs.Ytaekfekgoleolaa.Aid
theorem impCB_in (x : Int) (w : World) (h1 : -256 ≤ x) (h2 : x ≤ 255) (he : x % 2 = 0) : Calls Try.prog 30 #[.int .i64 x] w fun e w' => e = .returned (.tuple #[.int .i64 (eCB x), .bool true]) ∧ Ext w w' := by
  have c := encCB_in x w h1 h2 he
  clear he
  go_enter Try.func30, Try.ntmps30
  go_wp2_with (go_at_call 49; refine c.mono ?_; rintro e w' ⟨rfl, hx⟩)
  go_quiet (fail)
  go_wp2
  go_ret2
  exact ⟨rfl, hx.drewN _⟩
theorem impCB_bad (x : Int) (w : World) (h : ¬ (-256 ≤ x ∧ x ≤ 255 ∧ x % 2 = 0)) : Calls Try.prog 30 #[.int .i64 x] w fun e w' => e = .returned (.tuple #[.int .i64 0, .bool false]) ∧ Ext w w' := by
  have c := encCB_bad x w h
  clear h
  go_enter Try.func30, Try.ntmps30
  go_wp2_with (go_at_call 49; refine c.mono ?_; rintro e w' ⟨⟨v, ⟨a, rfl⟩, rfl⟩, hx⟩)
  go_quiet (fail)
  go_wp2
  go_ret2
  exact ⟨rfl, hx.drewN _⟩
theorem allCB : ∀ n : Fin 256, rCB (eCB (2 * (n.val : Int) - 256) % 4294967296) = 2 * (n.val : Int) - 256 := by decide +kernel
theorem rdCB (x : Int) (h1 : -256 ≤ x) (h2 : x ≤ 255) (he : x % 2 = 0) : rCB (eCB x % 4294967296) = x := by
  obtain ⟨n, hn⟩ : ∃ n : Nat, x = 2 * (n : Int) - 256 := ⟨((x + 256) / 2).toNat, by omega⟩
  have := allCB ⟨n, by omega⟩
  rw [hn]; exact this
theorem tsCB (x : Int) : bits .andNot .i64 (eCB x) 7292 = 0 := by
  have h := eCB_in x
  rw [andNot_eq, show (7292 : Int) = 7168 + 124 from rfl, and_split .i64 7 _ (by decide) (by decide) (by decide) (by decide) (by decide), and_seg .i64 10 3 (m := 7168) _ (by decide) (by decide) (by decide), and_seg .i64 2 5 (m := 124) _ (by decide) (by decide) (by decide), wrap_i64]
  have e : eCB x - (eCB x / 2 ^ 10 % 2 ^ 3 * 2 ^ 10 + eCB x / 2 ^ 2 % 2 ^ 5 * 2 ^ 2) = 0 := by have b := bCB_in x; unfold eCB; generalize bCB x = y at *; omega
  rw [e]; simp [wrap64]
theorem shCB (x : Int) : eCB x / 65536 = 0 := by have := eCB_in x; omega
theorem oneCB : (eCB 2 != 0) = true := by decide
set_option maxHeartbeats 800000 in
theorem lawCB_in (x : Int) (w : World) (h1 : -256 ≤ x) (h2 : x ≤ 255) (he : x % 2 = 0) : Calls Try.prog 10 #[.int .i64 x] w fun e w' => e = .returned (.bool true) ∧ Ext w w' := by
  have R0 := rdCB x h1 h2 he
  rw [Int.emod_eq_of_lt (eCB_in x).1 (by have := eCB_in x; omega)] at R0
  have R := Lib.hid R0
  clear R0
  have X1 : (bits .andNot .i64 (eCB x) 7292 == 0) = true := by rw [tsCB]; rfl
  have X3 : (eCB x / 65536 == 0) = true := by rw [shCB]; rfl
  have X4 : (Int.tmod x 2 == 0) = true := by rw [beq_iff_eq, ← Int.dvd_iff_tmod_eq_zero]; omega
  have X5 := oneCB
  have F := Lib.hid (show (sx 9 x == x) = true by rw [beq_iff_eq]; simp only [sx]; omega)
  obtain ⟨g1, g2⟩ := eCB_in x
  have c := fun W => impCB_in x W h1 h2 he
  have d := fun W => impCB_in 2 W (by decide) (by decide) (by decide)
  have r := fun W => rvCB (eCB x) W (by omega) (by omega)
  rw [R.out] at r
  clear he
  go_enter Try.func10, Try.ntmps10
  go_wp2_with (first | (go_at_call 30; ((with_reducible refine (c _).mono ?_); rintro e w' ⟨rfl, hx⟩)) | (go_at_call 30; ((with_reducible refine (d _).mono ?_); rintro e w' ⟨rfl, hy⟩)) | (go_at_call 20; refine (fits_as x 9 true _ (by decide) (by decide) F.out).mono ?_; rintro e w' ⟨rfl, rfl⟩) | (go_at_call 31; refine (r _).mono ?_; rintro e w' ⟨rfl, nq, rfl⟩))
  go_ret
  exact ⟨rfl, by repeat (first | assumption | apply Ext.drewN | exact Ext.trans ‹_› ‹_›)⟩
set_option maxHeartbeats 800000 in
theorem lawCB_out (x : Int) (w : World) (w0 : -9223372036854775808 ≤ x ∧ x ≤ 9223372036854775807) (h : x < -256 ∨ 255 < x) : Calls Try.prog 10 #[.int .i64 x] w fun e w' => e = .returned (.bool true) ∧ Ext w w' := by
  have X5 := oneCB
  have F := Lib.hid (show (sx 9 x == x) = false by rw [beq_eq_false_iff_ne]; simp only [sx]; omega)
  have c := fun W => impCB_bad x W (by omega)
  have d := fun W => impCB_in 2 W (by decide) (by decide) (by decide)
  clear w0 h
  go_enter Try.func10, Try.ntmps10
  go_wp2_with (first | (go_at_call 30; ((with_reducible refine (c _).mono ?_); rintro e w' ⟨rfl, hx⟩)) | (go_at_call 30; ((with_reducible refine (d _).mono ?_); rintro e w' ⟨rfl, hy⟩)) | (go_at_call 20; refine (fits_as x 9 false _ (by decide) (by decide) F.out).mono ?_; rintro e w' ⟨rfl, rfl⟩))
  go_ret
  exact ⟨rfl, by repeat (first | assumption | apply Ext.drewN | exact Ext.trans ‹_› ‹_›)⟩
set_option maxHeartbeats 800000 in
theorem lawCB_odd (x : Int) (w : World) (w0 : -9223372036854775808 ≤ x ∧ x ≤ 9223372036854775807) (h1 : -256 ≤ x) (h2 : x ≤ 255) (ho : x % 2 = 1) : Calls Try.prog 10 #[.int .i64 x] w fun e w' => e = .returned (.bool true) ∧ Ext w w' := by
  have X4 : (Int.tmod x 2 == 0) = false := by
    rw [beq_eq_false_iff_ne]; intro h
    rw [← Int.dvd_iff_tmod_eq_zero] at h; omega
  have X5 := oneCB
  have F := Lib.hid (show (sx 9 x == x) = true by rw [beq_iff_eq]; simp only [sx]; omega)
  have c := fun W => impCB_bad x W (by omega)
  have d := fun W => impCB_in 2 W (by decide) (by decide) (by decide)
  clear w0 ho
  go_enter Try.func10, Try.ntmps10
  go_wp2_with (first | (go_at_call 30; ((with_reducible refine (c _).mono ?_); rintro e w' ⟨rfl, hx⟩)) | (go_at_call 30; ((with_reducible refine (d _).mono ?_); rintro e w' ⟨rfl, hy⟩)) | (go_at_call 20; refine (fits_as x 9 true _ (by decide) (by decide) F.out).mono ?_; rintro e w' ⟨rfl, rfl⟩))
  go_ret
  exact ⟨rfl, by repeat (first | assumption | apply Ext.drewN | exact Ext.trans ‹_› ‹_›)⟩
theorem walkFnEncodeCB (a0 : Int) (w : World) (w0 : (Lit.int .i64 a0).wf = true) : Calls Try.prog 10 #[.int .i64 a0] w fun e w' => e = .returned (.bool true) ∧ Ext w w' := by
  have b := wf_i64 w0
  by_cases h : a0 < -256 ∨ 255 < a0
  · exact lawCB_out a0 w b h
  · by_cases ho : a0 % 2 = 1
    · exact lawCB_odd a0 w b (by omega) (by omega) ho
    · exact lawCB_in a0 w (by omega) (by omega) (by omega)
end Go.Proofs.Ytaekfekgoleolaa.Wk
