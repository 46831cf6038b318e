/- The law FnMipsCall returns true: a call of MIPS goes to the symbol, in the same 2^28 bytes as the instruction behind it: for addresses of 32 bits that the statement makes multiples of 4 and that lie so (the statement's own guard). -/
import Derived.Test.YtijikeoehbllcaaEnc
import Derived.OwnWalk
namespace Go.Proofs.Ytijikeoehbllcaa.Wk
set_option linter.unusedVariables false
open Go.RowKit Go.Proofs.Ytijikeoehbllcaa.Aid
set_option maxHeartbeats 800000 in
theorem apply26 (rt v t r : Int) (w : World) (hrt : rt = 28 ∨ rt = 32) (v0 : 0 ≤ v) (v1 : v < 4294967296) (t0 : 0 ≤ t) (t1 : t < 4294967296)
    (hr : bits .or .u32 (bits .and .u32 v 4227858432) (bits .andNot .u32 (t / 4) 4227858432) = r) (r0 : 0 ≤ r) (r1 : r < 4294967296) :
    Calls Try.prog 48 #[.int .i64 rt, .int .i64 v, .int .i64 t] w fun e w' => e = .returned (.int .i64 r) ∧ w = w' := by
  rcases hrt with rfl | rfl
  all_goals
    go_enter Try.func48, Try.ntmps48
    go_wp2
    go_ret
    exact ⟨rfl, rfl⟩
set_option maxHeartbeats 800000 in
theorem mips_in (rt v S P r : Int) (w : World) (hrt : rt = 28 ∨ rt = 32) (v0 : 0 ≤ v) (v1 : v < 4294967296) (t0 : 0 ≤ S) (t1 : S < 4294967296) (p0 : 0 ≤ P) (p1 : P < 4294967296)
    (X1 : (bits .and .i64 S 3 != 0) = false) (X2 : (bits .and .i64 (P + 4) 4026531840 != bits .and .i64 S 4026531840) = false)
    (hr : bits .or .u32 (bits .and .u32 v 4227858432) (bits .andNot .u32 (S / 4) 4227858432) = r) (r0 : 0 ≤ r) (r1 : r < 4294967296) :
    Calls Try.prog 34 #[.int .i64 rt, .int .i64 S, .int .i64 0, .int .i64 P, .int .i64 v] w fun e w' => e = .returned (.tuple #[.int .i64 r, .int .i64 0, .bool true]) ∧ w = w' := by
  have c := fun W => apply26 rt v S r W hrt v0 v1 t0 t1 hr r0 r1
  clear hr
  rcases hrt with rfl | rfl
  all_goals
    go_enter Try.func34, Try.ntmps34
    go_wp2_with (go_at_call 48; ((with_reducible refine (c _).mono ?_); rintro e w' ⟨rfl, rfl⟩))
    go_ret3
    exact ⟨rfl, rfl⟩
theorem imp_mips (rt v S P r : Int) (w : World) (c : Calls Try.prog 34 #[.int .i64 rt, .int .i64 S, .int .i64 0, .int .i64 P, .int .i64 v] w fun e w' => e = .returned (.tuple #[.int .i64 r, .int .i64 0, .bool true]) ∧ w = w') :
    Calls Try.prog 25 #[.int .i64 rt, .int .i64 S, .int .i64 0, .int .i64 P, .int .i64 v] w fun e w' => e = .returned (.tuple #[.int .i64 r, .int .i64 0, .bool true]) ∧ w = w' := by
  go_enter Try.func25, Try.ntmps25
  go_wp2_with (go_at_call 34; ((with_reducible refine c.mono ?_); rintro e w' ⟨rfl, rfl⟩))
  go_ret3
  exact ⟨rfl, rfl⟩
theorem cut2 (x : Int) (h0 : 0 ≤ x) (h1 : x ≤ 4294967295) : bits .andNot .u32 x 3 = x / 4 * 4 := by
  rw [andNot_eq, segu 2 x 3 (by decide) (by decide), wrap_u32]; omega
theorem top4 (x : Int) : bits .and .i64 x 4026531840 = x / 268435456 % 16 * 268435456 := by
  rw [and_seg .i64 28 4 (m := 4026531840) _ (by decide) (by decide) (by decide)]; rfl
theorem top4u (x : Int) : bits .and .u32 x 4026531840 = x / 268435456 % 16 * 268435456 := by
  rw [and_seg .u32 28 4 (m := 4026531840) _ (by decide) (by decide) (by decide)]; rfl
theorem put26 (q t : Int) (q0 : 0 ≤ q) (q1 : q < 64) (t0 : 0 ≤ t) (t1 : t < 4294967296) : bits .or .u32 (bits .and .u32 (q * 67108864) 4227858432) (bits .andNot .u32 (t / 4) 4227858432) = q * 67108864 + t / 4 % 67108864 := by
  rw [andNot_eq, and_seg .u32 26 6 (m := 4227858432) _ (by decide) (by decide) (by decide), and_seg .u32 26 6 (m := 4227858432) _ (by decide) (by decide) (by decide), wrap_u32]
  rw [show q * 67108864 / 2 ^ 26 % 2 ^ 6 * 2 ^ 26 = q * 67108864 by omega, show (t / 4 - t / 4 / 2 ^ 26 % 2 ^ 6 * 2 ^ 26) % 4294967296 = t / 4 % 67108864 by omega]
  exact joinu 26 (by omega) (by omega) (by omega) (by decide) (by omega) (by omega)
set_option maxHeartbeats 1600000 in
theorem lawMips_in (j : Bool) (sym pc op S P q v r : Int) (w : World) (o0 : 0 ≤ op) (o1 : op ≤ 255) (hS : bits .andNot .u32 sym 3 = S) (hP : bits .andNot .u32 pc 3 = P)
    (t0 : 0 ≤ S) (t1 : S ≤ 4294967292) (p0 : 0 ≤ P) (p1 : P ≤ 4294967292) (X0 : ((P + 4) % 4294967296 / 268435456 != S / 268435456) = false) (hq : op % 64 = q) (q0 : 0 ≤ q) (q1 : q < 64) (hv : q * 67108864 = v) (v0 : 0 ≤ v) (v1 : v < 4294967296)
    (r0 : 0 ≤ r) (r1 : r < 4294967296) (c : ∀ rt, rt = 28 ∨ rt = 32 → ∀ W : World, Calls Try.prog 25 #[.int .i64 rt, .int .i64 S, .int .i64 0, .int .i64 P, .int .i64 v] W fun e w' => e = .returned (.tuple #[.int .i64 r, .int .i64 0, .bool true]) ∧ W = w')
    (X1 : (bits .or .u32 (bits .and .u32 ((P + 4) % 4294967296) 4026531840) (bits .and .u32 r 67108863 * 4) == S) = true) (b0 : 0 ≤ bits .and .u32 r 67108863) (b1 : bits .and .u32 r 67108863 ≤ 67108863)
    (X2 : (bits .andNot .i64 r 67108863 == v) = true) :
    Calls Try.prog 9 #[.bool j, .int .u32 sym, .int .u32 pc, .int .u8 op] w fun e w' => e = .returned (.bool true) ∧ Ext w w' := by
  cases j
  all_goals
    first
    | have d := c 28 (.inl rfl)
    | skip
    have f := c 32 (.inr rfl)
    clear c
    go_enter Try.func9, Try.ntmps9
    go_wp2_with (first | (go_at_call 25; ((with_reducible refine (d _).mono ?_); rintro e w' ⟨rfl, rfl⟩)) | (go_at_call 25; ((with_reducible refine (f _).mono ?_); rintro e w' ⟨rfl, rfl⟩)))
    go_ret
    exact ⟨rfl, Ext.refl _⟩
theorem lawMips_out (j : Bool) (sym pc op S P : Int) (w : World) (hS : bits .andNot .u32 sym 3 = S) (hP : bits .andNot .u32 pc 3 = P)
    (t0 : 0 ≤ S) (t1 : S ≤ 4294967292) (p0 : 0 ≤ P) (p1 : P ≤ 4294967292) (X0 : ((P + 4) % 4294967296 / 268435456 != S / 268435456) = true) :
    Calls Try.prog 9 #[.bool j, .int .u32 sym, .int .u32 pc, .int .u8 op] w fun e w' => e = .returned (.bool true) ∧ Ext w w' := by
  go_enter Try.func9, Try.ntmps9
  go_wp2
  go_ret
  exact ⟨rfl, Ext.refl _⟩
theorem walkFnMipsCall (a0 : Bool) (a1 a2 a3 : Int) (w : World) (w1 : (Lit.int .u32 a1).wf = true) (w2 : (Lit.int .u32 a2).wf = true) (w3 : (Lit.int .u8 a3).wf = true) :
    Calls Try.prog 9 #[.bool a0, .int .u32 a1, .int .u32 a2, .int .u8 a3] w fun e w' => e = .returned (.bool true) ∧ Ext w w' := by
  have b1 := wf_u32 w1
  have b2 := wf_u32 w2
  have b3 := wf_u8 w3
  have hS := cut2 a1 b1.1 b1.2
  have hP := cut2 a2 b2.1 b2.2
  by_cases h : (a2 / 4 * 4 + 4) % 4294967296 / 268435456 = a1 / 4 * 4 / 268435456
  · refine lawMips_in a0 a1 a2 a3 _ _ (a3 % 64) (a3 % 64 * 67108864) (a3 % 64 * 67108864 + a1 / 4 * 4 / 4 % 67108864) w b3.1 b3.2 hS hP (by omega) (by omega) (by omega) (by omega) (by rw [bne_eq_false_iff_eq]; exact h) rfl (by omega) (by omega) rfl (by omega) (by omega) (by omega) (by omega) ?_ ?_ ?_ ?_ ?_
    · intro rt hrt W
      refine imp_mips _ _ _ _ _ _ (mips_in rt _ _ _ _ W hrt (by omega) (by omega) (by omega) (by omega) (by omega) (by omega) ?_ ?_ (put26 (a3 % 64) _ (by omega) (by omega) (by omega) (by omega)) (by omega) (by omega))
      · rw [and_seg .i64 0 2 (m := 3) _ (by decide) (by decide) (by decide), bne_eq_false_iff_eq]; omega
      · rw [top4, top4, bne_eq_false_iff_eq]; omega
    · rw [segu 26 _ 67108863 (by decide) (by decide), top4u, joinu 28 (by omega) (by omega) (by omega) (by decide) (by omega) (by omega), beq_iff_eq]
      omega
    · rw [segu 26 _ 67108863 (by decide) (by decide)]; omega
    · rw [segu 26 _ 67108863 (by decide) (by decide)]; omega
    · rw [andNot_eq, and_seg .i64 0 26 (m := 67108863) _ (by decide) (by decide) (by decide), wrap_i64, w64 (by omega) (by omega), beq_iff_eq]; omega
  · exact lawMips_out a0 a1 a2 a3 _ _ w hS hP (by omega) (by omega) (by omega) (by omega) (by rw [bne_iff_ne]; exact h)
end Go.Proofs.Ytijikeoehbllcaa.Wk
