/- The law FnMipsHalves returns true: the high half, adjusted, and the low half, with its sign, are together the symbol with the addend, modulo 2^32, in both kinds of MIPS: for addresses of 31 bits (the statement's own guard) and every two instructions. -/
import Derived.Test.YtijikeoehbllcaaEnc
import Derived.OwnWalk
namespace Go.Proofs.Ytijikeoehbllcaa.Wk
set_option linter.unusedVariables false
open Go.RowKit Go.Proofs.Ytijikeoehbllcaa.Aid
theorem half_as (x r : Int) (w : World) (h0 : 0 ≤ x) (h1 : x < 4294967296) (hr : sx 16 x = r) : Calls Try.prog 28 #[.int .u32 x] w fun e w' => e = .returned (.int .i64 r) ∧ w = w' := by
  have c := sext_as x 16 r w (by decide) (by decide) hr
  go_enter Try.func28, Try.ntmps28
  go_wp2_with (go_at_call 23; ((with_reducible refine c.mono ?_); rintro e w' ⟨rfl, rfl⟩))
  go_ret
  exact ⟨rfl, rfl⟩
theorem half_q (x r : Int) (w : World) (k : Nat) (h0 : 0 ≤ x) (h1 : x < 4294967296) (hr : sx 16 x = r) : Calls Try.prog 28 #[.int .u32 x] (w.drewN k) fun e w' => e = .returned (.int .i64 r) ∧ ∃ m, w' = w.drewN m :=
  (half_as x r (w.drewN k) h0 h1 hr).mono fun _ _ ⟨h, e⟩ => ⟨h, k, e.symm⟩
theorem applyU (v t r : Int) (w : World) (v0 : 0 ≤ v) (v1 : v < 4294967296) (t0 : 0 ≤ t) (t1 : t < 2147483648)
    (hr : bits .or .u32 (bits .and .u32 v 4294901760) (bits .and .u32 ((t + 32768) / 65536) 65535) = r) (r0 : 0 ≤ r) (r1 : r < 4294967296) :
    Calls Try.prog 48 #[.int .i64 4, .int .i64 v, .int .i64 t] w fun e w' => e = .returned (.int .i64 r) ∧ w = w' := by
  go_enter Try.func48, Try.ntmps48
  go_wp2
  go_ret
  exact ⟨rfl, rfl⟩
theorem applyL (v t r : Int) (w : World) (v0 : 0 ≤ v) (v1 : v < 4294967296) (t0 : 0 ≤ t) (t1 : t < 2147483648)
    (hr : bits .or .u32 (bits .and .u32 v 4294901760) (bits .and .u32 t 65535) = r) (r0 : 0 ≤ r) (r1 : r < 4294967296) :
    Calls Try.prog 48 #[.int .i64 2, .int .i64 v, .int .i64 t] w fun e w' => e = .returned (.int .i64 r) ∧ w = w' := by
  go_enter Try.func48, Try.ntmps48
  go_wp2
  go_ret
  exact ⟨rfl, rfl⟩
theorem mips32 (rt s n v r : Int) (w : World) (hrt : rt = 2 ∨ rt = 4) (s0 : 0 ≤ s) (s1 : s < 2147483648) (n0 : 0 ≤ n) (n1 : n ≤ 65535) (c : Calls Try.prog 48 #[.int .i64 rt, .int .i64 v, .int .i64 (s + n)] w fun e w' => e = .returned (.int .i64 r) ∧ w = w') :
    Calls Try.prog 25 #[.int .i64 rt, .int .i64 s, .int .i64 n, .int .i64 0, .int .i64 v] w fun e w' => e = .returned (.tuple #[.int .i64 r, .int .i64 0, .bool true]) ∧ w = w' := by
  have d : Calls Try.prog 34 #[.int .i64 rt, .int .i64 s, .int .i64 n, .int .i64 0, .int .i64 v] w fun e w' => e = .returned (.tuple #[.int .i64 r, .int .i64 0, .bool true]) ∧ w = w' := by
    rcases hrt with rfl | rfl
    all_goals
      go_enter Try.func34, Try.ntmps34
      go_wp2_with (go_at_call 48; ((with_reducible refine c.mono ?_); rintro e w' ⟨rfl, rfl⟩))
      go_ret3
      exact ⟨rfl, rfl⟩
  go_enter Try.func25, Try.ntmps25
  go_wp2_with (go_at_call 34; ((with_reducible refine d.mono ?_); rintro e w' ⟨rfl, rfl⟩))
  go_ret3
  exact ⟨rfl, rfl⟩
theorem mips64U (s n v r : Int) (w : World) (s0 : 0 ≤ s) (s1 : s < 2147483648) (n0 : 0 ≤ n) (n1 : n ≤ 65535)
    (hr : bits .or .i64 (bits .and .i64 v 4294901760) (bits .and .i64 ((s + n + 32768) / 65536) 65535) = r) :
    Calls Try.prog 27 #[.int .i64 4, .int .i64 s, .int .i64 n, .int .i64 v] w fun e w' => e = .returned (.tuple #[.int .i64 r, .int .i64 0, .bool true]) ∧ w = w' := by
  have d : Calls Try.prog 35 #[.int .i64 4, .int .i64 s, .int .i64 n, .int .i64 v] w fun e w' => e = .returned (.tuple #[.int .i64 r, .int .i64 0, .bool true]) ∧ w = w' := by
    go_enter Try.func35, Try.ntmps35
    go_wp2
    go_ret3
    exact ⟨rfl, rfl⟩
  clear hr
  go_enter Try.func27, Try.ntmps27
  go_wp2_with (go_at_call 35; ((with_reducible refine d.mono ?_); rintro e w' ⟨rfl, rfl⟩))
  go_ret3
  exact ⟨rfl, rfl⟩
theorem mips64L (s n v r : Int) (w : World) (s0 : 0 ≤ s) (s1 : s < 2147483648) (n0 : 0 ≤ n) (n1 : n ≤ 65535)
    (hr : bits .or .i64 (bits .and .i64 v 4294901760) (bits .and .i64 (s + n) 65535) = r) :
    Calls Try.prog 27 #[.int .i64 2, .int .i64 s, .int .i64 n, .int .i64 v] w fun e w' => e = .returned (.tuple #[.int .i64 r, .int .i64 0, .bool true]) ∧ w = w' := by
  have d : Calls Try.prog 35 #[.int .i64 2, .int .i64 s, .int .i64 n, .int .i64 v] w fun e w' => e = .returned (.tuple #[.int .i64 r, .int .i64 0, .bool true]) ∧ w = w' := by
    go_enter Try.func35, Try.ntmps35
    go_wp2
    go_ret3
    exact ⟨rfl, rfl⟩
  clear hr
  go_enter Try.func27, Try.ntmps27
  go_wp2_with (go_at_call 35; ((with_reducible refine d.mono ?_); rintro e w' ⟨rfl, rfl⟩))
  go_ret3
  exact ⟨rfl, rfl⟩
/-- The closure: it asks the kind that was captured, and hands on. -/
theorem by_wide (rt s n v r : Int) (p q u : Addr) (W : World) (hp : W.cell? p = some (.bool true)) (hq : W.cell? q = some (.int .i64 s)) (hu : W.cell? u = some (.int .i64 n))
    (c : Calls Try.prog 27 #[.int .i64 rt, .int .i64 s, .int .i64 n, .int .i64 v] W fun e w' => e = .returned (.tuple #[.int .i64 r, .int .i64 0, .bool true]) ∧ W = w') :
    Calls Try.prog 26 #[.int .i64 rt, .int .i64 v, .pointer (some p), .pointer (some q), .pointer (some u)] W fun e w' => e = .returned (.tuple #[.int .i64 r, .int .i64 0, .bool true]) ∧ W = w' := by
  go_enter Try.func26, Try.ntmps26
  go_wp2_with (go_at_call 27; ((with_reducible refine c.mono ?_); rintro e w' ⟨rfl, rfl⟩))
  go_ret3
  exact ⟨rfl, rfl⟩
theorem by_plain (rt s n v r : Int) (p q u : Addr) (W : World) (hp : W.cell? p = some (.bool false)) (hq : W.cell? q = some (.int .i64 s)) (hu : W.cell? u = some (.int .i64 n))
    (c : Calls Try.prog 25 #[.int .i64 rt, .int .i64 s, .int .i64 n, .int .i64 0, .int .i64 v] W fun e w' => e = .returned (.tuple #[.int .i64 r, .int .i64 0, .bool true]) ∧ W = w') :
    Calls Try.prog 26 #[.int .i64 rt, .int .i64 v, .pointer (some p), .pointer (some q), .pointer (some u)] W fun e w' => e = .returned (.tuple #[.int .i64 r, .int .i64 0, .bool true]) ∧ W = w' := by
  go_enter Try.func26, Try.ntmps26
  go_wp2_with (go_at_call 25; ((with_reducible refine c.mono ?_); rintro e w' ⟨rfl, rfl⟩))
  go_ret3
  exact ⟨rfl, rfl⟩
set_option maxHeartbeats 800000 in
theorem law_in (j : Bool) (sym add a b H L hl : Int) (w : World) (s0 : 0 ≤ sym) (s1 : sym ≤ 4294967295) (n0 : 0 ≤ add) (n1 : add ≤ 65535) (a0 : 0 ≤ a) (a1 : a ≤ 65535) (b0 : 0 ≤ b) (b1 : b ≤ 65535)
    (ht : sym / 2 + add < 2147483648)
    (c : ∀ (p q u : Addr) (W : World), W.cell? p = some (.bool j) → W.cell? q = some (.int .i64 (sym / 2)) → W.cell? u = some (.int .i64 add) → Calls Try.prog 26 #[.int .i64 4, .int .i64 (a * 65536), .pointer (some p), .pointer (some q), .pointer (some u)] W fun e w' => e = .returned (.tuple #[.int .i64 H, .int .i64 0, .bool true]) ∧ W = w')
    (d : ∀ (p q u : Addr) (W : World), W.cell? p = some (.bool j) → W.cell? q = some (.int .i64 (sym / 2)) → W.cell? u = some (.int .i64 add) → Calls Try.prog 26 #[.int .i64 2, .int .i64 (b * 65536), .pointer (some p), .pointer (some q), .pointer (some u)] W fun e w' => e = .returned (.tuple #[.int .i64 L, .int .i64 0, .bool true]) ∧ W = w')
    (H0 : 0 ≤ H) (H1 : H < 4294967296) (L0 : 0 ≤ L) (L1 : L < 4294967296) (hh : sx 16 L = hl) (g0 : -32768 ≤ hl) (g1 : hl ≤ 32767)
    (X1 : ((H * 65536 + hl) % 4294967296 == sym / 2 + add) = true) (X2 : (H / 65536 == a) = true) (X3 : (L / 65536 == b) = true) :
    Calls Try.prog 10 #[.bool j, .int .u32 sym, .int .u16 add, .int .u16 a, .int .u16 b] w fun e w' => e = .returned (.bool true) ∧ Ext w w' := by
  have f := fun W k => half_q L hl W k L0 L1 hh
  have c0 := c ⟨w.heap.size, 0, none⟩ ⟨w.heap.size + 1, 0, none⟩ ⟨w.heap.size + 1 + 1, 0, none⟩
  have d0 := d ⟨w.heap.size, 0, none⟩ ⟨w.heap.size + 1, 0, none⟩ ⟨w.heap.size + 1 + 1, 0, none⟩
  clear hh c d
  go_enter Try.func10, Try.ntmps10
  go_wp2_with (first | (go_at_call 26; ((with_reducible refine (c0 _ ?_ ?_ ?_).mono ?_); any_goals (first | (rintro e w' ⟨rfl, rfl⟩) | go_simp))) | (go_at_call 26; ((with_reducible refine (d0 _ ?_ ?_ ?_).mono ?_); any_goals (first | (rintro e w' ⟨rfl, rfl⟩) | go_simp))))
  go_quiet ((go_at_call 28; exact f _ _))
  go_wp2
  go_ret
  exact ⟨rfl, by repeat (first | exact Ext.refl _ | apply Ext.drewN | apply Ext.alloc)⟩
theorem law_out (j : Bool) (sym add a b : Int) (w : World) (s0 : 0 ≤ sym) (s1 : sym ≤ 4294967295) (n0 : 0 ≤ add) (n1 : add ≤ 65535) (ht : 2147483648 ≤ sym / 2 + add) :
    Calls Try.prog 10 #[.bool j, .int .u32 sym, .int .u16 add, .int .u16 a, .int .u16 b] w fun e w' => e = .returned (.bool true) ∧ Ext w w' := by
  go_enter Try.func10, Try.ntmps10
  go_wp2
  go_ret
  exact ⟨rfl, by repeat (first | exact Ext.refl _ | apply Ext.drewN | apply Ext.alloc)⟩
theorem seg16u (x : Int) : bits .and .u32 x 65535 = x % 65536 := segu 16 _ _ (by decide) (by decide)
theorem seg16 (x : Int) : bits .and .i64 x 65535 = x % 65536 := by
  simpa using and_seg .i64 0 16 x (m := 65535) (by decide) (by decide) (by decide)
theorem keepu (a t : Int) (a0 : 0 ≤ a) (a1 : a ≤ 65535) : bits .or .u32 (bits .and .u32 (a * 65536) 4294901760) (bits .and .u32 t 65535) = a * 65536 + t % 65536 := by
  rw [seg16u, and_seg .u32 16 16 (m := 4294901760) _ (by decide) (by decide) (by decide), show a * 65536 / 2 ^ 16 % 2 ^ 16 * 2 ^ 16 = a * 65536 by omega]
  exact joinu 16 (by omega) (by omega) (by omega) (by decide) (by omega) (by omega)
theorem keep64 (a t : Int) (a0 : 0 ≤ a) (a1 : a ≤ 65535) : bits .or .i64 (bits .and .i64 (a * 65536) 4294901760) (bits .and .i64 t 65535) = a * 65536 + t % 65536 := by
  rw [seg16, and_seg .i64 16 16 (m := 4294901760) _ (by decide) (by decide) (by decide), show a * 65536 / 2 ^ 16 % 2 ^ 16 * 2 ^ 16 = a * 65536 by omega]
  rw [or_mid .i64 0 16 (by omega) (by omega) (by omega) (by omega) (by decide) (by decide), wrap_i64, w64 (by omega) (by omega)]
theorem walkFnMipsHalves (a0 : Bool) (a1 a2 a3 a4 : Int) (w : World) (w1 : (Lit.int .u32 a1).wf = true) (w2 : (Lit.int .u16 a2).wf = true) (w3 : (Lit.int .u16 a3).wf = true) (w4 : (Lit.int .u16 a4).wf = true) :
    Calls Try.prog 10 #[.bool a0, .int .u32 a1, .int .u16 a2, .int .u16 a3, .int .u16 a4] w fun e w' => e = .returned (.bool true) ∧ Ext w w' := by
  have b1 := wf_u32 w1
  have b2 := wf_u16 w2
  have b3 := wf_u16 w3
  have b4 := wf_u16 w4
  by_cases h : a1 / 2 + a2 < 2147483648
  · refine law_in a0 a1 a2 a3 a4 (a3 * 65536 + (a1 / 2 + a2 + 32768) / 65536 % 65536) (a4 * 65536 + (a1 / 2 + a2) % 65536) (sx 16 (a4 * 65536 + (a1 / 2 + a2) % 65536)) w b1.1 b1.2 b2.1 b2.2 b3.1 b3.2 b4.1 b4.2 h ?_ ?_ (by omega) (by omega) (by omega) (by omega) rfl (by simp only [sx]; omega) (by simp only [sx]; omega) ?_ ?_ ?_
    · intro p q u W hp hq hu
      cases a0 with
      | true => exact by_wide 4 _ _ _ _ p q u W hp hq hu (mips64U _ _ _ _ W (by omega) (by omega) (by omega) (by omega) (keep64 a3 _ b3.1 b3.2))
      | false => exact by_plain 4 _ _ _ _ p q u W hp hq hu (mips32 4 _ _ _ _ W (.inr rfl) (by omega) (by omega) (by omega) (by omega) (applyU _ _ _ W (by omega) (by omega) (by omega) (by omega) (keepu a3 _ b3.1 b3.2) (by omega) (by omega)))
    · intro p q u W hp hq hu
      cases a0 with
      | true => exact by_wide 2 _ _ _ _ p q u W hp hq hu (mips64L _ _ _ _ W (by omega) (by omega) (by omega) (by omega) (keep64 a4 _ b4.1 b4.2))
      | false => exact by_plain 2 _ _ _ _ p q u W hp hq hu (mips32 2 _ _ _ _ W (.inl rfl) (by omega) (by omega) (by omega) (by omega) (applyL _ _ _ W (by omega) (by omega) (by omega) (by omega) (keepu a4 _ b4.1 b4.2) (by omega) (by omega)))
    · rw [beq_iff_eq]
      have t0 : 0 ≤ a1 / 2 + a2 := by omega
      generalize a1 / 2 + a2 = t at *
      have e2 : sx 16 (a4 * 65536 + t % 65536) = t - (t + 32768) / 65536 * 65536 := by simp only [sx]; omega
      have e3 : (t + 32768) / 65536 % 65536 = (t + 32768) / 65536 := by omega
      rw [e2, e3, show (a3 * 65536 + (t + 32768) / 65536) * 65536 + (t - (t + 32768) / 65536 * 65536) = a3 * 4294967296 + t by omega]
      omega
    · rw [beq_iff_eq]; omega
    · rw [beq_iff_eq]; omega
  · exact law_out a0 a1 a2 a3 a4 w b1.1 b1.2 b2.1 b2.2 (by omega)
end Go.Proofs.Ytijikeoehbllcaa.Wk
