/- Contracts of the reference's Sext, Fits and Bits: the lowest n bits with their sign (n from 1 to 64), whether a number has so many, and n bits of a number of 32 bits from bit a on. -/
import Derived.Test.YtcchhdjpmnhfmaaRows
import Derived.Test.YtcchhdjpmnhfmaaAid
import Derived.Test.YtcchhdjpmnhfmaaWorld
namespace Go.Proofs.Ytcchhdjpmnhfmaa.Wk
open Go.RowKit Go.Proofs.Ytcchhdjpmnhfmaa.Aid
theorem sext (x n : Int) (w : World) (h1 : 1 ≤ n) (h2 : n ≤ 64) : Calls Try.prog 31 #[.int .i64 x, .int .i64 n] w fun e w' => e = .returned (.int .i64 (sx n.toNat x)) ∧ w = w' := by
  obtain ⟨n, rfl⟩ := Int.eq_ofNat_of_zero_le (show 0 ≤ n by omega)
  have H : wrap64 (x * 2 ^ (64 - n)) / 2 ^ (64 - n) = sx n x := by
    have := sx_eq (64 - n) (n - 1) x (by omega)
    rwa [show n - 1 + 1 = n by omega] at this
  have H2 := Lib.hid H
  clear H
  go_enter Try.func31, Try.ntmps31
  go_wp2
  go_ret
  exact ⟨ret_int (a := wrap64 (x * 2 ^ (64 - n)) / 2 ^ (64 - n)) (b := sx n x) H2.out, rfl⟩
/-- The same, the answer named. -/
theorem sext_as (x n r : Int) (w : World) (h1 : 1 ≤ n) (h2 : n ≤ 64) (hr : sx n.toNat x = r) : Calls Try.prog 31 #[.int .i64 x, .int .i64 n] w fun e w' => e = .returned (.int .i64 r) ∧ w = w' := by
  subst hr; exact sext x n w h1 h2
theorem fits_as (x n : Int) (b : Bool) (w : World) (h1 : 1 ≤ n) (h2 : n ≤ 64) (hb : (sx n.toNat x == x) = b) : Calls Try.prog 15 #[.int .i64 x, .int .i64 n] w fun e w' => e = .returned (.bool b) ∧ w = w' := by
  have c := sext x n w h1 h2
  subst hb
  go_enter Try.func15, Try.ntmps15
  go_wp2_with (go_at_call 31; refine c.mono ?_; rintro e w' ⟨rfl, rfl⟩)
  go_ret
  exact ⟨rfl, rfl⟩
theorem field_eq (a n : Nat) (x : Int) (h0 : 0 ≤ x) (h1 : x < 4294967296) (h2 : a ≤ 32) (h3 : n ≤ 32) : bits .and .i64 (wrap64 (x / 2 ^ a)) (wrap64 (wrap64 (2 ^ n) - 1)) = x / 2 ^ a % 2 ^ n := by
  obtain ⟨_, _, h⟩ := bits_body a n a n x rfl rfl h0 h1 h2 (by omega)
  have e1 : min ((a : Int)).toNat IntKind.u32.bits = a := by simp only [IntKind.bits, Int.toNat_natCast]; omega
  have e2 : min ((n : Int)).toNat IntKind.i64.bits = n := by simp only [IntKind.bits, Int.toNat_natCast]; omega
  rwa [e1, e2, Int.one_mul, wrap_i64] at h
theorem field (x a n : Int) (w : World) (h0 : 0 ≤ x) (h1 : x < 4294967296) (ha0 : 0 ≤ a) (ha1 : a ≤ 32) (hn0 : 0 ≤ n) (hn1 : n ≤ 32) : Calls Try.prog 32 #[.int .u32 x, .int .i64 a, .int .i64 n] w fun e w' => e = .returned (.int .i64 (x / 2 ^ a.toNat % 2 ^ n.toNat)) ∧ ∃ nq, w' = w.drewN nq := by
  obtain ⟨a, rfl⟩ := Int.eq_ofNat_of_zero_le ha0
  obtain ⟨n, rfl⟩ := Int.eq_ofNat_of_zero_le hn0
  have H := Lib.hid (field_eq a n x h0 h1 (by omega) (by omega))
  go_enter Try.func32, Try.ntmps32
  go_wp2
  go_quiet (fail)
  go_wp2
  go_ret
  exact ⟨ret_int H.out, _, rfl⟩
/-- The same, the answer named. -/
theorem field_as (x a n r : Int) (w : World) (h0 : 0 ≤ x) (h1 : x < 4294967296) (ha0 : 0 ≤ a) (ha1 : a ≤ 32) (hn0 : 0 ≤ n) (hn1 : n ≤ 32) (hr : x / 2 ^ a.toNat % 2 ^ n.toNat = r) : Calls Try.prog 32 #[.int .u32 x, .int .i64 a, .int .i64 n] w fun e w' => e = .returned (.int .i64 r) ∧ ∃ nq, w' = w.drewN nq := by
  subst hr; exact field x a n w h0 h1 ha0 ha1 hn0 hn1
/-- The same three inside a region that draws its order. -/
theorem sext_q (x n r : Int) (w : World) (k : Nat) (h1 : 1 ≤ n) (h2 : n ≤ 64) (hr : sx n.toNat x = r) : Calls Try.prog 31 #[.int .i64 x, .int .i64 n] (w.drewN k) fun e w' => e = .returned (.int .i64 r) ∧ ∃ m, w' = w.drewN m :=
  (sext_as x n r (w.drewN k) h1 h2 hr).mono fun _ _ ⟨h, e⟩ => ⟨h, k, e.symm⟩
theorem fits_q (x n : Int) (b : Bool) (w : World) (k : Nat) (h1 : 1 ≤ n) (h2 : n ≤ 64) (hb : (sx n.toNat x == x) = b) : Calls Try.prog 15 #[.int .i64 x, .int .i64 n] (w.drewN k) fun e w' => e = .returned (.bool b) ∧ ∃ m, w' = w.drewN m :=
  (fits_as x n b (w.drewN k) h1 h2 hb).mono fun _ _ ⟨h, e⟩ => ⟨h, k, e.symm⟩
theorem field_q (x a n r : Int) (w : World) (k : Nat) (h0 : 0 ≤ x) (h1 : x < 4294967296) (ha0 : 0 ≤ a) (ha1 : a ≤ 32) (hn0 : 0 ≤ n) (hn1 : n ≤ 32) (hr : x / 2 ^ a.toNat % 2 ^ n.toNat = r) : Calls Try.prog 32 #[.int .u32 x, .int .i64 a, .int .i64 n] (w.drewN k) fun e w' => e = .returned (.int .i64 r) ∧ ∃ m, w' = w.drewN m :=
  Calls.quiet_of (field_as x a n r (w.drewN k) h0 h1 ha0 ha1 hn0 hn1 hr)
end Go.Proofs.Ytcchhdjpmnhfmaa.Wk
