/- What the encoders of RISC-V put into a field is read from there (plain numbers); no other bit is set. Conditions: the number fits. -/
import Derived.Test.YtijikeoehbllcaaEncC
import Derived.Test.YtijikeoehbllcaaSpecRv
namespace Go.Proofs.Ytijikeoehbllcaa.Wk
set_option linter.unusedVariables false
open Go.RowKit Go.Proofs.Ytijikeoehbllcaa.Aid
theorem rdI (x : Int) (h1 : -2048 ≤ x) (h2 : x ≤ 2047) : rI (eI x % 4294967296) = x := by simp only [rI, eI, sx]; omega
theorem tsI (x : Int) : bits .and .u32 (eI x % 4294967296) 1048575 = 0 := by
  rw [segu 20 _ _ (by decide) (by decide)]; simp only [eI]; omega
theorem rdS (x : Int) (h1 : -2048 ≤ x) (h2 : x ≤ 2047) : rS (eS x % 4294967296) = x := by simp only [rS, eS, sx]; omega
theorem tsS (x : Int) : bits .and .u32 (eS x % 4294967296) 33550463 = 0 := by
  rw [show (33550463 : Int) = 33550336 + 127 from rfl, and_split .u32 7 _ (by decide) (by decide) (by decide) (by decide) (by decide), segu 7 _ 127 (by decide) (by decide), and_seg .u32 12 13 (m := 33550336) _ (by decide) (by decide) (by decide)]
  simp only [eS]; omega
theorem rdU (x : Int) (h1 : -524288 ≤ x) (h2 : x ≤ 524287) : rU (eU x % 4294967296) = x := by simp only [rU, eU, sx]; omega
theorem tsU (x : Int) : bits .and .u32 (eU x % 4294967296) 4095 = 0 := by
  rw [segu 12 _ _ (by decide) (by decide)]; simp only [eU]; omega
theorem toB0 (s a b c : Int) (bs : 0 ≤ s ∧ s < 2) (ba : 0 ≤ a ∧ a < 2) (bb : 0 ≤ b ∧ b < 64) (bc : 0 ≤ c ∧ c < 16) : (-4096 * s + 2048 * a + 32 * b + 2 * c) / 4096 % 2 = s := by omega
theorem toB1 (s a b c : Int) (bs : 0 ≤ s ∧ s < 2) (ba : 0 ≤ a ∧ a < 2) (bb : 0 ≤ b ∧ b < 64) (bc : 0 ≤ c ∧ c < 16) : (-4096 * s + 2048 * a + 32 * b + 2 * c) / 32 % 64 = b := by omega
theorem toB2 (s a b c : Int) (bs : 0 ≤ s ∧ s < 2) (ba : 0 ≤ a ∧ a < 2) (bb : 0 ≤ b ∧ b < 64) (bc : 0 ≤ c ∧ c < 16) : (-4096 * s + 2048 * a + 32 * b + 2 * c) / 2 % 16 = c := by omega
theorem toB3 (s a b c : Int) (bs : 0 ≤ s ∧ s < 2) (ba : 0 ≤ a ∧ a < 2) (bb : 0 ≤ b ∧ b < 64) (bc : 0 ≤ c ∧ c < 16) : (-4096 * s + 2048 * a + 32 * b + 2 * c) / 2048 % 2 = a := by omega
theorem mdB (s a b c : Int) (bs : 0 ≤ s ∧ s < 2) (ba : 0 ≤ a ∧ a < 2) (bb : 0 ≤ b ∧ b < 64) (bc : 0 ≤ c ∧ c < 16) : (s * 2147483648 + b * 33554432 + c * 256 + a * 128) % 4294967296 = s * 2147483648 + b * 33554432 + c * 256 + a * 128 := by omega
theorem ofB0 (s a b c : Int) (bs : 0 ≤ s ∧ s < 2) (ba : 0 ≤ a ∧ a < 2) (bb : 0 ≤ b ∧ b < 64) (bc : 0 ≤ c ∧ c < 16) : (s * 2147483648 + b * 33554432 + c * 256 + a * 128) / 2147483648 % 2 = s := by omega
theorem ofB1 (s a b c : Int) (bs : 0 ≤ s ∧ s < 2) (ba : 0 ≤ a ∧ a < 2) (bb : 0 ≤ b ∧ b < 64) (bc : 0 ≤ c ∧ c < 16) : (s * 2147483648 + b * 33554432 + c * 256 + a * 128) / 128 % 2 = a := by omega
theorem ofB2 (s a b c : Int) (bs : 0 ≤ s ∧ s < 2) (ba : 0 ≤ a ∧ a < 2) (bb : 0 ≤ b ∧ b < 64) (bc : 0 ≤ c ∧ c < 16) : (s * 2147483648 + b * 33554432 + c * 256 + a * 128) / 33554432 % 64 = b := by omega
theorem ofB3 (s a b c : Int) (bs : 0 ≤ s ∧ s < 2) (ba : 0 ≤ a ∧ a < 2) (bb : 0 ≤ b ∧ b < 64) (bc : 0 ≤ c ∧ c < 16) : (s * 2147483648 + b * 33554432 + c * 256 + a * 128) / 256 % 16 = c := by omega
theorem rdB (x : Int) (h1 : -4096 ≤ x) (h2 : x ≤ 4095) (he : x % 2 = 0) : rB (eB x % 4294967296) = x := by
  obtain ⟨s, a, b, c, bs, ba, bb, bc, rfl⟩ : ∃ s a b c : Int, (0 ≤ s ∧ s < 2) ∧ (0 ≤ a ∧ a < 2) ∧ (0 ≤ b ∧ b < 64) ∧ (0 ≤ c ∧ c < 16) ∧ x = -4096 * s + 2048 * a + 32 * b + 2 * c := ⟨x / 4096 % 2, x / 2048 % 2, x / 32 % 64, x / 2 % 16, by omega, by omega, by omega, by omega, by omega⟩
  unfold eB
  rw [toB0 s a b c bs ba bb bc, toB1 s a b c bs ba bb bc, toB2 s a b c bs ba bb bc, toB3 s a b c bs ba bb bc]
  rw [mdB s a b c bs ba bb bc]
  unfold rB
  rw [ofB0 s a b c bs ba bb bc, ofB1 s a b c bs ba bb bc, ofB2 s a b c bs ba bb bc, ofB3 s a b c bs ba bb bc]
  simp only [sx]; omega
theorem tsB (x : Int) : bits .and .u32 (eB x % 4294967296) 33550463 = 0 := by
  rw [show (33550463 : Int) = 33550336 + 127 from rfl, and_split .u32 7 _ (by decide) (by decide) (by decide) (by decide) (by decide), segu 7 _ 127 (by decide) (by decide), and_seg .u32 12 13 (m := 33550336) _ (by decide) (by decide) (by decide)]
  have h : ∀ s a b c : Int, 0 ≤ s ∧ s < 2 → 0 ≤ a ∧ a < 2 → 0 ≤ b ∧ b < 64 → 0 ≤ c ∧ c < 16 → (s * 2147483648 + b * 33554432 + c * 256 + a * 128) % 4294967296 / 2 ^ 12 % 2 ^ 13 * 2 ^ 12 + (s * 2147483648 + b * 33554432 + c * 256 + a * 128) % 4294967296 % 2 ^ 7 = 0 := by
    intro s a b c hs ha hb hc; omega
  exact h _ _ _ _ (by omega) (by omega) (by omega) (by omega)
theorem shB (x : Int) : eB x / 4294967296 = 0 := by have := eB_in x; omega
theorem toJ0 (s a b c : Int) (bs : 0 ≤ s ∧ s < 2) (ba : 0 ≤ a ∧ a < 256) (bb : 0 ≤ b ∧ b < 2) (bc : 0 ≤ c ∧ c < 1024) : (-1048576 * s + 4096 * a + 2048 * b + 2 * c) / 1048576 % 2 = s := by omega
theorem toJ1 (s a b c : Int) (bs : 0 ≤ s ∧ s < 2) (ba : 0 ≤ a ∧ a < 256) (bb : 0 ≤ b ∧ b < 2) (bc : 0 ≤ c ∧ c < 1024) : (-1048576 * s + 4096 * a + 2048 * b + 2 * c) / 2 % 1024 = c := by omega
theorem toJ2 (s a b c : Int) (bs : 0 ≤ s ∧ s < 2) (ba : 0 ≤ a ∧ a < 256) (bb : 0 ≤ b ∧ b < 2) (bc : 0 ≤ c ∧ c < 1024) : (-1048576 * s + 4096 * a + 2048 * b + 2 * c) / 2048 % 2 = b := by omega
theorem toJ3 (s a b c : Int) (bs : 0 ≤ s ∧ s < 2) (ba : 0 ≤ a ∧ a < 256) (bb : 0 ≤ b ∧ b < 2) (bc : 0 ≤ c ∧ c < 1024) : (-1048576 * s + 4096 * a + 2048 * b + 2 * c) / 4096 % 256 = a := by omega
theorem mdJ (s a b c : Int) (bs : 0 ≤ s ∧ s < 2) (ba : 0 ≤ a ∧ a < 256) (bb : 0 ≤ b ∧ b < 2) (bc : 0 ≤ c ∧ c < 1024) : (s * 2147483648 + c * 2097152 + b * 1048576 + a * 4096) % 4294967296 = s * 2147483648 + c * 2097152 + b * 1048576 + a * 4096 := by omega
theorem ofJ0 (s a b c : Int) (bs : 0 ≤ s ∧ s < 2) (ba : 0 ≤ a ∧ a < 256) (bb : 0 ≤ b ∧ b < 2) (bc : 0 ≤ c ∧ c < 1024) : (s * 2147483648 + c * 2097152 + b * 1048576 + a * 4096) / 2147483648 % 2 = s := by omega
theorem ofJ1 (s a b c : Int) (bs : 0 ≤ s ∧ s < 2) (ba : 0 ≤ a ∧ a < 256) (bb : 0 ≤ b ∧ b < 2) (bc : 0 ≤ c ∧ c < 1024) : (s * 2147483648 + c * 2097152 + b * 1048576 + a * 4096) / 4096 % 256 = a := by omega
theorem ofJ2 (s a b c : Int) (bs : 0 ≤ s ∧ s < 2) (ba : 0 ≤ a ∧ a < 256) (bb : 0 ≤ b ∧ b < 2) (bc : 0 ≤ c ∧ c < 1024) : (s * 2147483648 + c * 2097152 + b * 1048576 + a * 4096) / 1048576 % 2 = b := by omega
theorem ofJ3 (s a b c : Int) (bs : 0 ≤ s ∧ s < 2) (ba : 0 ≤ a ∧ a < 256) (bb : 0 ≤ b ∧ b < 2) (bc : 0 ≤ c ∧ c < 1024) : (s * 2147483648 + c * 2097152 + b * 1048576 + a * 4096) / 2097152 % 1024 = c := by omega
theorem rdJ (x : Int) (h1 : -1048576 ≤ x) (h2 : x ≤ 1048575) (he : x % 2 = 0) : rJ (eJ x % 4294967296) = x := by
  obtain ⟨s, a, b, c, bs, ba, bb, bc, rfl⟩ : ∃ s a b c : Int, (0 ≤ s ∧ s < 2) ∧ (0 ≤ a ∧ a < 256) ∧ (0 ≤ b ∧ b < 2) ∧ (0 ≤ c ∧ c < 1024) ∧ x = -1048576 * s + 4096 * a + 2048 * b + 2 * c := ⟨x / 1048576 % 2, x / 4096 % 256, x / 2048 % 2, x / 2 % 1024, by omega, by omega, by omega, by omega, by omega⟩
  unfold eJ
  rw [toJ0 s a b c bs ba bb bc, toJ1 s a b c bs ba bb bc, toJ2 s a b c bs ba bb bc, toJ3 s a b c bs ba bb bc]
  rw [mdJ s a b c bs ba bb bc]
  unfold rJ
  rw [ofJ0 s a b c bs ba bb bc, ofJ1 s a b c bs ba bb bc, ofJ2 s a b c bs ba bb bc, ofJ3 s a b c bs ba bb bc]
  simp only [sx]; omega
theorem tsJ (x : Int) : bits .and .u32 (eJ x % 4294967296) 4095 = 0 := by
  rw [segu 12 _ _ (by decide) (by decide)]; simp only [eJ]; omega
theorem allCB : ∀ n : Fin 256, rCB (eCB (2 * (n.val : Int) - 256) % 4294967296) = 2 * (n.val : Int) - 256 := by decide +kernel
theorem rdCB (x : Int) (h1 : -256 ≤ x) (h2 : x ≤ 255) (he : x % 2 = 0) : rCB (eCB x % 4294967296) = x := by
  obtain ⟨n, hn⟩ : ∃ n : Nat, x = 2 * (n : Int) - 256 := ⟨((x + 256) / 2).toNat, by omega⟩
  have := allCB ⟨n, by omega⟩
  rw [hn]; exact this
theorem tsCB (x : Int) : bits .andNot .i64 (eCB x) 7292 = 0 := by
  have h := eCB_in x
  rw [andNot_eq, show (7292 : Int) = 7168 + 124 from rfl, and_split .i64 7 _ (by decide) (by decide) (by decide) (by decide) (by decide), and_seg .i64 10 3 (m := 7168) _ (by decide) (by decide) (by decide), and_seg .i64 2 5 (m := 124) _ (by decide) (by decide) (by decide), wrap_i64]
  have e : eCB x - (eCB x / 2 ^ 10 % 2 ^ 3 * 2 ^ 10 + eCB x / 2 ^ 2 % 2 ^ 5 * 2 ^ 2) = 0 := by have b := bCB_in x; unfold eCB; generalize bCB x = y at *; omega
  rw [e]; simp [wrap64]
theorem shCB (x : Int) : eCB x / 65536 = 0 := by have := eCB_in x; omega
theorem allCJ : ∀ n : Fin 2048, rCJ (eCJ (2 * (n.val : Int) - 2048) % 4294967296) = 2 * (n.val : Int) - 2048 := by decide +kernel
theorem rdCJ (x : Int) (h1 : -2048 ≤ x) (h2 : x ≤ 2047) (he : x % 2 = 0) : rCJ (eCJ x % 4294967296) = x := by
  obtain ⟨n, hn⟩ : ∃ n : Nat, x = 2 * (n : Int) - 2048 := ⟨((x + 2048) / 2).toNat, by omega⟩
  have := allCJ ⟨n, by omega⟩
  rw [hn]; exact this
theorem tsCJ (x : Int) : bits .andNot .i64 (eCJ x) 8188 = 0 := by
  have h := eCJ_in x
  rw [andNot_eq, and_seg .i64 2 11 _ (by decide) (by decide) (by decide), wrap_i64]
  have e : eCJ x - eCJ x / 2 ^ 2 % 2 ^ 11 * 2 ^ 2 = 0 := by have b := bCJ_in x; unfold eCJ; generalize bCJ x = y at *; omega
  rw [e]; simp [wrap64]
theorem shCJ (x : Int) : eCJ x / 65536 = 0 := by have := eCJ_in x; omega
end Go.Proofs.Ytijikeoehbllcaa.Wk
