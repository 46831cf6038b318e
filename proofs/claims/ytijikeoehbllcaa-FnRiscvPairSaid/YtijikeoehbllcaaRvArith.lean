/- Plain numbers: a field of RISC-V is put into an instruction of 32 bits that keeps its other bits, and is read from it. Conditions: the number fits its field. -/
import Derived.Test.YtijikeoehbllcaaEncRd
namespace Go.Proofs.Ytijikeoehbllcaa.Wk
set_option linter.unusedVariables false
open Go.RowKit Go.Proofs.Ytijikeoehbllcaa.Aid
theorem eJ_low (x : Int) : eJ x % 4096 = 0 := by
  have h : ∀ a b c d : Int, (a * 2147483648 + b * 2097152 + c * 1048576 + d * 4096) % 4096 = 0 := by intro a b c d; omega
  exact h _ _ _ _
/-- The bits that a branch or a store keeps. -/
def kB (v : Int) : Int := v % 128 + v / 4096 % 8192 * 4096
theorem put12 (v y : Int) (h0 : 0 ≤ v) (h1 : v < 4294967296) (b0 : 0 ≤ y) (b1 : y < 4294967296) (l : y % 4096 = 0) : bits .or .i64 (bits .andNot .i64 v 4294963200) y = v % 4096 + y := by
  rw [andNot_eq, and_seg .i64 12 20 v (by decide) (by decide) (by decide), wrap_i64, w64 (by omega) (by omega)]
  rw [show v - v / 2 ^ 12 % 2 ^ 20 * 2 ^ 12 = v % 4096 by omega]
  rw [or_mid' .i64 0 12 (by omega) (by omega) (by omega) (by omega) (by decide) (by decide), wrap_i64, w64 (by omega) (by omega)]
theorem put20 (v y : Int) (h0 : 0 ≤ v) (h1 : v < 4294967296) (b0 : 0 ≤ y) (b1 : y < 4294967296) (l : y % 1048576 = 0) : bits .or .i64 (bits .andNot .i64 v 4293918720) y = v % 1048576 + y := by
  rw [andNot_eq, and_seg .i64 20 12 v (by decide) (by decide) (by decide), wrap_i64, w64 (by omega) (by omega)]
  rw [show v - v / 2 ^ 20 % 2 ^ 12 * 2 ^ 20 = v % 1048576 by omega]
  rw [or_mid' .i64 0 20 (by omega) (by omega) (by omega) (by omega) (by decide) (by decide), wrap_i64, w64 (by omega) (by omega)]
theorem kB_in (v : Int) : 0 ≤ kB v ∧ kB v < 33554432 := by unfold kB; omega
theorem keep2 (v : Int) (h0 : 0 ≤ v) (h1 : v < 4294967296) : bits .andNot .i64 v 4261416832 = kB v := by
  rw [andNot_eq, show (4261416832 : Int) = 4261412864 + 3968 from rfl, and_split .i64 25 _ (by decide) (by decide) (by decide) (by decide) (by decide),
    and_seg .i64 25 7 (m := 4261412864) _ (by decide) (by decide) (by decide), and_seg .i64 7 5 (m := 3968) _ (by decide) (by decide) (by decide), wrap_i64]
  have e : v - (v / 2 ^ 25 % 2 ^ 7 * 2 ^ 25 + v / 2 ^ 7 % 2 ^ 5 * 2 ^ 7) = kB v := by unfold kB; omega
  have b := kB_in v
  rw [e, w64 (by omega) (by omega)]
theorem put2 (v A B : Int) (h0 : 0 ≤ v) (h1 : v < 4294967296) (a0 : 0 ≤ A) (a1 : A < 128) (b0 : 0 ≤ B) (b1 : B < 32) :
    bits .or .i64 (bits .andNot .i64 v 4261416832) (A * 33554432 + B * 128) = kB v + (A * 33554432 + B * 128) := by
  have b := kB_in v
  rw [keep2 v h0 h1, or_eq, and_split .i64 25 _ (by omega) (by omega) (by omega) (by omega) (by show _ ≤ (9223372036854775807 : Int); omega),
    and_zero .i64 25 32 (by omega) (by omega) (by omega) (by omega) (by decide) (by decide), and_zero .i64 7 12 (by unfold kB; omega) (by omega) (by omega) (by omega) (by decide) (by decide), wrap_i64, w64 (by omega) (by omega)]
  omega
theorem eB_two (x : Int) : ∃ A B : Int, 0 ≤ A ∧ A < 128 ∧ 0 ≤ B ∧ B < 32 ∧ eB x = A * 33554432 + B * 128 :=
  ⟨x / 4096 % 2 * 64 + x / 32 % 64, x / 2 % 16 * 2 + x / 2048 % 2, by omega, by omega, by omega, by omega, by
    have h : ∀ s b c a : Int, s * 2147483648 + b * 33554432 + c * 256 + a * 128 = (s * 64 + b) * 33554432 + (c * 2 + a) * 128 := by intro s b c a; omega
    exact h _ _ _ _⟩
theorem putJ (v x : Int) (h0 : 0 ≤ v) (h1 : v < 4294967296) : bits .or .i64 (bits .andNot .i64 v 4294963200) (eJ x) = v % 4096 + eJ x := by
  have b := eJ_in x
  exact put12 v _ h0 h1 b.1 b.2 (eJ_low x)
theorem putB (v x : Int) (h0 : 0 ≤ v) (h1 : v < 4294967296) : bits .or .i64 (bits .andNot .i64 v 4261416832) (eB x) = kB v + eB x := by
  obtain ⟨A, B, a0, a1, b0, b1, e⟩ := eB_two x
  rw [e]; exact put2 v A B h0 h1 a0 a1 b0 b1
theorem uS (x : Int) (h1 : -2048 ≤ x) (h2 : x ≤ 2047) : eS x % 4294967296 = (x / 32 % 128) * 33554432 + (x % 32) * 128 := by unfold eS; omega
theorem uI (x : Int) (h1 : -2048 ≤ x) (h2 : x ≤ 2047) : eI x % 4294967296 = x % 4096 * 1048576 := by unfold eI; omega
theorem uU (x : Int) (h1 : -524288 ≤ x) (h2 : x ≤ 524287) : eU x % 4294967296 = x % 1048576 * 4096 := by unfold eU; omega
theorem putS (v x : Int) (h0 : 0 ≤ v) (h1 : v < 4294967296) (g1 : -2048 ≤ x) (g2 : x ≤ 2047) : bits .or .i64 (bits .andNot .i64 v 4261416832) (eS x % 4294967296) = kB v + eS x % 4294967296 := by
  rw [uS x g1 g2]; exact put2 v _ _ h0 h1 (by omega) (by omega) (by omega) (by omega)
theorem putI (v x : Int) (h0 : 0 ≤ v) (h1 : v < 4294967296) (g1 : -2048 ≤ x) (g2 : x ≤ 2047) : bits .or .i64 (bits .andNot .i64 v 4293918720) (eI x % 4294967296) = v % 1048576 + eI x % 4294967296 := by
  rw [uI x g1 g2]; exact put20 v _ h0 h1 (by omega) (by omega) (by omega)
theorem putU (v x : Int) (h0 : 0 ≤ v) (h1 : v < 4294967296) (g1 : -524288 ≤ x) (g2 : x ≤ 524287) : bits .or .i64 (bits .andNot .i64 v 4294963200) (eU x % 4294967296) = v % 4096 + eU x % 4294967296 := by
  rw [uU x g1 g2]; exact put12 v _ h0 h1 (by omega) (by omega) (by omega)
theorem eJ_room (v x : Int) : v % 4096 + eJ x < 4294967296 := by
  have h : ∀ a b c d : Int, 0 ≤ a ∧ a < 2 → 0 ≤ b ∧ b < 1024 → 0 ≤ c ∧ c < 2 → 0 ≤ d ∧ d < 256 → v % 4096 + (a * 2147483648 + b * 2097152 + c * 1048576 + d * 4096) < 4294967296 := by intro a b c d ha hb hc hd; omega
  exact h _ _ _ _ (by omega) (by omega) (by omega) (by omega)
theorem eB_room (v x : Int) : kB v + eB x < 4294967296 := by
  obtain ⟨A, B, a0, a1, b0, b1, e⟩ := eB_two x
  rw [e]; unfold kB; omega
/-! What is read back. -/
theorem rJ_low (l e : Int) (h : e % 4096 = 0) (l0 : 0 ≤ l) (l1 : l < 4096) : rJ (l + e) = rJ e := by
  obtain ⟨q, rfl⟩ : ∃ q : Int, e = 4096 * q := ⟨e / 4096, by omega⟩
  have f : ∀ k : Int, True := fun _ => trivial
  have r0 : (l + 4096 * q) / 2147483648 = 4096 * q / 2147483648 := by omega
  have r1 : (l + 4096 * q) / 4096 = 4096 * q / 4096 := by omega
  have r2 : (l + 4096 * q) / 1048576 = 4096 * q / 1048576 := by omega
  have r3 : (l + 4096 * q) / 2097152 = 4096 * q / 2097152 := by omega
  unfold rJ
  rw [r0, r1, r2, r3]
theorem backJ (v x : Int) (h1 : -1048576 ≤ x) (h2 : x ≤ 1048575) (he : x % 2 = 0) : rJ (v % 4096 + eJ x) = x := by
  rw [rJ_low _ _ (eJ_low x) (by omega) (by omega)]
  have h := rdJ x h1 h2 he
  rwa [Int.emod_eq_of_lt (eJ_in x).1 (eJ_in x).2] at h
theorem rB_low (v A B : Int) (a0 : 0 ≤ A) (a1 : A < 128) (b0 : 0 ≤ B) (b1 : B < 32) : rB (kB v + (A * 33554432 + B * 128)) = rB (A * 33554432 + B * 128) := by
  have h : ∀ l m : Int, 0 ≤ l ∧ l < 128 → 0 ≤ m ∧ m < 8192 → rB (l + m * 4096 + (A * 33554432 + B * 128)) = rB (A * 33554432 + B * 128) := by
    intro l m hl hm
    have r0 : (l + m * 4096 + (A * 33554432 + B * 128)) / 2147483648 = (A * 33554432 + B * 128) / 2147483648 := by omega
    have r1 : (l + m * 4096 + (A * 33554432 + B * 128)) / 128 % 2 = (A * 33554432 + B * 128) / 128 % 2 := by omega
    have r2 : (l + m * 4096 + (A * 33554432 + B * 128)) / 33554432 = (A * 33554432 + B * 128) / 33554432 := by omega
    have r3 : (l + m * 4096 + (A * 33554432 + B * 128)) / 256 % 16 = (A * 33554432 + B * 128) / 256 % 16 := by omega
    unfold rB
    rw [r0, r1, r2, r3]
  exact h _ _ (by omega) (by omega)
theorem backB (v x : Int) (h1 : -4096 ≤ x) (h2 : x ≤ 4095) (he : x % 2 = 0) : rB (kB v + eB x) = x := by
  obtain ⟨A, B, a0, a1, b0, b1, e⟩ := eB_two x
  have h := rdB x h1 h2 he
  rw [Int.emod_eq_of_lt (eB_in x).1 (eB_in x).2] at h
  rw [e] at h ⊢
  rw [rB_low v A B a0 a1 b0 b1, h]
theorem rS_low (v A B : Int) (a0 : 0 ≤ A) (a1 : A < 128) (b0 : 0 ≤ B) (b1 : B < 32) : rS (kB v + (A * 33554432 + B * 128)) = rS (A * 33554432 + B * 128) := by
  have h : ∀ l m : Int, 0 ≤ l ∧ l < 128 → 0 ≤ m ∧ m < 8192 → rS (l + m * 4096 + (A * 33554432 + B * 128)) = rS (A * 33554432 + B * 128) := by
    intro l m hl hm
    have r0 : (l + m * 4096 + (A * 33554432 + B * 128)) / 33554432 = (A * 33554432 + B * 128) / 33554432 := by omega
    have r1 : (l + m * 4096 + (A * 33554432 + B * 128)) / 128 % 32 = (A * 33554432 + B * 128) / 128 % 32 := by omega
    unfold rS
    rw [r0, r1]
  exact h _ _ (by omega) (by omega)
theorem backS (v x : Int) (h1 : -2048 ≤ x) (h2 : x ≤ 2047) : rS (kB v + eS x % 4294967296) = x := by
  have h := rdS x h1 h2
  rw [uS x h1 h2] at h ⊢
  rw [rS_low _ _ _ (by omega) (by omega) (by omega) (by omega), h]
theorem backI (v x : Int) (h1 : -2048 ≤ x) (h2 : x ≤ 2047) : rI (v % 1048576 + eI x % 4294967296) = x := by
  rw [uI x h1 h2]; simp only [rI, sx]; omega
theorem backU (v x : Int) (h1 : -524288 ≤ x) (h2 : x ≤ 524287) : rU (v % 4096 + eU x % 4294967296) = x := by
  rw [uU x h1 h2]; simp only [rU, sx]; omega
/-! What stays. -/
theorem stay12 (v y : Int) (l : y % 4096 = 0) : (bits .and .u32 (v % 4096 + y) 4095 == bits .and .u32 v 4095) = true := by
  rw [segu 12 _ _ (by decide) (by decide), segu 12 _ _ (by decide) (by decide), beq_iff_eq]; omega
theorem stay20 (v y : Int) (l : y % 1048576 = 0) : (bits .and .u32 (v % 1048576 + y) 1048575 == bits .and .u32 v 1048575) = true := by
  rw [segu 20 _ _ (by decide) (by decide), segu 20 _ _ (by decide) (by decide), beq_iff_eq]; omega
theorem mask2 (v : Int) : bits .and .u32 v 33550463 = v / 4096 % 8192 * 4096 + v % 128 := by
  rw [show (33550463 : Int) = 33550336 + 127 from rfl, and_split .u32 7 _ (by decide) (by decide) (by decide) (by decide) (by decide), segu 7 _ 127 (by decide) (by decide), and_seg .u32 12 13 (m := 33550336) _ (by decide) (by decide) (by decide)]
  omega
theorem stay2 (v A B : Int) (a0 : 0 ≤ A) (a1 : A < 128) (b0 : 0 ≤ B) (b1 : B < 32) : (bits .and .u32 (kB v + (A * 33554432 + B * 128)) 33550463 == bits .and .u32 v 33550463) = true := by
  have h : ∀ l m : Int, 0 ≤ l ∧ l < 128 → 0 ≤ m ∧ m < 8192 → (l + m * 4096 + (A * 33554432 + B * 128)) / 4096 % 8192 * 4096 + (l + m * 4096 + (A * 33554432 + B * 128)) % 128 = m * 4096 + l := by
    intro l m hl hm; omega
  rw [beq_iff_eq, mask2, mask2]
  exact h _ _ (by omega) (by omega)
theorem stayB (v x : Int) : (bits .and .u32 (kB v + eB x) 33550463 == bits .and .u32 v 33550463) = true := by
  obtain ⟨A, B, a0, a1, b0, b1, e⟩ := eB_two x
  rw [e]; exact stay2 v A B a0 a1 b0 b1
theorem stayS (v x : Int) (h1 : -2048 ≤ x) (h2 : x ≤ 2047) : (bits .and .u32 (kB v + eS x % 4294967296) 33550463 == bits .and .u32 v 33550463) = true := by
  rw [uS x h1 h2]; exact stay2 v _ _ (by omega) (by omega) (by omega) (by omega)
end Go.Proofs.Ytijikeoehbllcaa.Wk
