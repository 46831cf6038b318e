/- Lemmas on whole numbers: the words of bits, wraps and shifts told as division and remainder. Conditions: as each lemma names them. -/
import Derived.Laws.BitsAllLaws
import Derived.RowKit
import Derived.WalkKit
namespace Go.Proofs.Ytcfeljdbjhamiaa.Aid
open Go.RowKit

/-! ### wraps -/
theorem wrap_i64 (x : Int) : IntKind.i64.wrap x = wrap64 x := by
  by_cases h : x % 18446744073709551616 ≥ 9223372036854775808
  · simp only [IntKind.wrap, IntKind.bits, IntKind.signed, wrap64, Bool.true_and]
    rw [if_pos (by simpa using h)]; omega
  · simp only [IntKind.wrap, IntKind.bits, IntKind.signed, wrap64, Bool.true_and]
    rw [if_neg (by simpa using h)]; omega
theorem wrap_i32 (x : Int) : IntKind.i32.wrap x = wrap32 x := by
  by_cases h : x % 4294967296 ≥ 2147483648
  · simp only [IntKind.wrap, IntKind.bits, IntKind.signed, wrap32, Bool.true_and]
    rw [if_pos (by simpa using h)]; omega
  · simp only [IntKind.wrap, IntKind.bits, IntKind.signed, wrap32, Bool.true_and]
    rw [if_neg (by simpa using h)]; omega
theorem wrap_i16 (x : Int) : IntKind.i16.wrap x = (x + 32768) % 65536 - 32768 := by
  by_cases h : x % 65536 ≥ 32768
  · simp only [IntKind.wrap, IntKind.bits, IntKind.signed, Bool.true_and]
    rw [if_pos (by simpa using h)]; omega
  · simp only [IntKind.wrap, IntKind.bits, IntKind.signed, Bool.true_and]
    rw [if_neg (by simpa using h)]; omega
theorem wrap_u64 (x : Int) : IntKind.u64.wrap x = x % 18446744073709551616 := by simp [IntKind.wrap, IntKind.bits, IntKind.signed]
theorem wrap_u32 (x : Int) : IntKind.u32.wrap x = x % 4294967296 := by simp [IntKind.wrap, IntKind.bits, IntKind.signed]
theorem wrap_u16 (x : Int) : IntKind.u16.wrap x = x % 65536 := by simp [IntKind.wrap, IntKind.bits, IntKind.signed]
theorem wrap_u8 (x : Int) : IntKind.u8.wrap x = x % 256 := by simp [IntKind.wrap, IntKind.bits, IntKind.signed]
theorem w64 {x : Int} (h : -9223372036854775808 ≤ x) (h' : x ≤ 9223372036854775807) : wrap64 x = x := by unfold wrap64; omega
theorem w32 {x : Int} (h : -2147483648 ≤ x) (h' : x ≤ 2147483647) : wrap32 x = x := by unfold wrap32; omega

/-! ### what a reading of each kind says -/
theorem wf_i64 {x : Int} (h : (Lit.int .i64 x).wf = true) : -9223372036854775808 ≤ x ∧ x ≤ 9223372036854775807 := by
  simpa [Lit.wf, IntKind.min, IntKind.max, IntKind.bits, IntKind.signed] using h
theorem wf_i32 {x : Int} (h : (Lit.int .i32 x).wf = true) : -2147483648 ≤ x ∧ x ≤ 2147483647 := by
  simpa [Lit.wf, IntKind.min, IntKind.max, IntKind.bits, IntKind.signed] using h
theorem wf_u32 {x : Int} (h : (Lit.int .u32 x).wf = true) : 0 ≤ x ∧ x ≤ 4294967295 := by
  simpa [Lit.wf, IntKind.min, IntKind.max, IntKind.bits, IntKind.signed] using h
theorem wf_u16 {x : Int} (h : (Lit.int .u16 x).wf = true) : 0 ≤ x ∧ x ≤ 65535 := by
  simpa [Lit.wf, IntKind.min, IntKind.max, IntKind.bits, IntKind.signed] using h
theorem wf_u8 {x : Int} (h : (Lit.int .u8 x).wf = true) : 0 ≤ x ∧ x ≤ 255 := by
  simpa [Lit.wf, IntKind.min, IntKind.max, IntKind.bits, IntKind.signed] using h

/-! ### the bits' words, as arithmetic -/
/-- A number as its kind's bits. -/
def N (k : IntKind) (x : Int) : Nat := (x % 2 ^ k.bits).toNat
theorem pow_pos' (n : Nat) : (0 : Int) < 2 ^ n := Int.pow_pos (by decide)
theorem N_cast (k : IntKind) (x : Int) : (N k x : Int) = x % 2 ^ k.bits :=
  Int.toNat_of_nonneg (Int.emod_nonneg _ (Int.ne_of_gt (pow_pos' _)))
theorem N_lt (k : IntKind) (x : Int) : N k x < 2 ^ k.bits := by
  have h := Int.emod_lt_of_pos x (pow_pos' k.bits)
  rw [← N_cast] at h
  exact_mod_cast h
theorem toNat_N (k : IntKind) (x : Int) : (BitVec.ofInt k.bits x).toNat = N k x := by
  rw [BitVec.toNat_ofInt]; unfold N; push_cast; rfl
theorem wrap_congr (k : IntKind) {x y : Int} (h : x % 2 ^ k.bits = y % 2 ^ k.bits) : k.wrap x = k.wrap y := by
  simp only [IntKind.wrap, h]
theorem wrap_N (k : IntKind) (x : Int) : k.wrap (N k x) = k.wrap x := by
  apply wrap_congr
  rw [N_cast]
  simp
theorem wrap_mod (k : IntKind) (x : Int) : (k.wrap x) % 2 ^ k.bits = x % 2 ^ k.bits := by
  simp only [IntKind.wrap]
  split <;> simp
theorem N_wrap (k : IntKind) (x : Int) : N k (k.wrap x) = N k x := by unfold N; rw [wrap_mod]
theorem N_nat (k : IntKind) (n : Nat) (h : n < 2 ^ k.bits) : N k n = n := by
  have : (N k n : Int) = n := by
    rw [N_cast]
    exact Int.emod_eq_of_lt (by omega) (by exact_mod_cast h)
  exact_mod_cast this
theorem and_N (k : IntKind) (x y : Int) : bits .and k x y = k.wrap ((N k x &&& N k y : Nat) : Int) := by
  simp only [bits, BitVec.toNat_and, toNat_N]
theorem or_N (k : IntKind) (x y : Int) : bits .or k x y = k.wrap ((N k x ||| N k y : Nat) : Int) := by
  simp only [bits, BitVec.toNat_or, toNat_N]
theorem N_and (k : IntKind) (x y : Int) : N k (bits .and k x y) = N k x &&& N k y := by
  rw [and_N, N_wrap, N_nat]
  exact Nat.lt_of_le_of_lt Nat.and_le_left (N_lt k x)
theorem bv_or_add {w : Nat} (x y : BitVec w) : (x ||| y) + (x &&& y) = x + y := by
  have h1 : x ||| y = x + (y &&& ~~~x) := by
    rw [BitVec.add_eq_or_of_and_eq_zero]
    · ext i hi
      simp only [BitVec.getElem_or, BitVec.getElem_and, BitVec.getElem_not]
      cases x[i] <;> simp
    · ext i hi
      simp only [BitVec.getElem_and, BitVec.getElem_not, BitVec.getElem_zero]
      cases x[i] <;> simp
  have h2 : (y &&& ~~~x) + (x &&& y) = y := by
    rw [BitVec.add_eq_or_of_and_eq_zero]
    · ext i hi
      simp only [BitVec.getElem_or, BitVec.getElem_and, BitVec.getElem_not]
      cases x[i] <;> simp
    · ext i hi
      simp only [BitVec.getElem_and, BitVec.getElem_not, BitVec.getElem_zero]
      cases x[i] <;> simp
  rw [h1, BitVec.add_assoc, h2]
theorem bv_and_not {w : Nat} (x y : BitVec w) : (x &&& ~~~y) + (x &&& y) = x := by
  rw [BitVec.add_eq_or_of_and_eq_zero]
  · ext i hi
    simp only [BitVec.getElem_or, BitVec.getElem_and, BitVec.getElem_not]
    cases y[i] <;> simp
  · ext i hi
    simp only [BitVec.getElem_and, BitVec.getElem_not, BitVec.getElem_zero]
    cases y[i] <;> simp
theorem wrap_of_bv (k : IntKind) {v : BitVec k.bits} {x : Int} (h : v = BitVec.ofInt k.bits x) : k.wrap v.toNat = k.wrap x := by
  subst h
  rw [toNat_N, wrap_N]
theorem ofInt_bits (k : IntKind) (v : BitVec k.bits) : BitVec.ofInt k.bits (k.wrap v.toNat) = v := by
  apply BitVec.eq_of_toNat_eq
  rw [toNat_N, N_wrap, N_nat _ _ v.isLt]
theorem ofInt_and (k : IntKind) (x y : Int) : BitVec.ofInt k.bits (bits .and k x y) = BitVec.ofInt k.bits x &&& BitVec.ofInt k.bits y := by
  simp only [bits]; exact ofInt_bits k _
theorem ofInt_or (k : IntKind) (x y : Int) : BitVec.ofInt k.bits (bits .or k x y) = BitVec.ofInt k.bits x ||| BitVec.ofInt k.bits y := by
  simp only [bits]; exact ofInt_bits k _
theorem ofInt_sub' (n : Nat) (x y : Int) : BitVec.ofInt n (x - y) = BitVec.ofInt n x - BitVec.ofInt n y := by
  rw [Int.sub_eq_add_neg, BitVec.ofInt_add, BitVec.ofInt_neg, BitVec.sub_eq_add_neg]
/-- x and not y: what is left of x. -/
theorem andNot_eq (k : IntKind) (x y : Int) : bits .andNot k x y = k.wrap (x - bits .and k x y) := by
  refine wrap_of_bv k ?_
  rw [ofInt_sub', ofInt_and]
  have := bv_and_not (BitVec.ofInt k.bits x) (BitVec.ofInt k.bits y)
  rw [BitVec.eq_sub_iff_add_eq, this]
/-- x or y: the sum, less what both have. -/
theorem or_eq (k : IntKind) (x y : Int) : bits .or k x y = k.wrap (x + y - bits .and k x y) := by
  refine wrap_of_bv k ?_
  rw [ofInt_sub', ofInt_and, BitVec.ofInt_add]
  have := bv_or_add (BitVec.ofInt k.bits x) (BitVec.ofInt k.bits y)
  rw [BitVec.eq_sub_iff_add_eq, this]
theorem and_comm' (k : IntKind) (x y : Int) : bits .and k x y = bits .and k y x := by
  rw [and_N, and_N, Nat.and_comm]
theorem or_comm' (k : IntKind) (x y : Int) : bits .or k x y = bits .or k y x := by
  rw [or_N, or_N, Nat.or_comm]
theorem wrap_range (k : IntKind) (x : Int) (h : 0 ≤ x) (h' : x ≤ k.max) : k.wrap x = x := by
  have e : x % 2 ^ k.bits = x := by
    refine Int.emod_eq_of_lt h (Int.lt_of_le_of_lt h' ?_)
    cases k <;> decide
  simp only [IntKind.wrap, e]
  split
  · rename_i h2
    simp only [Bool.and_eq_true, decide_eq_true_eq] at h2
    simp only [IntKind.max, h2.1, if_true] at h'
    omega
  · rfl
theorem nat_seg (x a b : Nat) : x &&& 2 ^ a * (2 ^ b - 1) = x / 2 ^ a % 2 ^ b * 2 ^ a := by
  apply Nat.eq_of_testBit_eq
  intro j
  rw [Nat.testBit_and, Nat.mul_comm (2 ^ a) (2 ^ b - 1), Nat.testBit_mul_two_pow, Nat.testBit_mul_two_pow, Nat.testBit_two_pow_sub_one, Nat.testBit_mod_two_pow, Nat.testBit_div_two_pow]
  by_cases h : a ≤ j
  · have : a + (j - a) = j := by omega
    simp [h, Bool.and_comm]
  · simp [h]
theorem seg_mod (x : Int) (w a b : Nat) (h : a + b ≤ w) : (x % 2 ^ w) / 2 ^ a % 2 ^ b = x / 2 ^ a % 2 ^ b := by
  obtain ⟨c, rfl⟩ : ∃ c, w = a + (b + c) := ⟨w - a - b, by omega⟩
  have h1 : x = x % 2 ^ (a + (b + c)) + 2 ^ a * (2 ^ b * (2 ^ c * (x / 2 ^ (a + (b + c))))) := by
    rw [← Int.mul_assoc, ← Int.mul_assoc, ← Int.pow_add, ← Int.pow_add, Nat.add_assoc]
    exact (Int.emod_add_mul_ediv x _).symm
  conv => rhs; rw [h1]
  rw [Int.add_mul_ediv_left _ _ (Int.ne_of_gt (pow_pos' a)), Int.add_mul_emod_self_left]
/-- A row of ones as a mask: b bits from bit a on. -/
theorem and_seg (k : IntKind) (a b : Nat) {m : Int} (x : Int) (hm : m = 2 ^ a * (2 ^ b - 1)) (hk : m ≤ k.max) (hw : a + b ≤ k.bits) :
    bits .and k x m = x / 2 ^ a % 2 ^ b * 2 ^ a := by
  have hn : (0 : Int) < ((2 ^ b : Nat) : Int) := by exact_mod_cast Nat.two_pow_pos b
  have e : m = ((2 ^ a * (2 ^ b - 1) : Nat) : Int) := by
    rw [hm]
    have : ((2 ^ b - 1 : Nat) : Int) = 2 ^ b - 1 := by
      have := Nat.two_pow_pos b
      rw [Int.natCast_sub (by omega)]; push_cast; rfl
    push_cast; rw [this]
  have hlt : 2 ^ a * (2 ^ b - 1) < 2 ^ k.bits := by
    refine Nat.lt_of_lt_of_le ?_ (Nat.pow_le_pow_right (by decide) hw)
    rw [Nat.pow_add]
    exact Nat.mul_lt_mul_of_pos_left (by have := Nat.two_pow_pos b; omega) (Nat.two_pow_pos a)
  rw [and_N]
  have hN : N k m = 2 ^ a * (2 ^ b - 1) := by rw [e]; exact N_nat k _ hlt
  rw [hN, nat_seg]
  have hc : ((N k x / 2 ^ a % 2 ^ b * 2 ^ a : Nat) : Int) = x / 2 ^ a % 2 ^ b * 2 ^ a := by
    push_cast
    rw [N_cast, seg_mod _ _ _ _ hw]
  rw [hc]
  have h1 : 0 ≤ x / 2 ^ a % 2 ^ b := Int.emod_nonneg _ (Int.ne_of_gt (pow_pos' b))
  have h2 : x / 2 ^ a % 2 ^ b ≤ 2 ^ b - 1 := by have := Int.emod_lt_of_pos (x / 2 ^ a) (pow_pos' b); omega
  have h3 := Int.le_of_lt (pow_pos' a)
  refine wrap_range k _ (Int.mul_nonneg h1 h3) (Int.le_trans ?_ hk)
  rw [hm, Int.mul_comm]
  exact Int.mul_le_mul_of_nonneg_left h2 h3
theorem nat_zero (x y i j : Nat) (hx : x % 2 ^ j < 2 ^ i) (hy : y % 2 ^ i = 0) (hj : y < 2 ^ j) : x &&& y = 0 := by
  apply Nat.eq_of_testBit_eq
  intro t
  rw [Nat.testBit_and, Nat.zero_testBit]
  by_cases h1 : t < i
  · have : (y % 2 ^ i).testBit t = false := by rw [hy, Nat.zero_testBit]
    rw [Nat.testBit_mod_two_pow] at this
    simp [h1] at this
    simp [this]
  · by_cases h2 : t < j
    · have : (x % 2 ^ j).testBit t = false := Nat.testBit_lt_two_pow (Nat.lt_of_lt_of_le hx (Nat.pow_le_pow_right (by decide) (by omega)))
      rw [Nat.testBit_mod_two_pow] at this
      simp [h2] at this
      simp [this]
    · have : y.testBit t = false := Nat.testBit_lt_two_pow (Nat.lt_of_lt_of_le hj (Nat.pow_le_pow_right (by decide) (by omega)))
      simp [this]
theorem emod_emod_pow (x : Int) (w j : Nat) (h : j ≤ w) : x % 2 ^ w % 2 ^ j = x % 2 ^ j := by
  apply Int.emod_emod_of_dvd
  obtain ⟨c, rfl⟩ : ∃ c, w = j + c := ⟨w - j, by omega⟩
  rw [Int.pow_add]
  exact Int.dvd_mul_right _ _
/-- Bits of y from i on, below j; x has none there. -/
theorem and_zero (k : IntKind) (i j : Nat) {x y : Int} (hx : x % 2 ^ j < 2 ^ i) (hy : y % 2 ^ i = 0) (h0 : 0 ≤ y) (hj : y < 2 ^ j) (hw : j ≤ k.bits) (hi : i ≤ j) :
    bits .and k x y = 0 := by
  rw [and_N, nat_zero (N k x) (N k y) i j]
  · exact wrap_range k 0 (by decide) (by cases k <;> decide)
  · have : ((N k x % 2 ^ j : Nat) : Int) < ((2 ^ i : Nat) : Int) := by
      push_cast; rw [N_cast, emod_emod_pow _ _ _ hw]; exact hx
    exact_mod_cast this
  · have : ((N k y % 2 ^ i : Nat) : Int) = 0 := by
      push_cast; rw [N_cast, emod_emod_pow _ _ _ (by omega)]; exact hy
    exact_mod_cast this
  · have : ((N k y : Nat) : Int) < ((2 ^ j : Nat) : Int) := by
      rw [N_cast]; push_cast
      rw [Int.emod_eq_of_lt h0 (Int.lt_of_lt_of_le hj ?_)]
      · exact hj
      · exact_mod_cast Nat.pow_le_pow_right (by decide) hw
    exact_mod_cast this
/-- Two numbers that have no bit in common: as and_zero asks. -/
theorem or_mid (k : IntKind) (i j : Nat) {x y : Int} (hx : x % 2 ^ j < 2 ^ i) (hy : y % 2 ^ i = 0) (h0 : 0 ≤ y) (hj : y < 2 ^ j) (hw : j ≤ k.bits) (hi : i ≤ j) :
    bits .or k x y = k.wrap (x + y) := by
  rw [or_eq, and_zero k i j hx hy h0 hj hw hi, Int.sub_zero]
theorem or_mid' (k : IntKind) (i j : Nat) {x y : Int} (hx : x % 2 ^ j < 2 ^ i) (hy : y % 2 ^ i = 0) (h0 : 0 ≤ y) (hj : y < 2 ^ j) (hw : j ≤ k.bits) (hi : i ≤ j) :
    bits .or k y x = k.wrap (y + x) := by
  rw [or_comm', or_mid k i j hx hy h0 hj hw hi, Int.add_comm]
/-- A mask of two parts. -/
theorem and_split (k : IntKind) (j : Nat) {m n : Int} (x : Int) (hm : m % 2 ^ j = 0) (hm0 : 0 ≤ m) (hn0 : 0 ≤ n) (hn : n < 2 ^ j) (hk : m + n ≤ k.max) :
    bits .and k x (m + n) = bits .and k x m + bits .and k x n := by
  obtain ⟨a, rfl⟩ := Int.eq_ofNat_of_zero_le hm0
  obtain ⟨b, rfl⟩ := Int.eq_ofNat_of_zero_le hn0
  have hb : b < 2 ^ j := by exact_mod_cast hn
  have ha : a % 2 ^ j = 0 := by exact_mod_cast hm
  have hle : a + b < 2 ^ k.bits := by
    have h2 : ((a + b : Nat) : Int) < ((2 ^ k.bits : Nat) : Int) := by
      push_cast; refine Int.lt_of_le_of_lt hk ?_
      cases k <;> decide
    exact_mod_cast h2
  have hj : a + b = a ||| b := (nat_join j a b ha hb).symm
  have e : ((a : Int) + (b : Int)) = ((a + b : Nat) : Int) := by push_cast; rfl
  have hz : (N k x &&& a) &&& (N k x &&& b) = 0 := by
    have h3 : a &&& b = 0 := nat_zero a b 0 j (by rw [ha]; exact Nat.two_pow_pos 0) (by simp [Nat.mod_one]) hb
    have : (N k x &&& a) &&& (N k x &&& b) = (N k x &&& N k x) &&& (a &&& b) := by ac_rfl
    rw [this, h3, Nat.and_zero]
  have hs : (N k x &&& (a + b)) = (N k x &&& a) + (N k x &&& b) := by
    rw [hj, Nat.and_or_distrib_left]
    refine nat_join j _ _ ?_ (Nat.lt_of_le_of_lt Nat.and_le_right hb)
    rw [Nat.and_mod_two_pow, ha, Nat.and_zero]
  have la : N k x &&& a ≤ a := Nat.and_le_right
  have lb : N k x &&& b ≤ b := Nat.and_le_right
  rw [e, and_N, and_N, and_N, N_nat k _ hle, N_nat k a (by omega), N_nat k b (by omega), hs]
  rw [wrap_range k _ (by omega) (by omega), wrap_range k _ (by omega) (by omega), wrap_range k _ (by omega) (by omega)]
  push_cast; rfl
/-- The lowest n bits are cut off. -/
theorem and_neg (k : IntKind) (n : Nat) {m : Int} (x : Int) (hm : m = -2 ^ n) : bits .and k x m = bits .andNot k x (2 ^ n - 1) := by
  have e : BitVec.ofInt k.bits m = ~~~ BitVec.ofInt k.bits (2 ^ n - 1) := by
    have h : m = -(2 ^ n - 1) + (-1) := by omega
    rw [h, BitVec.ofInt_add, BitVec.ofInt_neg, BitVec.neg_eq_not_add, BitVec.add_assoc, BitVec.ofInt_neg]
    have : (1#k.bits) + -BitVec.ofInt k.bits 1 = 0#k.bits := by
      rw [← BitVec.sub_eq_add_neg]; exact BitVec.sub_self _
    rw [this, BitVec.add_zero]
  simp only [bits, e]
/-- The lowest n bits with the highest of them as the sign. -/
def sx (n : Nat) (x : Int) : Int := (x + 2 ^ (n - 1)) % 2 ^ n - 2 ^ (n - 1)
theorem sx_eq (m n : Nat) (x : Int) (h : m + n = 63) : wrap64 (x * 2 ^ m) / 2 ^ m = sx (n + 1) x := by
  have e1 : (9223372036854775808 : Int) = 2 ^ n * 2 ^ m := by rw [← Int.pow_add, Nat.add_comm, h]; rfl
  have e2 : (18446744073709551616 : Int) = 2 ^ (n + 1) * 2 ^ m := by rw [← Int.pow_add, show n + 1 + m = 64 by omega]; rfl
  have hp := pow_pos' m
  unfold wrap64 sx
  have e3 : (x + 2 ^ n) * 2 ^ m % (2 ^ (n + 1) * 2 ^ m) = (x + 2 ^ n) % 2 ^ (n + 1) * 2 ^ m := by
    rw [Int.mul_comm _ (2 ^ m), Int.mul_comm _ (2 ^ m), Int.mul_emod_mul_of_pos _ _ hp, Int.mul_comm]
  rw [e1, e2, ← Int.add_mul, e3, ← Int.sub_mul, Int.mul_ediv_cancel _ (Int.ne_of_gt hp), Nat.add_sub_cancel]
theorem sext_body (n : Nat) (n' : Int) (x : Int) (hn : n' = n) (h1 : 1 ≤ n) (h2 : n ≤ 64) :
    0 ≤ wrap64 (64 - n') ∧ IntKind.i64.wrap (x * 2 ^ min (wrap64 (64 - n')).toNat IntKind.i64.bits) / 2 ^ min (wrap64 (64 - n')).toNat IntKind.i64.bits = sx n x := by
  subst hn
  have e : wrap64 (64 - (n : Int)) = ((64 - n : Nat) : Int) := by unfold wrap64; omega
  have e2 : min (((64 - n : Nat) : Int)).toNat IntKind.i64.bits = 64 - n := by simp only [IntKind.bits, Int.toNat_natCast]; omega
  rw [e, e2, wrap_i64]
  refine ⟨by omega, ?_⟩
  have := sx_eq (64 - n) (n - 1) x (by omega)
  rwa [show n - 1 + 1 = n by omega] at this
theorem one_shift (n : Nat) (n' : Int) (hn : n' = n) (h2 : n ≤ 62) : wrap64 (IntKind.i64.wrap (1 * 2 ^ min n'.toNat IntKind.i64.bits) - 1) = 2 ^ n - 1 := by
  subst hn
  have e2 : min ((n : Int)).toNat IntKind.i64.bits = n := by simp only [IntKind.bits, Int.toNat_natCast]; omega
  have h3 : (2 : Int) ^ n ≤ 2 ^ 62 := by exact_mod_cast Nat.pow_le_pow_right (by decide) h2
  have h4 := pow_pos' n
  rw [e2, Int.one_mul, wrap_i64, w64 (x := 2 ^ n) (by omega) (by omega), w64 (by omega) (by omega)]
theorem bits_body (a n : Nat) (a' n' : Int) (x : Int) (ha : a' = a) (hn : n' = n) (h0 : 0 ≤ x) (h1 : x < 4294967296) (h2 : a ≤ 32) (h3 : n ≤ 62) :
    0 ≤ a' ∧ 0 ≤ n' ∧ bits .and .i64 (wrap64 (x / 2 ^ min a'.toNat IntKind.u32.bits)) (wrap64 (IntKind.i64.wrap (1 * 2 ^ min n'.toNat IntKind.i64.bits) - 1)) = x / 2 ^ a % 2 ^ n := by
  subst ha
  refine ⟨by omega, by omega, ?_⟩
  rw [one_shift n n' hn h3]
  have e2 : min ((a : Int)).toNat IntKind.u32.bits = a := by simp only [IntKind.bits, Int.toNat_natCast]; omega
  rw [e2]
  have h5 : 0 ≤ x / 2 ^ a := Int.ediv_nonneg h0 (Int.le_of_lt (pow_pos' a))
  have h6 : x / 2 ^ a ≤ x := Int.ediv_le_self _ h0
  have h7 : (2 : Int) ^ n ≤ 2 ^ 62 := by exact_mod_cast Nat.pow_le_pow_right (by decide) h3
  rw [w64 (by omega) (by omega)]
  have := and_seg .i64 0 n (x / 2 ^ a) (m := 2 ^ n - 1) (by simp) (by simp only [IntKind.max, IntKind.bits, IntKind.signed]; simp; omega) (by simp only [IntKind.bits]; omega)
  simpa using this
end Go.Proofs.Ytcfeljdbjhamiaa.Aid
