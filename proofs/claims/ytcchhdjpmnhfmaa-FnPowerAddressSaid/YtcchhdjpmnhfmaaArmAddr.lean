/- Contracts for the addresses of AArch64: two instructions packed and unpacked, the page of ADRP and the low bits of the instruction behind it. -/
import Derived.Test.YtcchhdjpmnhfmaaSpecM
import Derived.Test.YtcchhdjpmnhfmaaNear
import Derived.OwnWalk
namespace Go.Proofs.Ytcchhdjpmnhfmaa.Wk
set_option linter.unusedVariables false
open Go.RowKit Go.Proofs.Ytcchhdjpmnhfmaa.Aid
theorem pack_as (g : Bool) (a b V : Int) (w : World) (a0 : 0 ≤ a) (a1 : a < 4294967296) (b0 : 0 ≤ b) (b1 : b < 4294967296) (hV : (if g = true then bits .or .i64 (wrap64 (a * 4294967296)) b else bits .or .i64 a (wrap64 (b * 4294967296))) = V) :
    Calls Try.prog 23 #[.bool g, .int .u32 a, .int .u32 b] w fun e w' => e = .returned (.int .i64 V) ∧ w = w' := by
  cases g
  · rw [if_neg (by decide)] at hV
    go_enter Try.func23, Try.ntmps23
    go_wp2
    go_ret
    exact ⟨rfl, rfl⟩
  · rw [if_pos rfl] at hV
    go_enter Try.func23, Try.ntmps23
    go_wp2
    go_ret
    exact ⟨rfl, rfl⟩
theorem unpack_as (g : Bool) (r x y : Int) (w : World) (hx : (if g = true then r / 4294967296 % 4294967296 else r % 4294967296) = x) (hy : (if g = true then r % 4294967296 else r / 4294967296 % 4294967296) = y) :
    Calls Try.prog 24 #[.bool g, .int .i64 r] w fun e w' => e = .returned (.tuple #[.int .u32 x, .int .u32 y]) ∧ w = w' := by
  cases g
  · rw [if_neg (by decide)] at hx hy
    go_enter Try.func24, Try.ntmps24
    go_wp2
    go_ret2
    exact ⟨rfl, rfl⟩
  · rw [if_pos rfl] at hx hy
    go_enter Try.func24, Try.ntmps24
    go_wp2
    go_ret2
    exact ⟨rfl, rfl⟩
theorem words (X Y : Int) (x0 : 0 ≤ X) (x1 : X < 4294967296) (y0 : 0 ≤ Y) (y1 : Y < 4294967296) : bits .or .i64 (wrap64 (Y * 4294967296)) X = wrap64 (Y * 4294967296 + X) := by
  rw [or_mid .i64 0 32 (by unfold wrap64; omega) (by omega) (by omega) (by omega) (by decide) (by decide), wrap_i64]
  unfold wrap64; omega
theorem cut_lo (X Y : Int) (x0 : 0 ≤ X) (x1 : X < 4294967296) : wrap64 (Y * 4294967296 + X) % 4294967296 = X := by unfold wrap64; omega
theorem cut_hi (X Y : Int) (x0 : 0 ≤ X) (x1 : X < 4294967296) (y0 : 0 ≤ Y) (y1 : Y < 4294967296) : wrap64 (Y * 4294967296 + X) / 4294967296 % 4294967296 = Y := by unfold wrap64; omega
theorem cut12 (x : Int) (h : -9223372036854775808 ≤ x ∧ x ≤ 9223372036854775807) : bits .andNot .i64 x 4095 = x - x % 4096 := by
  rw [andNot_eq, seg64 12 _ _ (by decide) (by decide), show (2 : Int) ^ 12 = 4096 from rfl, wrap_i64, w64 (by omega) (by omega)]
/-- An ADRP whose field is nought, and an instruction whose 12 bits are. -/
def KA (A : Int) : Prop := ∃ q m l : Int, 0 ≤ q ∧ q < 2 ∧ 0 ≤ m ∧ m < 32 ∧ 0 ≤ l ∧ l < 32 ∧ A = q * 2147483648 + m * 16777216 + l
def KB (B : Int) : Prop := ∃ q l : Int, 0 ≤ q ∧ q < 1024 ∧ 0 ≤ l ∧ l < 1024 ∧ B = q * 4194304 + l
theorem maskA (x : Int) : bits .and .u32 x 1627389920 = x / 536870912 % 4 * 536870912 + x / 32 % 524288 * 32 := by
  rw [show (1627389920 : Int) = 1610612736 + 16777184 from rfl, and_split .u32 29 _ (by decide) (by decide) (by decide) (by decide) (by decide), and_seg .u32 29 2 (m := 1610612736) _ (by decide) (by decide) (by decide), and_seg .u32 5 19 (m := 16777184) _ (by decide) (by decide) (by decide)]
  rfl
theorem maskB (x : Int) : bits .and .u32 x 4193280 = x / 1024 % 4096 * 1024 := by
  rw [and_seg .u32 10 12 (m := 4193280) _ (by decide) (by decide) (by decide)]; rfl
theorem cutA (v : Int) (h0 : 0 ≤ v) (h1 : v ≤ 4294967295) : KA (bits .andNot .u32 v 1627389920) := by
  obtain ⟨q, n, m, k, l, bq, bn, bm, bk, bl, rfl⟩ : ∃ q n m k l : Int, (0 ≤ q ∧ q < 2) ∧ (0 ≤ n ∧ n < 4) ∧ (0 ≤ m ∧ m < 32) ∧ (0 ≤ k ∧ k < 524288) ∧ (0 ≤ l ∧ l < 32) ∧ v = q * 2147483648 + n * 536870912 + m * 16777216 + k * 32 + l :=
    ⟨v / 2147483648, v / 536870912 % 4, v / 16777216 % 32, v / 32 % 524288, v % 32, by omega, by omega, by omega, by omega, by omega, by omega⟩
  refine ⟨q, m, l, by omega, by omega, by omega, by omega, by omega, by omega, ?_⟩
  have f1 : (q * 2147483648 + n * 536870912 + m * 16777216 + k * 32 + l) / 536870912 % 4 = n := by omega
  have f2 : (q * 2147483648 + n * 536870912 + m * 16777216 + k * 32 + l) / 32 % 524288 = k := by omega
  rw [andNot_eq, maskA, f1, f2, wrap_u32]; omega
theorem cutB (v : Int) (h0 : 0 ≤ v) (h1 : v ≤ 4294967295) : KB (bits .andNot .u32 v 4193280) := by
  refine ⟨v / 4194304, v % 1024, by omega, by omega, by omega, by omega, ?_⟩
  rw [andNot_eq, maskB, wrap_u32]; omega
theorem KA_in {A : Int} (h : KA A) : 0 ≤ A ∧ A < 4294967296 := by obtain ⟨q, m, l, _, _, _, _, _, _, rfl⟩ := h; omega
theorem KB_in {A : Int} (h : KB A) : 0 ≤ A ∧ A < 4294967296 := by obtain ⟨q, l, _, _, _, _, rfl⟩ := h; omega
/-- The pages, put into the field of ADRP; the low bits. -/
def XA (A t : Int) : Int := A + (t / 4096 % 4 * 536870912 + t / 4096 / 4 % 524288 * 32)
def YB (B c : Int) : Int := B + c * 1024
theorem two (t : Int) : bits .or .u32 (bits .and .i64 (t / 4096) 3 * 536870912) (bits .and .i64 (t / 4096 / 4) 524287 * 32) = t / 4096 % 4 * 536870912 + t / 4096 / 4 % 524288 * 32 := by
  rw [seg64 2 _ _ (by decide) (by decide), seg64 19 _ _ (by decide) (by decide), show (2 : Int) ^ 2 = 4 from rfl, show (2 : Int) ^ 19 = 524288 from rfl]
  exact joinu 29 (by omega) (by omega) (by omega) (by decide) (by omega) (by omega)
theorem putA (A t : Int) (h : KA A) : bits .or .u32 A (bits .or .u32 (bits .and .i64 (t / 4096) 3 * 536870912) (bits .and .i64 (t / 4096 / 4) 524287 * 32)) = XA A t := by
  rw [two]
  obtain ⟨q, m, l, q0, q1, m0, m1, l0, l1, rfl⟩ := h
  have h : ∀ u k : Int, 0 ≤ u ∧ u < 4 → 0 ≤ k ∧ k < 524288 → bits .or .u32 (q * 2147483648 + m * 16777216 + l) (u * 536870912 + k * 32) = q * 2147483648 + m * 16777216 + l + (u * 536870912 + k * 32) := by
    intro u k hu hk
    rw [or_eq, and_split .u32 29 _ (by omega) (by omega) (by omega) (by omega) (by show _ ≤ (4294967295 : Int); omega),
      and_zero .u32 29 31 (by omega) (by omega) (by omega) (by omega) (by decide) (by decide), and_zero .u32 5 24 (by omega) (by omega) (by omega) (by omega) (by decide) (by decide), wrap_u32]
    omega
  exact h _ _ (by omega) (by omega)
theorem putB (B c : Int) (h : KB B) (c0 : 0 ≤ c) (c1 : c < 4096) : bits .or .u32 B (c * 1024) = YB B c := by
  obtain ⟨q, l, q0, q1, l0, l1, rfl⟩ := h
  rw [or_mid .u32 10 22 (by omega) (by omega) (by omega) (by omega) (by decide) (by decide), wrap_u32]
  unfold YB; omega
theorem XA_in (A t : Int) (h : KA A) : 0 ≤ XA A t ∧ XA A t < 4294967296 := by obtain ⟨q, m, l, _, _, _, _, _, _, rfl⟩ := h; unfold XA; omega
theorem YB_in (B c : Int) (h : KB B) (c0 : 0 ≤ c) (c1 : c < 4096) : 0 ≤ YB B c ∧ YB B c < 4294967296 := by obtain ⟨q, l, _, _, _, _, rfl⟩ := h; unfold YB; omega
theorem backA (A t : Int) (h : KA A) (t1 : -4294967296 ≤ t) (t2 : t < 4294967296) : sx 21 (XA A t / 32 % 524288 * 4 + XA A t / 536870912 % 4) = t / 4096 := by
  obtain ⟨q, m, l, q0, q1, m0, m1, l0, l1, rfl⟩ := h
  have h : ∀ u k : Int, 0 ≤ u ∧ u < 4 → 0 ≤ k ∧ k < 524288 → (q * 2147483648 + m * 16777216 + l + (u * 536870912 + k * 32)) / 32 % 524288 * 4 + (q * 2147483648 + m * 16777216 + l + (u * 536870912 + k * 32)) / 536870912 % 4 = k * 4 + u := by
    intro u k hu hk
    have f1 : (q * 2147483648 + m * 16777216 + l + (u * 536870912 + k * 32)) / 32 % 524288 = k := by omega
    have f2 : (q * 2147483648 + m * 16777216 + l + (u * 536870912 + k * 32)) / 536870912 % 4 = u := by omega
    rw [f1, f2]
  unfold XA
  rw [h _ _ (by omega) (by omega)]; simp only [sx]; omega
theorem stayA (A t : Int) (h : KA A) : (bits .andNot .u32 (XA A t) 1627389920 == A) = true := by
  rw [andNot_eq, maskA, wrap_u32, beq_iff_eq]
  obtain ⟨q, m, l, q0, q1, m0, m1, l0, l1, rfl⟩ := h
  have h : ∀ u k : Int, 0 ≤ u ∧ u < 4 → 0 ≤ k ∧ k < 524288 → (q * 2147483648 + m * 16777216 + l + (u * 536870912 + k * 32) - ((q * 2147483648 + m * 16777216 + l + (u * 536870912 + k * 32)) / 536870912 % 4 * 536870912 + (q * 2147483648 + m * 16777216 + l + (u * 536870912 + k * 32)) / 32 % 524288 * 32)) % 4294967296 = q * 2147483648 + m * 16777216 + l := by
    intro u k hu hk
    have f1 : (q * 2147483648 + m * 16777216 + l + (u * 536870912 + k * 32)) / 32 % 524288 = k := by omega
    have f2 : (q * 2147483648 + m * 16777216 + l + (u * 536870912 + k * 32)) / 536870912 % 4 = u := by omega
    rw [f1, f2]; omega
  exact h _ _ (by omega) (by omega)
theorem backB (B c : Int) (h : KB B) (c0 : 0 ≤ c) (c1 : c < 4096) : YB B c / 1024 % 4096 = c := by obtain ⟨q, l, _, _, _, _, rfl⟩ := h; unfold YB; omega
theorem stayB (B c : Int) (h : KB B) (c0 : 0 ≤ c) (c1 : c < 4096) : (bits .andNot .u32 (YB B c) 4193280 == B) = true := by
  rw [andNot_eq, maskB, wrap_u32, beq_iff_eq, backB B c h c0 c1]
  obtain ⟨q, l, _, _, _, _, rfl⟩ := h; unfold YB; omega
set_option maxRecDepth 100000 in
set_option maxHeartbeats 1600000 in
theorem relL_in (s a p V A B P X Y o : Int) (w : World) (hs : -2199023255552 ≤ s ∧ s < 2199023255552) (ha : -2199023255552 ≤ a ∧ a < 2199023255552)
    (hP : bits .andNot .i64 p 4095 = P) (P0 : -4398046511104 ≤ P) (P1 : P < 4398046511104) (e1 : V / 4294967296 % 4294967296 = B) (e2 : V % 4294967296 = A)
    (t1 : -4294967296 ≤ s + a - P) (t2 : s + a - P < 4294967296)
    (a0 : 0 ≤ bits .and .i64 ((s + a - P) / 4096) 3) (a1 : bits .and .i64 ((s + a - P) / 4096) 3 ≤ 3)
    (d0 : 0 ≤ bits .and .i64 ((s + a - P) / 4096 / 4) 524287) (d1 : bits .and .i64 ((s + a - P) / 4096 / 4) 524287 ≤ 524287)
    (c0 : 0 ≤ bits .and .i64 (s + a - P) 4095) (c1 : bits .and .i64 (s + a - P) 4095 ≤ 4095)
    (hX : bits .or .u32 A (bits .or .u32 (bits .and .i64 ((s + a - P) / 4096) 3 * 536870912) (bits .and .i64 ((s + a - P) / 4096 / 4) 524287 * 32)) = X) (hY : bits .or .u32 B (bits .and .i64 (s + a - P) 4095 * 1024) = Y)
    (X0 : 0 ≤ X) (X1 : X < 4294967296) (Y0 : 0 ≤ Y) (Y1 : Y < 4294967296) (hO : bits .or .i64 (wrap64 (Y * 4294967296)) X = o) :
    Calls Try.prog 36 #[.int .i64 1, .bool false, .bool false, .bool false, .int .i64 s, .int .i64 a, .int .i64 p, .int .i64 V] w fun e w' => e = .returned (.tuple #[.int .i64 o, .int .i64 0, .bool true]) ∧ w = w' := by
  obtain ⟨hs1, hs2⟩ := hs
  obtain ⟨ha1, ha2⟩ := ha
  go_enter Try.func36, Try.ntmps36
  go_wp2
  go_ret3
  exact ⟨rfl, rfl⟩
set_option maxRecDepth 100000 in
set_option maxHeartbeats 1600000 in
theorem relL_far (s a p V A B P : Int) (w : World) (hs : -2199023255552 ≤ s ∧ s < 2199023255552) (ha : -2199023255552 ≤ a ∧ a < 2199023255552)
    (hP : bits .andNot .i64 p 4095 = P) (P0 : -4398046511104 ≤ P) (P1 : P < 4398046511104) (ht : s + a - P < -4294967296 ∨ 4294967296 ≤ s + a - P) :
    Calls Try.prog 36 #[.int .i64 1, .bool false, .bool false, .bool false, .int .i64 s, .int .i64 a, .int .i64 p, .int .i64 V] w fun e w' => (∃ o, e = .returned (.tuple #[.int .i64 o, .int .i64 1, .bool true])) ∧ w = w' := by
  obtain ⟨hs1, hs2⟩ := hs
  obtain ⟨ha1, ha2⟩ := ha
  rcases ht with ht | ht
  all_goals
    go_enter Try.func36, Try.ntmps36
    go_wp2
    go_ret3
    exact ⟨⟨_, rfl⟩, rfl⟩
set_option maxRecDepth 100000 in
set_option maxHeartbeats 1600000 in
theorem relG_in (s a p V A B P X Y o : Int) (w : World) (hs : -2199023255552 ≤ s ∧ s < 2199023255552) (ha : -2199023255552 ≤ a ∧ a < 2199023255552)
    (hP : bits .andNot .i64 p 4095 = P) (P0 : -4398046511104 ≤ P) (P1 : P < 4398046511104) (e1 : V / 4294967296 % 4294967296 = A) (e2 : V % 4294967296 = B)
    (t1 : -4294967296 ≤ s + a - P) (t2 : s + a - P < 4294967296)
    (a0 : 0 ≤ bits .and .i64 ((s + a - P) / 4096) 3) (a1 : bits .and .i64 ((s + a - P) / 4096) 3 ≤ 3)
    (d0 : 0 ≤ bits .and .i64 ((s + a - P) / 4096 / 4) 524287) (d1 : bits .and .i64 ((s + a - P) / 4096 / 4) 524287 ≤ 524287)
    (c0 : 0 ≤ bits .and .i64 (s + a - P) 4095) (c1 : bits .and .i64 (s + a - P) 4095 ≤ 4095)
    (hX : bits .or .u32 A (bits .or .u32 (bits .and .i64 ((s + a - P) / 4096) 3 * 536870912) (bits .and .i64 ((s + a - P) / 4096 / 4) 524287 * 32)) = X) (hY : bits .or .u32 B (bits .and .i64 (s + a - P) 4095 * 1024) = Y)
    (X0 : 0 ≤ X) (X1 : X < 4294967296) (Y0 : 0 ≤ Y) (Y1 : Y < 4294967296) (hO : bits .or .i64 (wrap64 (X * 4294967296)) Y = o) :
    Calls Try.prog 36 #[.int .i64 1, .bool true, .bool false, .bool false, .int .i64 s, .int .i64 a, .int .i64 p, .int .i64 V] w fun e w' => e = .returned (.tuple #[.int .i64 o, .int .i64 0, .bool true]) ∧ w = w' := by
  obtain ⟨hs1, hs2⟩ := hs
  obtain ⟨ha1, ha2⟩ := ha
  go_enter Try.func36, Try.ntmps36
  go_wp2
  go_ret3
  exact ⟨rfl, rfl⟩
set_option maxRecDepth 100000 in
set_option maxHeartbeats 1600000 in
theorem relG_far (s a p V A B P : Int) (w : World) (hs : -2199023255552 ≤ s ∧ s < 2199023255552) (ha : -2199023255552 ≤ a ∧ a < 2199023255552)
    (hP : bits .andNot .i64 p 4095 = P) (P0 : -4398046511104 ≤ P) (P1 : P < 4398046511104) (ht : s + a - P < -4294967296 ∨ 4294967296 ≤ s + a - P) :
    Calls Try.prog 36 #[.int .i64 1, .bool true, .bool false, .bool false, .int .i64 s, .int .i64 a, .int .i64 p, .int .i64 V] w fun e w' => (∃ o, e = .returned (.tuple #[.int .i64 o, .int .i64 1, .bool true])) ∧ w = w' := by
  obtain ⟨hs1, hs2⟩ := hs
  obtain ⟨ha1, ha2⟩ := ha
  rcases ht with ht | ht
  all_goals
    go_enter Try.func36, Try.ntmps36
    go_wp2
    go_ret3
    exact ⟨⟨_, rfl⟩, rfl⟩
set_option maxRecDepth 100000 in
set_option maxHeartbeats 1600000 in
theorem rel8_in (s a p V A B P X Y o : Int) (w : World) (hs : -2199023255552 ≤ s ∧ s < 2199023255552) (ha : -2199023255552 ≤ a ∧ a < 2199023255552)
    (hP : bits .andNot .i64 p 4095 = P) (P0 : -4398046511104 ≤ P) (P1 : P < 4398046511104) (e1 : V / 4294967296 % 4294967296 = B) (e2 : V % 4294967296 = A)
    (t1 : -4294967296 ≤ s + a - P) (t2 : s + a - P < 4294967296)
    (a0 : 0 ≤ bits .and .i64 ((s + a - P) / 4096) 3) (a1 : bits .and .i64 ((s + a - P) / 4096) 3 ≤ 3)
    (d0 : 0 ≤ bits .and .i64 ((s + a - P) / 4096 / 4) 524287) (d1 : bits .and .i64 ((s + a - P) / 4096 / 4) 524287 ≤ 524287)
    (c0 : 0 ≤ bits .and .i64 (s + a - P) 4095) (c1 : bits .and .i64 (s + a - P) 4095 ≤ 4095)
    (hX : bits .or .u32 A (bits .or .u32 (bits .and .i64 ((s + a - P) / 4096) 3 * 536870912) (bits .and .i64 ((s + a - P) / 4096 / 4) 524287 * 32)) = X) (hY : bits .or .u32 B (bits .and .i64 (s + a - P) 4095 * 1024) = Y)
    (X0 : 0 ≤ X) (X1 : X < 4294967296) (Y0 : 0 ≤ Y) (Y1 : Y < 4294967296) (hO : bits .or .i64 (wrap64 (Y * 4294967296)) X = o) :
    Calls Try.prog 36 #[.int .i64 22, .bool false, .bool false, .bool false, .int .i64 s, .int .i64 a, .int .i64 p, .int .i64 V] w fun e w' => e = .returned (.tuple #[.int .i64 o, .int .i64 0, .bool true]) ∧ w = w' := by
  obtain ⟨hs1, hs2⟩ := hs
  obtain ⟨ha1, ha2⟩ := ha
  go_enter Try.func36, Try.ntmps36
  go_wp2
  go_ret3
  exact ⟨rfl, rfl⟩
set_option maxRecDepth 100000 in
set_option maxHeartbeats 1600000 in
theorem rel8_far (s a p V A B P : Int) (w : World) (hs : -2199023255552 ≤ s ∧ s < 2199023255552) (ha : -2199023255552 ≤ a ∧ a < 2199023255552)
    (hP : bits .andNot .i64 p 4095 = P) (P0 : -4398046511104 ≤ P) (P1 : P < 4398046511104) (ht : s + a - P < -4294967296 ∨ 4294967296 ≤ s + a - P) :
    Calls Try.prog 36 #[.int .i64 22, .bool false, .bool false, .bool false, .int .i64 s, .int .i64 a, .int .i64 p, .int .i64 V] w fun e w' => (∃ o, e = .returned (.tuple #[.int .i64 o, .int .i64 1, .bool true])) ∧ w = w' := by
  obtain ⟨hs1, hs2⟩ := hs
  obtain ⟨ha1, ha2⟩ := ha
  rcases ht with ht | ht
  all_goals
    go_enter Try.func36, Try.ntmps36
    go_wp2
    go_ret3
    exact ⟨⟨_, rfl⟩, rfl⟩
set_option maxRecDepth 100000 in
set_option maxHeartbeats 1600000 in
theorem rel16_in (s a p V A B P X Y o : Int) (w : World) (hs : -2199023255552 ≤ s ∧ s < 2199023255552) (ha : -2199023255552 ≤ a ∧ a < 2199023255552)
    (hP : bits .andNot .i64 p 4095 = P) (P0 : -4398046511104 ≤ P) (P1 : P < 4398046511104) (e1 : V / 4294967296 % 4294967296 = B) (e2 : V % 4294967296 = A)
    (t1 : -4294967296 ≤ s + a - P) (t2 : s + a - P < 4294967296) (X9 : (bits .and .i64 (s + a - P) 1 != 0) = false)
    (a0 : 0 ≤ bits .and .i64 ((s + a - P) / 4096) 3) (a1 : bits .and .i64 ((s + a - P) / 4096) 3 ≤ 3)
    (d0 : 0 ≤ bits .and .i64 ((s + a - P) / 4096 / 4) 524287) (d1 : bits .and .i64 ((s + a - P) / 4096 / 4) 524287 ≤ 524287)
    (c0 : 0 ≤ bits .and .i64 (s + a - P) 4095) (c1 : bits .and .i64 (s + a - P) 4095 ≤ 4095)
    (hX : bits .or .u32 A (bits .or .u32 (bits .and .i64 ((s + a - P) / 4096) 3 * 536870912) (bits .and .i64 ((s + a - P) / 4096 / 4) 524287 * 32)) = X) (hY : bits .or .u32 B (bits .and .i64 (s + a - P) 4095 / 2 * 1024) = Y)
    (X0 : 0 ≤ X) (X1 : X < 4294967296) (Y0 : 0 ≤ Y) (Y1 : Y < 4294967296) (hO : bits .or .i64 (wrap64 (Y * 4294967296)) X = o) :
    Calls Try.prog 36 #[.int .i64 19, .bool false, .bool false, .bool false, .int .i64 s, .int .i64 a, .int .i64 p, .int .i64 V] w fun e w' => e = .returned (.tuple #[.int .i64 o, .int .i64 0, .bool true]) ∧ w = w' := by
  obtain ⟨hs1, hs2⟩ := hs
  obtain ⟨ha1, ha2⟩ := ha
  go_enter Try.func36, Try.ntmps36
  go_wp2
  go_ret3
  exact ⟨rfl, rfl⟩
set_option maxRecDepth 100000 in
set_option maxHeartbeats 1600000 in
theorem rel16_far (s a p V A B P : Int) (w : World) (hs : -2199023255552 ≤ s ∧ s < 2199023255552) (ha : -2199023255552 ≤ a ∧ a < 2199023255552)
    (hP : bits .andNot .i64 p 4095 = P) (P0 : -4398046511104 ≤ P) (P1 : P < 4398046511104) (ht : s + a - P < -4294967296 ∨ 4294967296 ≤ s + a - P) (X9 : (bits .and .i64 (s + a - P) 1 != 0) = false) :
    Calls Try.prog 36 #[.int .i64 19, .bool false, .bool false, .bool false, .int .i64 s, .int .i64 a, .int .i64 p, .int .i64 V] w fun e w' => (∃ o, e = .returned (.tuple #[.int .i64 o, .int .i64 1, .bool true])) ∧ w = w' := by
  obtain ⟨hs1, hs2⟩ := hs
  obtain ⟨ha1, ha2⟩ := ha
  rcases ht with ht | ht
  all_goals
    go_enter Try.func36, Try.ntmps36
    go_wp2
    go_ret3
    exact ⟨⟨_, rfl⟩, rfl⟩
set_option maxRecDepth 100000 in
set_option maxHeartbeats 1600000 in
theorem rel16_odd (s a p V A B P : Int) (w : World) (hs : -2199023255552 ≤ s ∧ s < 2199023255552) (ha : -2199023255552 ≤ a ∧ a < 2199023255552)
    (hP : bits .andNot .i64 p 4095 = P) (P0 : -4398046511104 ≤ P) (P1 : P < 4398046511104) (t1 : -4294967296 ≤ s + a - P) (t2 : s + a - P < 4294967296) (X9 : (bits .and .i64 (s + a - P) 1 != 0) = true) :
    Calls Try.prog 36 #[.int .i64 19, .bool false, .bool false, .bool false, .int .i64 s, .int .i64 a, .int .i64 p, .int .i64 V] w fun e w' => (∃ o, e = .returned (.tuple #[.int .i64 o, .int .i64 1, .bool true])) ∧ w = w' := by
  obtain ⟨hs1, hs2⟩ := hs
  obtain ⟨ha1, ha2⟩ := ha
  have tok : True := trivial
  all_goals
    go_enter Try.func36, Try.ntmps36
    go_wp2
    go_ret3
    exact ⟨⟨_, rfl⟩, rfl⟩
set_option maxRecDepth 100000 in
set_option maxHeartbeats 1600000 in
theorem rel16_both (s a p V A B P : Int) (w : World) (hs : -2199023255552 ≤ s ∧ s < 2199023255552) (ha : -2199023255552 ≤ a ∧ a < 2199023255552)
    (hP : bits .andNot .i64 p 4095 = P) (P0 : -4398046511104 ≤ P) (P1 : P < 4398046511104) (ht : s + a - P < -4294967296 ∨ 4294967296 ≤ s + a - P) (X9 : (bits .and .i64 (s + a - P) 1 != 0) = true) :
    Calls Try.prog 36 #[.int .i64 19, .bool false, .bool false, .bool false, .int .i64 s, .int .i64 a, .int .i64 p, .int .i64 V] w fun e w' => (∃ o, e = .returned (.tuple #[.int .i64 o, .int .i64 2, .bool true])) ∧ w = w' := by
  obtain ⟨hs1, hs2⟩ := hs
  obtain ⟨ha1, ha2⟩ := ha
  rcases ht with ht | ht
  all_goals
    go_enter Try.func36, Try.ntmps36
    go_wp2
    go_ret3
    exact ⟨⟨_, rfl⟩, rfl⟩
set_option maxRecDepth 100000 in
set_option maxHeartbeats 1600000 in
theorem rel32_in (s a p V A B P X Y o : Int) (w : World) (hs : -2199023255552 ≤ s ∧ s < 2199023255552) (ha : -2199023255552 ≤ a ∧ a < 2199023255552)
    (hP : bits .andNot .i64 p 4095 = P) (P0 : -4398046511104 ≤ P) (P1 : P < 4398046511104) (e1 : V / 4294967296 % 4294967296 = B) (e2 : V % 4294967296 = A)
    (t1 : -4294967296 ≤ s + a - P) (t2 : s + a - P < 4294967296) (X9 : (bits .and .i64 (s + a - P) 3 != 0) = false)
    (a0 : 0 ≤ bits .and .i64 ((s + a - P) / 4096) 3) (a1 : bits .and .i64 ((s + a - P) / 4096) 3 ≤ 3)
    (d0 : 0 ≤ bits .and .i64 ((s + a - P) / 4096 / 4) 524287) (d1 : bits .and .i64 ((s + a - P) / 4096 / 4) 524287 ≤ 524287)
    (c0 : 0 ≤ bits .and .i64 (s + a - P) 4095) (c1 : bits .and .i64 (s + a - P) 4095 ≤ 4095)
    (hX : bits .or .u32 A (bits .or .u32 (bits .and .i64 ((s + a - P) / 4096) 3 * 536870912) (bits .and .i64 ((s + a - P) / 4096 / 4) 524287 * 32)) = X) (hY : bits .or .u32 B (bits .and .i64 (s + a - P) 4095 / 4 * 1024) = Y)
    (X0 : 0 ≤ X) (X1 : X < 4294967296) (Y0 : 0 ≤ Y) (Y1 : Y < 4294967296) (hO : bits .or .i64 (wrap64 (Y * 4294967296)) X = o) :
    Calls Try.prog 36 #[.int .i64 20, .bool false, .bool false, .bool false, .int .i64 s, .int .i64 a, .int .i64 p, .int .i64 V] w fun e w' => e = .returned (.tuple #[.int .i64 o, .int .i64 0, .bool true]) ∧ w = w' := by
  obtain ⟨hs1, hs2⟩ := hs
  obtain ⟨ha1, ha2⟩ := ha
  go_enter Try.func36, Try.ntmps36
  go_wp2
  go_ret3
  exact ⟨rfl, rfl⟩
set_option maxRecDepth 100000 in
set_option maxHeartbeats 1600000 in
theorem rel32_far (s a p V A B P : Int) (w : World) (hs : -2199023255552 ≤ s ∧ s < 2199023255552) (ha : -2199023255552 ≤ a ∧ a < 2199023255552)
    (hP : bits .andNot .i64 p 4095 = P) (P0 : -4398046511104 ≤ P) (P1 : P < 4398046511104) (ht : s + a - P < -4294967296 ∨ 4294967296 ≤ s + a - P) (X9 : (bits .and .i64 (s + a - P) 3 != 0) = false) :
    Calls Try.prog 36 #[.int .i64 20, .bool false, .bool false, .bool false, .int .i64 s, .int .i64 a, .int .i64 p, .int .i64 V] w fun e w' => (∃ o, e = .returned (.tuple #[.int .i64 o, .int .i64 1, .bool true])) ∧ w = w' := by
  obtain ⟨hs1, hs2⟩ := hs
  obtain ⟨ha1, ha2⟩ := ha
  rcases ht with ht | ht
  all_goals
    go_enter Try.func36, Try.ntmps36
    go_wp2
    go_ret3
    exact ⟨⟨_, rfl⟩, rfl⟩
set_option maxRecDepth 100000 in
set_option maxHeartbeats 1600000 in
theorem rel32_odd (s a p V A B P : Int) (w : World) (hs : -2199023255552 ≤ s ∧ s < 2199023255552) (ha : -2199023255552 ≤ a ∧ a < 2199023255552)
    (hP : bits .andNot .i64 p 4095 = P) (P0 : -4398046511104 ≤ P) (P1 : P < 4398046511104) (t1 : -4294967296 ≤ s + a - P) (t2 : s + a - P < 4294967296) (X9 : (bits .and .i64 (s + a - P) 3 != 0) = true) :
    Calls Try.prog 36 #[.int .i64 20, .bool false, .bool false, .bool false, .int .i64 s, .int .i64 a, .int .i64 p, .int .i64 V] w fun e w' => (∃ o, e = .returned (.tuple #[.int .i64 o, .int .i64 1, .bool true])) ∧ w = w' := by
  obtain ⟨hs1, hs2⟩ := hs
  obtain ⟨ha1, ha2⟩ := ha
  have tok : True := trivial
  all_goals
    go_enter Try.func36, Try.ntmps36
    go_wp2
    go_ret3
    exact ⟨⟨_, rfl⟩, rfl⟩
set_option maxRecDepth 100000 in
set_option maxHeartbeats 1600000 in
theorem rel32_both (s a p V A B P : Int) (w : World) (hs : -2199023255552 ≤ s ∧ s < 2199023255552) (ha : -2199023255552 ≤ a ∧ a < 2199023255552)
    (hP : bits .andNot .i64 p 4095 = P) (P0 : -4398046511104 ≤ P) (P1 : P < 4398046511104) (ht : s + a - P < -4294967296 ∨ 4294967296 ≤ s + a - P) (X9 : (bits .and .i64 (s + a - P) 3 != 0) = true) :
    Calls Try.prog 36 #[.int .i64 20, .bool false, .bool false, .bool false, .int .i64 s, .int .i64 a, .int .i64 p, .int .i64 V] w fun e w' => (∃ o, e = .returned (.tuple #[.int .i64 o, .int .i64 2, .bool true])) ∧ w = w' := by
  obtain ⟨hs1, hs2⟩ := hs
  obtain ⟨ha1, ha2⟩ := ha
  rcases ht with ht | ht
  all_goals
    go_enter Try.func36, Try.ntmps36
    go_wp2
    go_ret3
    exact ⟨⟨_, rfl⟩, rfl⟩
set_option maxRecDepth 100000 in
set_option maxHeartbeats 1600000 in
theorem rel64_in (s a p V A B P X Y o : Int) (w : World) (hs : -2199023255552 ≤ s ∧ s < 2199023255552) (ha : -2199023255552 ≤ a ∧ a < 2199023255552)
    (hP : bits .andNot .i64 p 4095 = P) (P0 : -4398046511104 ≤ P) (P1 : P < 4398046511104) (e1 : V / 4294967296 % 4294967296 = B) (e2 : V % 4294967296 = A)
    (t1 : -4294967296 ≤ s + a - P) (t2 : s + a - P < 4294967296) (X9 : (bits .and .i64 (s + a - P) 7 != 0) = false)
    (a0 : 0 ≤ bits .and .i64 ((s + a - P) / 4096) 3) (a1 : bits .and .i64 ((s + a - P) / 4096) 3 ≤ 3)
    (d0 : 0 ≤ bits .and .i64 ((s + a - P) / 4096 / 4) 524287) (d1 : bits .and .i64 ((s + a - P) / 4096 / 4) 524287 ≤ 524287)
    (c0 : 0 ≤ bits .and .i64 (s + a - P) 4095) (c1 : bits .and .i64 (s + a - P) 4095 ≤ 4095)
    (hX : bits .or .u32 A (bits .or .u32 (bits .and .i64 ((s + a - P) / 4096) 3 * 536870912) (bits .and .i64 ((s + a - P) / 4096 / 4) 524287 * 32)) = X) (hY : bits .or .u32 B (bits .and .i64 (s + a - P) 4095 / 8 * 1024) = Y)
    (X0 : 0 ≤ X) (X1 : X < 4294967296) (Y0 : 0 ≤ Y) (Y1 : Y < 4294967296) (hO : bits .or .i64 (wrap64 (Y * 4294967296)) X = o) :
    Calls Try.prog 36 #[.int .i64 21, .bool false, .bool false, .bool false, .int .i64 s, .int .i64 a, .int .i64 p, .int .i64 V] w fun e w' => e = .returned (.tuple #[.int .i64 o, .int .i64 0, .bool true]) ∧ w = w' := by
  obtain ⟨hs1, hs2⟩ := hs
  obtain ⟨ha1, ha2⟩ := ha
  go_enter Try.func36, Try.ntmps36
  go_wp2
  go_ret3
  exact ⟨rfl, rfl⟩
set_option maxRecDepth 100000 in
set_option maxHeartbeats 1600000 in
theorem rel64_far (s a p V A B P : Int) (w : World) (hs : -2199023255552 ≤ s ∧ s < 2199023255552) (ha : -2199023255552 ≤ a ∧ a < 2199023255552)
    (hP : bits .andNot .i64 p 4095 = P) (P0 : -4398046511104 ≤ P) (P1 : P < 4398046511104) (ht : s + a - P < -4294967296 ∨ 4294967296 ≤ s + a - P) (X9 : (bits .and .i64 (s + a - P) 7 != 0) = false) :
    Calls Try.prog 36 #[.int .i64 21, .bool false, .bool false, .bool false, .int .i64 s, .int .i64 a, .int .i64 p, .int .i64 V] w fun e w' => (∃ o, e = .returned (.tuple #[.int .i64 o, .int .i64 1, .bool true])) ∧ w = w' := by
  obtain ⟨hs1, hs2⟩ := hs
  obtain ⟨ha1, ha2⟩ := ha
  rcases ht with ht | ht
  all_goals
    go_enter Try.func36, Try.ntmps36
    go_wp2
    go_ret3
    exact ⟨⟨_, rfl⟩, rfl⟩
set_option maxRecDepth 100000 in
set_option maxHeartbeats 1600000 in
theorem rel64_odd (s a p V A B P : Int) (w : World) (hs : -2199023255552 ≤ s ∧ s < 2199023255552) (ha : -2199023255552 ≤ a ∧ a < 2199023255552)
    (hP : bits .andNot .i64 p 4095 = P) (P0 : -4398046511104 ≤ P) (P1 : P < 4398046511104) (t1 : -4294967296 ≤ s + a - P) (t2 : s + a - P < 4294967296) (X9 : (bits .and .i64 (s + a - P) 7 != 0) = true) :
    Calls Try.prog 36 #[.int .i64 21, .bool false, .bool false, .bool false, .int .i64 s, .int .i64 a, .int .i64 p, .int .i64 V] w fun e w' => (∃ o, e = .returned (.tuple #[.int .i64 o, .int .i64 1, .bool true])) ∧ w = w' := by
  obtain ⟨hs1, hs2⟩ := hs
  obtain ⟨ha1, ha2⟩ := ha
  have tok : True := trivial
  all_goals
    go_enter Try.func36, Try.ntmps36
    go_wp2
    go_ret3
    exact ⟨⟨_, rfl⟩, rfl⟩
set_option maxRecDepth 100000 in
set_option maxHeartbeats 1600000 in
theorem rel64_both (s a p V A B P : Int) (w : World) (hs : -2199023255552 ≤ s ∧ s < 2199023255552) (ha : -2199023255552 ≤ a ∧ a < 2199023255552)
    (hP : bits .andNot .i64 p 4095 = P) (P0 : -4398046511104 ≤ P) (P1 : P < 4398046511104) (ht : s + a - P < -4294967296 ∨ 4294967296 ≤ s + a - P) (X9 : (bits .and .i64 (s + a - P) 7 != 0) = true) :
    Calls Try.prog 36 #[.int .i64 21, .bool false, .bool false, .bool false, .int .i64 s, .int .i64 a, .int .i64 p, .int .i64 V] w fun e w' => (∃ o, e = .returned (.tuple #[.int .i64 o, .int .i64 2, .bool true])) ∧ w = w' := by
  obtain ⟨hs1, hs2⟩ := hs
  obtain ⟨ha1, ha2⟩ := ha
  rcases ht with ht | ht
  all_goals
    go_enter Try.func36, Try.ntmps36
    go_wp2
    go_ret3
    exact ⟨⟨_, rfl⟩, rfl⟩
theorem impArm {rt s a p V o n : Int} {g b : Bool} {w : World} (c : Calls Try.prog 36 #[.int .i64 rt, .bool g, .bool false, .bool false, .int .i64 s, .int .i64 a, .int .i64 p, .int .i64 V] w fun e w' => e = .returned (.tuple #[.int .i64 o, .int .i64 n, .bool b]) ∧ w = w') :
    Calls Try.prog 26 #[.int .i64 rt, .bool g, .bool false, .bool false, .int .i64 s, .int .i64 a, .int .i64 p, .int .i64 V] w fun e w' => e = .returned (.tuple #[.int .i64 o, .int .i64 n, .bool b]) ∧ w = w' := by
  go_enter Try.func26, Try.ntmps26
  go_wp2_with (go_at_call 36; ((with_reducible refine c.mono ?_); rintro e w' ⟨rfl, rfl⟩))
  go_ret3
  exact ⟨rfl, rfl⟩
theorem impArm_bad {rt s a p V n : Int} {g b : Bool} {w : World} (c : Calls Try.prog 36 #[.int .i64 rt, .bool g, .bool false, .bool false, .int .i64 s, .int .i64 a, .int .i64 p, .int .i64 V] w fun e w' => (∃ o, e = .returned (.tuple #[.int .i64 o, .int .i64 n, .bool b])) ∧ w = w') :
    Calls Try.prog 26 #[.int .i64 rt, .bool g, .bool false, .bool false, .int .i64 s, .int .i64 a, .int .i64 p, .int .i64 V] w fun e w' => (∃ o, e = .returned (.tuple #[.int .i64 o, .int .i64 n, .bool b])) ∧ w = w' := by
  go_enter Try.func26, Try.ntmps26
  go_wp2_with (go_at_call 36; ((with_reducible refine c.mono ?_); rintro e w' ⟨⟨o, rfl⟩, rfl⟩))
  go_ret3
  exact ⟨⟨_, rfl⟩, rfl⟩
end Go.Proofs.Ytcchhdjpmnhfmaa.Wk
