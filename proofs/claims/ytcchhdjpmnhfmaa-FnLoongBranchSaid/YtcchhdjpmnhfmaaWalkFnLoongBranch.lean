/- The law FnLoongBranch returns true: branches of LoongArch with 26, 21 and 16 bits go from their own place to the symbol with the addend if that is near enough, else an error is told: for numbers of 42 bits with their sign whose distance is a multiple of 4 and an instruction of 32 bits (the statement's own guard; its field is made nought by the statement). -/
import Derived.Test.YtcchhdjpmnhfmaaLoongImp
namespace Go.Proofs.Ytcchhdjpmnhfmaa.Wk
set_option linter.unusedVariables false
open Go.RowKit Go.Proofs.Ytcchhdjpmnhfmaa.Aid
theorem low16 (x : Int) : bits .and .i64 x 65535 = x % 65536 := seg64 16 _ _ (by decide) (by decide)
/-- What stands in an instruction whose field is nought. -/
def K0 (y : Int) : Prop := ∃ q : Int, 0 ≤ q ∧ q < 64 ∧ y = q * 67108864
def K1 (y : Int) : Prop := ∃ q l : Int, 0 ≤ q ∧ q < 64 ∧ 0 ≤ l ∧ l < 32 ∧ y = q * 67108864 + l * 32
def K2 (y : Int) : Prop := ∃ q l : Int, 0 ≤ q ∧ q < 64 ∧ 0 ≤ l ∧ l < 1024 ∧ y = q * 67108864 + l
theorem cut0 (v : Int) (h0 : 0 ≤ v) (h1 : v < 4294967296) : K0 (bits .andNot .i64 v 67108863) := by
  refine ⟨v / 67108864, by omega, by omega, ?_⟩
  rw [andNot_eq, seg64 26 _ _ (by decide) (by decide), wrap_i64, w64 (by omega) (by omega)]; omega
theorem m21 (x : Int) : bits .and .i64 x 67107871 = x / 1024 % 65536 * 1024 + x % 32 := by
  rw [show (67107871 : Int) = 67107840 + 31 from rfl, and_split .i64 5 _ (by decide) (by decide) (by decide) (by decide) (by decide), seg64 5 _ 31 (by decide) (by decide), and_seg .i64 10 16 (m := 67107840) _ (by decide) (by decide) (by decide)]
  rfl
theorem m16 (x : Int) : bits .and .i64 x 67107840 = x / 1024 % 65536 * 1024 := by
  rw [and_seg .i64 10 16 (m := 67107840) _ (by decide) (by decide) (by decide)]; rfl
theorem cut1 (v : Int) (h0 : 0 ≤ v) (h1 : v < 4294967296) : K1 (bits .andNot .i64 v 67107871) := by
  obtain ⟨q, m, l, k, bq, bm, bl, bk, rfl⟩ : ∃ q m l k : Int, (0 ≤ q ∧ q < 64) ∧ (0 ≤ m ∧ m < 65536) ∧ (0 ≤ l ∧ l < 32) ∧ (0 ≤ k ∧ k < 32) ∧ v = q * 67108864 + m * 1024 + l * 32 + k :=
    ⟨v / 67108864, v / 1024 % 65536, v / 32 % 32, v % 32, by omega, by omega, by omega, by omega, by omega⟩
  refine ⟨q, l, by omega, by omega, by omega, by omega, ?_⟩
  have f1 : (q * 67108864 + m * 1024 + l * 32 + k) / 1024 % 65536 = m := by omega
  have f2 : (q * 67108864 + m * 1024 + l * 32 + k) % 32 = k := by omega
  rw [andNot_eq, m21, f1, f2, wrap_i64, w64 (by omega) (by omega)]; omega
theorem cut2 (v : Int) (h0 : 0 ≤ v) (h1 : v < 4294967296) : K2 (bits .andNot .i64 v 67107840) := by
  refine ⟨v / 67108864, v % 1024, by omega, by omega, by omega, by omega, ?_⟩
  rw [andNot_eq, m16, wrap_i64, w64 (by omega) (by omega)]; omega
theorem K0_in {y : Int} (h : K0 y) : 0 ≤ y ∧ y < 4294967296 := by obtain ⟨q, _, _, rfl⟩ := h; omega
theorem K1_in {y : Int} (h : K1 y) : 0 ≤ y ∧ y < 4294967296 := by obtain ⟨q, l, _, _, _, _, rfl⟩ := h; omega
theorem K2_in {y : Int} (h : K2 y) : 0 ≤ y ∧ y < 4294967296 := by obtain ⟨q, l, _, _, _, _, rfl⟩ := h; omega
theorem keep0 (y : Int) (h : K0 y) : bits .and .i64 y 4227858432 = y := by
  obtain ⟨q, _, _, rfl⟩ := h
  rw [and_seg .i64 26 6 (m := 4227858432) _ (by decide) (by decide) (by decide)]; omega
theorem keep1 (y : Int) (h : K1 y) : bits .and .i64 y 4227859424 = y := by
  obtain ⟨q, l, _, _, _, _, rfl⟩ := h
  rw [show (4227859424 : Int) = 4227858432 + 992 from rfl, and_split .i64 26 _ (by decide) (by decide) (by decide) (by decide) (by decide), and_seg .i64 26 6 (m := 4227858432) _ (by decide) (by decide) (by decide), and_seg .i64 5 5 (m := 992) _ (by decide) (by decide) (by decide)]
  have f1 : (q * 67108864 + l * 32) / 2 ^ 26 % 2 ^ 6 = q := by omega
  have f2 : (q * 67108864 + l * 32) / 2 ^ 5 % 2 ^ 5 = l := by omega
  rw [f1, f2]; omega
theorem keep2 (y : Int) (h : K2 y) : bits .and .i64 y 4227859455 = y := by
  obtain ⟨q, l, _, _, _, _, rfl⟩ := h
  rw [show (4227859455 : Int) = 4227858432 + 1023 from rfl, and_split .i64 26 _ (by decide) (by decide) (by decide) (by decide) (by decide), and_seg .i64 26 6 (m := 4227858432) _ (by decide) (by decide) (by decide), seg64 10 _ 1023 (by decide) (by decide)]
  have f1 : (q * 67108864 + l) / 2 ^ 26 % 2 ^ 6 = q := by omega
  have f2 : (q * 67108864 + l) % 2 ^ 10 = l := by omega
  rw [f1, f2]
  rfl
theorem h26 (x : Int) : bits .and .i64 x 67043328 / 65536 = x / 65536 % 1024 := by
  rw [and_seg .i64 16 10 (m := 67043328) _ (by decide) (by decide) (by decide)]; omega
theorem h21 (x : Int) : bits .and .i64 x 2031616 / 65536 = x / 65536 % 32 := by
  rw [and_seg .i64 16 5 (m := 2031616) _ (by decide) (by decide) (by decide)]; omega
theorem put0 (y u : Int) (h : K0 y) : bits .or .i64 (bits .or .i64 (bits .and .i64 y 4227858432) (bits .and .i64 u 65535 * 1024)) (bits .and .i64 u 67043328 / 65536) = y + u % 65536 * 1024 + u / 65536 % 1024 := by
  rw [keep0 y h, h26, low16]
  obtain ⟨q, _, _, rfl⟩ := h
  rw [or_mid .i64 10 26 (x := q * 67108864) (y := u % 65536 * 1024) (by omega) (by omega) (by omega) (by omega) (by decide) (by decide), wrap_i64, w64 (by omega) (by omega), or_mid .i64 0 10 (by omega) (by omega) (by omega) (by omega) (by decide) (by decide), wrap_i64, w64 (by omega) (by omega)]
theorem put1 (y u : Int) (h : K1 y) : bits .or .i64 (bits .or .i64 (bits .and .i64 y 4227859424) (bits .and .i64 u 65535 * 1024)) (bits .and .i64 u 2031616 / 65536) = y + u % 65536 * 1024 + u / 65536 % 32 := by
  rw [keep1 y h, h21, low16]
  obtain ⟨q, l, _, _, _, _, rfl⟩ := h
  rw [or_mid .i64 10 26 (x := q * 67108864 + l * 32) (y := u % 65536 * 1024) (by omega) (by omega) (by omega) (by omega) (by decide) (by decide), wrap_i64, w64 (by omega) (by omega), or_mid .i64 0 5 (by omega) (by omega) (by omega) (by omega) (by decide) (by decide), wrap_i64, w64 (by omega) (by omega)]
theorem put2 (y u : Int) (h : K2 y) : bits .or .i64 (bits .and .i64 y 4227859455) (bits .and .i64 u 65535 * 1024) = y + u % 65536 * 1024 := by
  rw [keep2 y h, low16]
  obtain ⟨q, l, _, _, _, _, rfl⟩ := h
  rw [or_mid .i64 10 26 (by omega) (by omega) (by omega) (by omega) (by decide) (by decide), wrap_i64, w64 (by omega) (by omega)]
theorem sx_in (n : Nat) (x : Int) : -2 ^ (n - 1) ≤ sx n x ∧ sx n x < 2 ^ n - 2 ^ (n - 1) := by
  have p := pow_pos' n
  have l := Int.emod_nonneg (x + 2 ^ (n - 1)) (Int.ne_of_gt p)
  have u := Int.emod_lt_of_pos (x + 2 ^ (n - 1)) p
  unfold sx; omega
theorem digits (u : Int) : 0 ≤ u % 65536 ∧ u % 65536 < 65536 := by omega
theorem back0 (y u : Int) (h : K0 y) (h1 : -33554432 ≤ u) (h2 : u < 33554432) : sx 26 ((y + u % 65536 * 1024 + u / 65536 % 1024) % 1024 * 65536 + (y + u % 65536 * 1024 + u / 65536 % 1024) / 1024 % 65536) = u := by
  obtain ⟨q, q0, q1, rfl⟩ := h
  have h : ∀ m k : Int, 0 ≤ m ∧ m < 65536 → 0 ≤ k ∧ k < 1024 → (q * 67108864 + m * 1024 + k) % 1024 * 65536 + (q * 67108864 + m * 1024 + k) / 1024 % 65536 = k * 65536 + m := by intro m k hm hk; omega
  rw [h _ _ (digits u) (by omega)]; simp only [sx]; omega
theorem back1 (y u : Int) (h : K1 y) (h1 : -1048576 ≤ u) (h2 : u < 1048576) : sx 21 ((y + u % 65536 * 1024 + u / 65536 % 32) % 32 * 65536 + (y + u % 65536 * 1024 + u / 65536 % 32) / 1024 % 65536) = u := by
  obtain ⟨q, l, q0, q1, l0, l1, rfl⟩ := h
  have h : ∀ m k : Int, 0 ≤ m ∧ m < 65536 → 0 ≤ k ∧ k < 32 → (q * 67108864 + l * 32 + m * 1024 + k) % 32 * 65536 + (q * 67108864 + l * 32 + m * 1024 + k) / 1024 % 65536 = k * 65536 + m := by intro m k hm hk; omega
  rw [h _ _ (digits u) (by omega)]; simp only [sx]; omega
theorem back2 (y u : Int) (h : K2 y) (h1 : -32768 ≤ u) (h2 : u < 32768) : sx 16 ((y + u % 65536 * 1024) / 1024 % 65536) = u := by
  obtain ⟨q, l, q0, q1, l0, l1, rfl⟩ := h
  have h : ∀ m : Int, 0 ≤ m ∧ m < 65536 → (q * 67108864 + l + m * 1024) / 1024 % 65536 = m := by intro m hm; omega
  rw [h _ (digits u)]; simp only [sx]; omega
theorem stay0 (y u : Int) (h : K0 y) : (bits .andNot .i64 (y + u % 65536 * 1024 + u / 65536 % 1024) 67108863 == y) = true := by
  obtain ⟨q, q0, q1, rfl⟩ := h
  rw [andNot_eq, seg64 26 _ _ (by decide) (by decide), wrap_i64, beq_iff_eq]
  have h : ∀ m k : Int, 0 ≤ m ∧ m < 65536 → 0 ≤ k ∧ k < 1024 → wrap64 (q * 67108864 + m * 1024 + k - (q * 67108864 + m * 1024 + k) % 2 ^ 26) = q * 67108864 := by intro m k hm hk; rw [w64 (by omega) (by omega)]; omega
  exact h _ _ (digits u) (by omega)
theorem stay1 (y u : Int) (h : K1 y) : (bits .andNot .i64 (y + u % 65536 * 1024 + u / 65536 % 32) 67107871 == y) = true := by
  obtain ⟨q, l, q0, q1, l0, l1, rfl⟩ := h
  rw [andNot_eq, m21, wrap_i64, beq_iff_eq]
  have h : ∀ m k : Int, 0 ≤ m ∧ m < 65536 → 0 ≤ k ∧ k < 32 → wrap64 (q * 67108864 + l * 32 + m * 1024 + k - ((q * 67108864 + l * 32 + m * 1024 + k) / 1024 % 65536 * 1024 + (q * 67108864 + l * 32 + m * 1024 + k) % 32)) = q * 67108864 + l * 32 := by
    intro m k hm hk
    have f1 : (q * 67108864 + l * 32 + m * 1024 + k) / 1024 % 65536 = m := by omega
    have f2 : (q * 67108864 + l * 32 + m * 1024 + k) % 32 = k := by omega
    rw [f1, f2, w64 (by omega) (by omega)]; omega
  exact h _ _ (digits u) (by omega)
theorem stay2 (y u : Int) (h : K2 y) : (bits .andNot .i64 (y + u % 65536 * 1024) 67107840 == y) = true := by
  obtain ⟨q, l, q0, q1, l0, l1, rfl⟩ := h
  rw [andNot_eq, m16, wrap_i64, beq_iff_eq]
  have h : ∀ m : Int, 0 ≤ m ∧ m < 65536 → wrap64 (q * 67108864 + l + m * 1024 - (q * 67108864 + l + m * 1024) / 1024 % 65536 * 1024) = q * 67108864 + l := by intro m hm; rw [w64 (by omega) (by omega)]; omega
  exact h _ (digits u)
theorem room (y u : Int) (h : K0 y ∨ K1 y ∨ K2 y) : 0 ≤ y + u % 65536 * 1024 ∧ y + u % 65536 * 1024 < 4294967296 - 1024 + 1024 := by
  rcases h with ⟨q, _, _, rfl⟩ | ⟨q, l, _, _, _, _, rfl⟩ | ⟨q, l, _, _, _, _, rfl⟩ <;> omega
theorem room0 (y u : Int) (h : K0 y) : 0 ≤ y + u % 65536 * 1024 + u / 65536 % 1024 ∧ y + u % 65536 * 1024 + u / 65536 % 1024 < 4294967296 := by obtain ⟨q, _, _, rfl⟩ := h; omega
theorem room1 (y u : Int) (h : K1 y) : 0 ≤ y + u % 65536 * 1024 + u / 65536 % 32 ∧ y + u % 65536 * 1024 + u / 65536 % 32 < 4294967296 := by obtain ⟨q, l, _, _, _, _, rfl⟩ := h; omega
theorem room2 (y u : Int) (h : K2 y) : 0 ≤ y + u % 65536 * 1024 ∧ y + u % 65536 * 1024 < 4294967296 := by obtain ⟨q, l, _, _, _, _, rfl⟩ := h; omega
theorem i25 (x y z : Int) : (∀ w, (Instr.index 25 (.agg #[.int .i64 x, .int .i64 y, .int .i64 z]) (.int .i64 0)).run Try.prog w = .ok (.int .i64 x) w) ∧ (∀ w, (Instr.index 25 (.agg #[.int .i64 x, .int .i64 y, .int .i64 z]) (.int .i64 1)).run Try.prog w = .ok (.int .i64 y) w) ∧ (∀ w, (Instr.index 25 (.agg #[.int .i64 x, .int .i64 y, .int .i64 z]) (.int .i64 2)).run Try.prog w = .ok (.int .i64 z) w) :=
  ⟨fun _ => by kernel_rfl, fun _ => by kernel_rfl, fun _ => by kernel_rfl⟩
theorem i26 (x y z : Int) : (∀ w, (Instr.index 26 (.agg #[.int .i64 x, .int .i64 y, .int .i64 z]) (.int .i64 0)).run Try.prog w = .ok (.int .i64 x) w) ∧ (∀ w, (Instr.index 26 (.agg #[.int .i64 x, .int .i64 y, .int .i64 z]) (.int .i64 1)).run Try.prog w = .ok (.int .i64 y) w) ∧ (∀ w, (Instr.index 26 (.agg #[.int .i64 x, .int .i64 y, .int .i64 z]) (.int .i64 2)).run Try.prog w = .ok (.int .i64 z) w) :=
  ⟨fun _ => by kernel_rfl, fun _ => by kernel_rfl, fun _ => by kernel_rfl⟩
set_option maxRecDepth 100000 in
set_option maxHeartbeats 1600000 in
theorem rel0_in (s a p y o : Int) (w : World) (hs : -2199023255552 ≤ s ∧ s < 2199023255552) (ha : -2199023255552 ≤ a ∧ a < 2199023255552) (hp : -2199023255552 ≤ p ∧ p < 2199023255552)
    (t1 : -134217728 ≤ s + a - p) (t2 : s + a - p ≤ 134217727) (b0 : 0 ≤ bits .and .i64 ((s + a - p) / 4) 65535) (b1 : bits .and .i64 ((s + a - p) / 4) 65535 ≤ 65535) (hO : bits .or .i64 (bits .or .i64 (bits .and .i64 y 4227858432) (bits .and .i64 ((s + a - p) / 4) 65535 * 1024)) (bits .and .i64 ((s + a - p) / 4) 67043328 / 65536) = o) :
    Calls Try.prog 30 #[.int .i64 27, .int .i64 s, .int .i64 a, .int .i64 p, .int .i64 y] w fun e w' => e = .returned (.tuple #[.int .i64 o, .int .i64 0, .bool true]) ∧ w = w' := by
  obtain ⟨hs1, hs2⟩ := hs
  obtain ⟨ha1, ha2⟩ := ha
  obtain ⟨hp1, hp2⟩ := hp
  go_enter Try.func30, Try.ntmps30
  go_wp2
  go_ret3
  exact ⟨rfl, rfl⟩
set_option maxRecDepth 100000 in
set_option maxHeartbeats 1600000 in
theorem rel0_bad (s a p y : Int) (w : World) (hs : -2199023255552 ≤ s ∧ s < 2199023255552) (ha : -2199023255552 ≤ a ∧ a < 2199023255552) (hp : -2199023255552 ≤ p ∧ p < 2199023255552)
    (ht : s + a - p < -134217728 ∨ 134217727 < s + a - p) :
    Calls Try.prog 30 #[.int .i64 27, .int .i64 s, .int .i64 a, .int .i64 p, .int .i64 y] w fun e w' => (∃ o, e = .returned (.tuple #[.int .i64 o, .int .i64 1, .bool true])) ∧ w = w' := by
  obtain ⟨hs1, hs2⟩ := hs
  obtain ⟨ha1, ha2⟩ := ha
  obtain ⟨hp1, hp2⟩ := hp
  rcases ht with ht | ht
  all_goals
    go_enter Try.func30, Try.ntmps30
    go_wp2
    go_ret3
    exact ⟨⟨_, rfl⟩, rfl⟩
set_option maxHeartbeats 1600000 in
theorem go0_in (kind s a p v y o : Int) (w : World) (hk : kind % 3 = 0) (k0 : 0 ≤ kind) (k1 : kind ≤ 255) (hs : sx 42 s = s) (ha : sx 42 a = a) (hp : sx 42 p = p) (v0 : 0 ≤ v) (v1 : v < 4294967296) (hm : bits .and .u32 v 0 = 0)
    (t1 : -134217728 ≤ s + a - p) (t2 : s + a - p ≤ 134217727) (t3 : (s + a - p) % 4 = 0) (hy : bits .andNot .i64 v 67108863 = y)
    (c : ∀ W : World, Calls Try.prog 14 #[.int .i64 27, .int .i64 s, .int .i64 a, .int .i64 p, .int .i64 y] W fun e w' => e = .returned (.tuple #[.int .i64 o, .int .i64 0, .bool true]) ∧ W = w')
    (o0 : 0 ≤ o) (o1 : o < 4294967296) (hr : sx 26 (o % 1024 * 65536 + o / 1024 % 65536) = (s + a - p) / 4) (X5 : ((s + a - p) / 4 * 4 == s + a - p) = true) (X7 : (bits .andNot .i64 o 67108863 == y) = true) :
    Calls Try.prog 3 #[.int .u8 kind, .int .i64 s, .int .i64 a, .int .i64 p, .int .i64 v] w fun e w' => e = .returned (.bool true) ∧ Ext w w' := by
  have n1 := fun W => near3 s a p true W (by simp [hs, ha, hp])
  have n2 := fun W => word_yes v 0 W v0 v1 hm
  obtain ⟨hs1, hs2⟩ := sx42 hs
  obtain ⟨ha1, ha2⟩ := sx42 ha
  obtain ⟨hp1, hp2⟩ := sx42 hp
  have n3 := fun W => fits_as (s + a - p) 28 true W (by decide) (by decide) (fits_yes 28 _ (by omega) (by decide))
  have X4 := tmod_yes _ t3
  have r0 := fun W => rdLoong26 o _ W o0 o1 hr
  have r1 := fun W => rdLoong21 o _ W o0 o1 rfl
  have r2 := fun W => rdLoong16 o _ W o0 o1 rfl
  have z1 := sx_in 21 ((o % 32 * 65536 + o / 1024 % 65536))
  have z2 := sx_in 16 ((o / 1024 % 65536))
  obtain ⟨ia, ib, ic⟩ := i25 27 31 30
  obtain ⟨ja, jb, jc⟩ := i26 67108863 67107871 67107840
  obtain ⟨ka, kb, kc⟩ := i25 28 23 18
  obtain ⟨la, lb, lc⟩ := i26 ((s + a - p) / 4 * 4) (sx 21 (o % 32 * 65536 + o / 1024 % 65536) * 4) (sx 16 (o / 1024 % 65536) * 4)
  clear hs ha hp t3 hr hm
  go_enter Try.func3, Try.ntmps3
  go_wp2_with (first | (go_at_call 12; ((with_reducible refine (n1 _).mono ?_); rintro e w' ⟨rfl, rfl⟩)) | (go_at_call 13; ((with_reducible refine (n2 _).mono ?_); rintro e w' ⟨rfl, rfl⟩)) | (go_at_call 14; ((with_reducible refine (c _).mono ?_); rintro e w' ⟨rfl, rfl⟩)) | (go_at_call 15; ((with_reducible refine (n3 _).mono ?_); rintro e w' ⟨rfl, rfl⟩)) | (go_at_call 16; ((with_reducible refine (r0 _).mono ?_); rintro e w' ⟨rfl, nq, rfl⟩)) | (go_at_call 17; ((with_reducible refine (r1 _).mono ?_); rintro e w' ⟨rfl, nq, rfl⟩)) | (go_at_call 18; ((with_reducible refine (r2 _).mono ?_); rintro e w' ⟨rfl, nq, rfl⟩)))
  go_ret
  exact ⟨rfl, by repeat (first | exact Ext.refl _ | apply Ext.drewN | apply Ext.alloc)⟩
theorem law0_in (kind s a p v : Int) (w : World) (hk : kind % 3 = 0) (k0 : 0 ≤ kind) (k1 : kind ≤ 255) (hs : sx 42 s = s) (ha : sx 42 a = a) (hp : sx 42 p = p) (v0 : 0 ≤ v) (v1 : v < 4294967296) (hm : bits .and .u32 v 0 = 0)
    (t1 : -134217728 ≤ s + a - p) (t2 : s + a - p ≤ 134217727) (t3 : (s + a - p) % 4 = 0) :
    Calls Try.prog 3 #[.int .u8 kind, .int .i64 s, .int .i64 a, .int .i64 p, .int .i64 v] w fun e w' => e = .returned (.bool true) ∧ Ext w w' := by
  have hK := cut0 v v0 v1
  obtain ⟨y, hy⟩ : ∃ y, bits .andNot .i64 v 67108863 = y := ⟨_, rfl⟩
  rw [hy] at hK
  have q := low16 ((s + a - p) / 4)
  have b := room0 y ((s + a - p) / 4) hK
  exact go0_in kind s a p v y _ w hk k0 k1 hs ha hp v0 v1 hm t1 t2 t3 hy (fun W => impLoong (rel0_in s a p y _ W (sx42 hs) (sx42 ha) (sx42 hp) t1 t2 (by omega) (by omega) (put0 y ((s + a - p) / 4) hK))) b.1 b.2 (back0 y ((s + a - p) / 4) hK (by omega) (by omega)) (by rw [beq_iff_eq]; omega) (stay0 y ((s + a - p) / 4) hK)
set_option maxHeartbeats 1600000 in
theorem law0_far (kind s a p v : Int) (w : World) (hk : kind % 3 = 0) (k0 : 0 ≤ kind) (k1 : kind ≤ 255) (hs : sx 42 s = s) (ha : sx 42 a = a) (hp : sx 42 p = p) (v0 : 0 ≤ v) (v1 : v < 4294967296) (hm : bits .and .u32 v 0 = 0)
    (ht : s + a - p < -134217728 ∨ 134217727 < s + a - p) (t3 : (s + a - p) % 4 = 0) :
    Calls Try.prog 3 #[.int .u8 kind, .int .i64 s, .int .i64 a, .int .i64 p, .int .i64 v] w fun e w' => e = .returned (.bool true) ∧ Ext w w' := by
  have n1 := fun W => near3 s a p true W (by simp [hs, ha, hp])
  have n2 := fun W => word_yes v 0 W v0 v1 hm
  have c := fun y W => impLoong_bad (rel0_bad s a p y W (sx42 hs) (sx42 ha) (sx42 hp) ht)
  obtain ⟨hs1, hs2⟩ := sx42 hs
  obtain ⟨ha1, ha2⟩ := sx42 ha
  obtain ⟨hp1, hp2⟩ := sx42 hp
  have n3 := fun W => fits_as (s + a - p) 28 false W (by decide) (by decide) (fits_no 28 _ (by omega))
  have X4 := tmod_yes _ t3
  obtain ⟨ia, ib, ic⟩ := i25 27 31 30
  obtain ⟨ja, jb, jc⟩ := i26 67108863 67107871 67107840
  obtain ⟨ka, kb, kc⟩ := i25 28 23 18
  clear hs ha hp t3 ht hm
  go_enter Try.func3, Try.ntmps3
  go_wp2_with (first | (go_at_call 12; ((with_reducible refine (n1 _).mono ?_); rintro e w' ⟨rfl, rfl⟩)) | (go_at_call 13; ((with_reducible refine (n2 _).mono ?_); rintro e w' ⟨rfl, rfl⟩)) | (go_at_call 14; ((with_reducible refine (c _ _).mono ?_); rintro e w' ⟨⟨o, rfl⟩, rfl⟩)) | (go_at_call 15; ((with_reducible refine (n3 _).mono ?_); rintro e w' ⟨rfl, rfl⟩)))
  go_ret
  exact ⟨rfl, by repeat (first | exact Ext.refl _ | apply Ext.drewN | apply Ext.alloc)⟩
set_option maxRecDepth 100000 in
set_option maxHeartbeats 1600000 in
theorem rel1_in (s a p y o : Int) (w : World) (hs : -2199023255552 ≤ s ∧ s < 2199023255552) (ha : -2199023255552 ≤ a ∧ a < 2199023255552) (hp : -2199023255552 ≤ p ∧ p < 2199023255552)
    (t1 : -4194304 ≤ s + a - p) (t2 : s + a - p ≤ 4194303) (b0 : 0 ≤ bits .and .i64 ((s + a - p) / 4) 65535) (b1 : bits .and .i64 ((s + a - p) / 4) 65535 ≤ 65535) (hO : bits .or .i64 (bits .or .i64 (bits .and .i64 y 4227859424) (bits .and .i64 ((s + a - p) / 4) 65535 * 1024)) (bits .and .i64 ((s + a - p) / 4) 2031616 / 65536) = o) :
    Calls Try.prog 30 #[.int .i64 31, .int .i64 s, .int .i64 a, .int .i64 p, .int .i64 y] w fun e w' => e = .returned (.tuple #[.int .i64 o, .int .i64 0, .bool true]) ∧ w = w' := by
  obtain ⟨hs1, hs2⟩ := hs
  obtain ⟨ha1, ha2⟩ := ha
  obtain ⟨hp1, hp2⟩ := hp
  go_enter Try.func30, Try.ntmps30
  go_wp2
  go_ret3
  exact ⟨rfl, rfl⟩
set_option maxRecDepth 100000 in
set_option maxHeartbeats 1600000 in
theorem rel1_bad (s a p y : Int) (w : World) (hs : -2199023255552 ≤ s ∧ s < 2199023255552) (ha : -2199023255552 ≤ a ∧ a < 2199023255552) (hp : -2199023255552 ≤ p ∧ p < 2199023255552)
    (ht : s + a - p < -4194304 ∨ 4194303 < s + a - p) :
    Calls Try.prog 30 #[.int .i64 31, .int .i64 s, .int .i64 a, .int .i64 p, .int .i64 y] w fun e w' => (∃ o, e = .returned (.tuple #[.int .i64 o, .int .i64 1, .bool true])) ∧ w = w' := by
  obtain ⟨hs1, hs2⟩ := hs
  obtain ⟨ha1, ha2⟩ := ha
  obtain ⟨hp1, hp2⟩ := hp
  rcases ht with ht | ht
  all_goals
    go_enter Try.func30, Try.ntmps30
    go_wp2
    go_ret3
    exact ⟨⟨_, rfl⟩, rfl⟩
set_option maxHeartbeats 1600000 in
theorem go1_in (kind s a p v y o : Int) (w : World) (hk : kind % 3 = 1) (k0 : 0 ≤ kind) (k1 : kind ≤ 255) (hs : sx 42 s = s) (ha : sx 42 a = a) (hp : sx 42 p = p) (v0 : 0 ≤ v) (v1 : v < 4294967296) (hm : bits .and .u32 v 0 = 0)
    (t1 : -4194304 ≤ s + a - p) (t2 : s + a - p ≤ 4194303) (t3 : (s + a - p) % 4 = 0) (hy : bits .andNot .i64 v 67107871 = y)
    (c : ∀ W : World, Calls Try.prog 14 #[.int .i64 31, .int .i64 s, .int .i64 a, .int .i64 p, .int .i64 y] W fun e w' => e = .returned (.tuple #[.int .i64 o, .int .i64 0, .bool true]) ∧ W = w')
    (o0 : 0 ≤ o) (o1 : o < 4294967296) (hr : sx 21 (o % 32 * 65536 + o / 1024 % 65536) = (s + a - p) / 4) (X5 : ((s + a - p) / 4 * 4 == s + a - p) = true) (X7 : (bits .andNot .i64 o 67107871 == y) = true) :
    Calls Try.prog 3 #[.int .u8 kind, .int .i64 s, .int .i64 a, .int .i64 p, .int .i64 v] w fun e w' => e = .returned (.bool true) ∧ Ext w w' := by
  have n1 := fun W => near3 s a p true W (by simp [hs, ha, hp])
  have n2 := fun W => word_yes v 0 W v0 v1 hm
  obtain ⟨hs1, hs2⟩ := sx42 hs
  obtain ⟨ha1, ha2⟩ := sx42 ha
  obtain ⟨hp1, hp2⟩ := sx42 hp
  have n3 := fun W => fits_as (s + a - p) 23 true W (by decide) (by decide) (fits_yes 23 _ (by omega) (by decide))
  have X4 := tmod_yes _ t3
  have r0 := fun W => rdLoong26 o _ W o0 o1 rfl
  have r1 := fun W => rdLoong21 o _ W o0 o1 hr
  have r2 := fun W => rdLoong16 o _ W o0 o1 rfl
  have z0 := sx_in 26 ((o % 1024 * 65536 + o / 1024 % 65536))
  have z2 := sx_in 16 ((o / 1024 % 65536))
  obtain ⟨ia, ib, ic⟩ := i25 27 31 30
  obtain ⟨ja, jb, jc⟩ := i26 67108863 67107871 67107840
  obtain ⟨ka, kb, kc⟩ := i25 28 23 18
  obtain ⟨la, lb, lc⟩ := i26 (sx 26 (o % 1024 * 65536 + o / 1024 % 65536) * 4) ((s + a - p) / 4 * 4) (sx 16 (o / 1024 % 65536) * 4)
  clear hs ha hp t3 hr hm
  go_enter Try.func3, Try.ntmps3
  go_wp2_with (first | (go_at_call 12; ((with_reducible refine (n1 _).mono ?_); rintro e w' ⟨rfl, rfl⟩)) | (go_at_call 13; ((with_reducible refine (n2 _).mono ?_); rintro e w' ⟨rfl, rfl⟩)) | (go_at_call 14; ((with_reducible refine (c _).mono ?_); rintro e w' ⟨rfl, rfl⟩)) | (go_at_call 15; ((with_reducible refine (n3 _).mono ?_); rintro e w' ⟨rfl, rfl⟩)) | (go_at_call 16; ((with_reducible refine (r0 _).mono ?_); rintro e w' ⟨rfl, nq, rfl⟩)) | (go_at_call 17; ((with_reducible refine (r1 _).mono ?_); rintro e w' ⟨rfl, nq, rfl⟩)) | (go_at_call 18; ((with_reducible refine (r2 _).mono ?_); rintro e w' ⟨rfl, nq, rfl⟩)))
  go_ret
  exact ⟨rfl, by repeat (first | exact Ext.refl _ | apply Ext.drewN | apply Ext.alloc)⟩
theorem law1_in (kind s a p v : Int) (w : World) (hk : kind % 3 = 1) (k0 : 0 ≤ kind) (k1 : kind ≤ 255) (hs : sx 42 s = s) (ha : sx 42 a = a) (hp : sx 42 p = p) (v0 : 0 ≤ v) (v1 : v < 4294967296) (hm : bits .and .u32 v 0 = 0)
    (t1 : -4194304 ≤ s + a - p) (t2 : s + a - p ≤ 4194303) (t3 : (s + a - p) % 4 = 0) :
    Calls Try.prog 3 #[.int .u8 kind, .int .i64 s, .int .i64 a, .int .i64 p, .int .i64 v] w fun e w' => e = .returned (.bool true) ∧ Ext w w' := by
  have hK := cut1 v v0 v1
  obtain ⟨y, hy⟩ : ∃ y, bits .andNot .i64 v 67107871 = y := ⟨_, rfl⟩
  rw [hy] at hK
  have q := low16 ((s + a - p) / 4)
  have b := room1 y ((s + a - p) / 4) hK
  exact go1_in kind s a p v y _ w hk k0 k1 hs ha hp v0 v1 hm t1 t2 t3 hy (fun W => impLoong (rel1_in s a p y _ W (sx42 hs) (sx42 ha) (sx42 hp) t1 t2 (by omega) (by omega) (put1 y ((s + a - p) / 4) hK))) b.1 b.2 (back1 y ((s + a - p) / 4) hK (by omega) (by omega)) (by rw [beq_iff_eq]; omega) (stay1 y ((s + a - p) / 4) hK)
set_option maxHeartbeats 1600000 in
theorem law1_far (kind s a p v : Int) (w : World) (hk : kind % 3 = 1) (k0 : 0 ≤ kind) (k1 : kind ≤ 255) (hs : sx 42 s = s) (ha : sx 42 a = a) (hp : sx 42 p = p) (v0 : 0 ≤ v) (v1 : v < 4294967296) (hm : bits .and .u32 v 0 = 0)
    (ht : s + a - p < -4194304 ∨ 4194303 < s + a - p) (t3 : (s + a - p) % 4 = 0) :
    Calls Try.prog 3 #[.int .u8 kind, .int .i64 s, .int .i64 a, .int .i64 p, .int .i64 v] w fun e w' => e = .returned (.bool true) ∧ Ext w w' := by
  have n1 := fun W => near3 s a p true W (by simp [hs, ha, hp])
  have n2 := fun W => word_yes v 0 W v0 v1 hm
  have c := fun y W => impLoong_bad (rel1_bad s a p y W (sx42 hs) (sx42 ha) (sx42 hp) ht)
  obtain ⟨hs1, hs2⟩ := sx42 hs
  obtain ⟨ha1, ha2⟩ := sx42 ha
  obtain ⟨hp1, hp2⟩ := sx42 hp
  have n3 := fun W => fits_as (s + a - p) 23 false W (by decide) (by decide) (fits_no 23 _ (by omega))
  have X4 := tmod_yes _ t3
  obtain ⟨ia, ib, ic⟩ := i25 27 31 30
  obtain ⟨ja, jb, jc⟩ := i26 67108863 67107871 67107840
  obtain ⟨ka, kb, kc⟩ := i25 28 23 18
  clear hs ha hp t3 ht hm
  go_enter Try.func3, Try.ntmps3
  go_wp2_with (first | (go_at_call 12; ((with_reducible refine (n1 _).mono ?_); rintro e w' ⟨rfl, rfl⟩)) | (go_at_call 13; ((with_reducible refine (n2 _).mono ?_); rintro e w' ⟨rfl, rfl⟩)) | (go_at_call 14; ((with_reducible refine (c _ _).mono ?_); rintro e w' ⟨⟨o, rfl⟩, rfl⟩)) | (go_at_call 15; ((with_reducible refine (n3 _).mono ?_); rintro e w' ⟨rfl, rfl⟩)))
  go_ret
  exact ⟨rfl, by repeat (first | exact Ext.refl _ | apply Ext.drewN | apply Ext.alloc)⟩
set_option maxRecDepth 100000 in
set_option maxHeartbeats 1600000 in
theorem rel2_in (s a p y o : Int) (w : World) (hs : -2199023255552 ≤ s ∧ s < 2199023255552) (ha : -2199023255552 ≤ a ∧ a < 2199023255552) (hp : -2199023255552 ≤ p ∧ p < 2199023255552)
    (t1 : -131072 ≤ s + a - p) (t2 : s + a - p ≤ 131071) (b0 : 0 ≤ bits .and .i64 ((s + a - p) / 4) 65535) (b1 : bits .and .i64 ((s + a - p) / 4) 65535 ≤ 65535) (hO : bits .or .i64 (bits .and .i64 y 4227859455) (bits .and .i64 ((s + a - p) / 4) 65535 * 1024) = o) :
    Calls Try.prog 30 #[.int .i64 30, .int .i64 s, .int .i64 a, .int .i64 p, .int .i64 y] w fun e w' => e = .returned (.tuple #[.int .i64 o, .int .i64 0, .bool true]) ∧ w = w' := by
  obtain ⟨hs1, hs2⟩ := hs
  obtain ⟨ha1, ha2⟩ := ha
  obtain ⟨hp1, hp2⟩ := hp
  go_enter Try.func30, Try.ntmps30
  go_wp2
  go_ret3
  exact ⟨rfl, rfl⟩
set_option maxRecDepth 100000 in
set_option maxHeartbeats 1600000 in
theorem rel2_bad (s a p y : Int) (w : World) (hs : -2199023255552 ≤ s ∧ s < 2199023255552) (ha : -2199023255552 ≤ a ∧ a < 2199023255552) (hp : -2199023255552 ≤ p ∧ p < 2199023255552)
    (ht : s + a - p < -131072 ∨ 131071 < s + a - p) :
    Calls Try.prog 30 #[.int .i64 30, .int .i64 s, .int .i64 a, .int .i64 p, .int .i64 y] w fun e w' => (∃ o, e = .returned (.tuple #[.int .i64 o, .int .i64 1, .bool true])) ∧ w = w' := by
  obtain ⟨hs1, hs2⟩ := hs
  obtain ⟨ha1, ha2⟩ := ha
  obtain ⟨hp1, hp2⟩ := hp
  rcases ht with ht | ht
  all_goals
    go_enter Try.func30, Try.ntmps30
    go_wp2
    go_ret3
    exact ⟨⟨_, rfl⟩, rfl⟩
set_option maxHeartbeats 1600000 in
theorem go2_in (kind s a p v y o : Int) (w : World) (hk : kind % 3 = 2) (k0 : 0 ≤ kind) (k1 : kind ≤ 255) (hs : sx 42 s = s) (ha : sx 42 a = a) (hp : sx 42 p = p) (v0 : 0 ≤ v) (v1 : v < 4294967296) (hm : bits .and .u32 v 0 = 0)
    (t1 : -131072 ≤ s + a - p) (t2 : s + a - p ≤ 131071) (t3 : (s + a - p) % 4 = 0) (hy : bits .andNot .i64 v 67107840 = y)
    (c : ∀ W : World, Calls Try.prog 14 #[.int .i64 30, .int .i64 s, .int .i64 a, .int .i64 p, .int .i64 y] W fun e w' => e = .returned (.tuple #[.int .i64 o, .int .i64 0, .bool true]) ∧ W = w')
    (o0 : 0 ≤ o) (o1 : o < 4294967296) (hr : sx 16 (o / 1024 % 65536) = (s + a - p) / 4) (X5 : ((s + a - p) / 4 * 4 == s + a - p) = true) (X7 : (bits .andNot .i64 o 67107840 == y) = true) :
    Calls Try.prog 3 #[.int .u8 kind, .int .i64 s, .int .i64 a, .int .i64 p, .int .i64 v] w fun e w' => e = .returned (.bool true) ∧ Ext w w' := by
  have n1 := fun W => near3 s a p true W (by simp [hs, ha, hp])
  have n2 := fun W => word_yes v 0 W v0 v1 hm
  obtain ⟨hs1, hs2⟩ := sx42 hs
  obtain ⟨ha1, ha2⟩ := sx42 ha
  obtain ⟨hp1, hp2⟩ := sx42 hp
  have n3 := fun W => fits_as (s + a - p) 18 true W (by decide) (by decide) (fits_yes 18 _ (by omega) (by decide))
  have X4 := tmod_yes _ t3
  have r0 := fun W => rdLoong26 o _ W o0 o1 rfl
  have r1 := fun W => rdLoong21 o _ W o0 o1 rfl
  have r2 := fun W => rdLoong16 o _ W o0 o1 hr
  have z0 := sx_in 26 ((o % 1024 * 65536 + o / 1024 % 65536))
  have z1 := sx_in 21 ((o % 32 * 65536 + o / 1024 % 65536))
  obtain ⟨ia, ib, ic⟩ := i25 27 31 30
  obtain ⟨ja, jb, jc⟩ := i26 67108863 67107871 67107840
  obtain ⟨ka, kb, kc⟩ := i25 28 23 18
  obtain ⟨la, lb, lc⟩ := i26 (sx 26 (o % 1024 * 65536 + o / 1024 % 65536) * 4) (sx 21 (o % 32 * 65536 + o / 1024 % 65536) * 4) ((s + a - p) / 4 * 4)
  clear hs ha hp t3 hr hm
  go_enter Try.func3, Try.ntmps3
  go_wp2_with (first | (go_at_call 12; ((with_reducible refine (n1 _).mono ?_); rintro e w' ⟨rfl, rfl⟩)) | (go_at_call 13; ((with_reducible refine (n2 _).mono ?_); rintro e w' ⟨rfl, rfl⟩)) | (go_at_call 14; ((with_reducible refine (c _).mono ?_); rintro e w' ⟨rfl, rfl⟩)) | (go_at_call 15; ((with_reducible refine (n3 _).mono ?_); rintro e w' ⟨rfl, rfl⟩)) | (go_at_call 16; ((with_reducible refine (r0 _).mono ?_); rintro e w' ⟨rfl, nq, rfl⟩)) | (go_at_call 17; ((with_reducible refine (r1 _).mono ?_); rintro e w' ⟨rfl, nq, rfl⟩)) | (go_at_call 18; ((with_reducible refine (r2 _).mono ?_); rintro e w' ⟨rfl, nq, rfl⟩)))
  go_ret
  exact ⟨rfl, by repeat (first | exact Ext.refl _ | apply Ext.drewN | apply Ext.alloc)⟩
theorem law2_in (kind s a p v : Int) (w : World) (hk : kind % 3 = 2) (k0 : 0 ≤ kind) (k1 : kind ≤ 255) (hs : sx 42 s = s) (ha : sx 42 a = a) (hp : sx 42 p = p) (v0 : 0 ≤ v) (v1 : v < 4294967296) (hm : bits .and .u32 v 0 = 0)
    (t1 : -131072 ≤ s + a - p) (t2 : s + a - p ≤ 131071) (t3 : (s + a - p) % 4 = 0) :
    Calls Try.prog 3 #[.int .u8 kind, .int .i64 s, .int .i64 a, .int .i64 p, .int .i64 v] w fun e w' => e = .returned (.bool true) ∧ Ext w w' := by
  have hK := cut2 v v0 v1
  obtain ⟨y, hy⟩ : ∃ y, bits .andNot .i64 v 67107840 = y := ⟨_, rfl⟩
  rw [hy] at hK
  have q := low16 ((s + a - p) / 4)
  have b := room2 y ((s + a - p) / 4) hK
  exact go2_in kind s a p v y _ w hk k0 k1 hs ha hp v0 v1 hm t1 t2 t3 hy (fun W => impLoong (rel2_in s a p y _ W (sx42 hs) (sx42 ha) (sx42 hp) t1 t2 (by omega) (by omega) (put2 y ((s + a - p) / 4) hK))) b.1 b.2 (back2 y ((s + a - p) / 4) hK (by omega) (by omega)) (by rw [beq_iff_eq]; omega) (stay2 y ((s + a - p) / 4) hK)
set_option maxHeartbeats 1600000 in
theorem law2_far (kind s a p v : Int) (w : World) (hk : kind % 3 = 2) (k0 : 0 ≤ kind) (k1 : kind ≤ 255) (hs : sx 42 s = s) (ha : sx 42 a = a) (hp : sx 42 p = p) (v0 : 0 ≤ v) (v1 : v < 4294967296) (hm : bits .and .u32 v 0 = 0)
    (ht : s + a - p < -131072 ∨ 131071 < s + a - p) (t3 : (s + a - p) % 4 = 0) :
    Calls Try.prog 3 #[.int .u8 kind, .int .i64 s, .int .i64 a, .int .i64 p, .int .i64 v] w fun e w' => e = .returned (.bool true) ∧ Ext w w' := by
  have n1 := fun W => near3 s a p true W (by simp [hs, ha, hp])
  have n2 := fun W => word_yes v 0 W v0 v1 hm
  have c := fun y W => impLoong_bad (rel2_bad s a p y W (sx42 hs) (sx42 ha) (sx42 hp) ht)
  obtain ⟨hs1, hs2⟩ := sx42 hs
  obtain ⟨ha1, ha2⟩ := sx42 ha
  obtain ⟨hp1, hp2⟩ := sx42 hp
  have n3 := fun W => fits_as (s + a - p) 18 false W (by decide) (by decide) (fits_no 18 _ (by omega))
  have X4 := tmod_yes _ t3
  obtain ⟨ia, ib, ic⟩ := i25 27 31 30
  obtain ⟨ja, jb, jc⟩ := i26 67108863 67107871 67107840
  obtain ⟨ka, kb, kc⟩ := i25 28 23 18
  clear hs ha hp t3 ht hm
  go_enter Try.func3, Try.ntmps3
  go_wp2_with (first | (go_at_call 12; ((with_reducible refine (n1 _).mono ?_); rintro e w' ⟨rfl, rfl⟩)) | (go_at_call 13; ((with_reducible refine (n2 _).mono ?_); rintro e w' ⟨rfl, rfl⟩)) | (go_at_call 14; ((with_reducible refine (c _ _).mono ?_); rintro e w' ⟨⟨o, rfl⟩, rfl⟩)) | (go_at_call 15; ((with_reducible refine (n3 _).mono ?_); rintro e w' ⟨rfl, rfl⟩)))
  go_ret
  exact ⟨rfl, by repeat (first | exact Ext.refl _ | apply Ext.drewN | apply Ext.alloc)⟩
theorem law_odd (kind s a p v : Int) (w : World) (hs : sx 42 s = s) (ha : sx 42 a = a) (hp : sx 42 p = p) (v0 : 0 ≤ v) (v1 : v < 4294967296) (hm : bits .and .u32 v 0 = 0) (t3 : (s + a - p) % 4 ≠ 0) :
    Calls Try.prog 3 #[.int .u8 kind, .int .i64 s, .int .i64 a, .int .i64 p, .int .i64 v] w fun e w' => e = .returned (.bool true) ∧ Ext w w' := by
  have n1 := fun W => near3 s a p true W (by simp [hs, ha, hp])
  have n2 := fun W => word_yes v 0 W v0 v1 hm
  obtain ⟨hs1, hs2⟩ := sx42 hs
  obtain ⟨ha1, ha2⟩ := sx42 ha
  obtain ⟨hp1, hp2⟩ := sx42 hp
  have X4 := tmod_no _ t3
  clear hs ha hp t3 hm
  go_enter Try.func3, Try.ntmps3
  go_wp2_with (first | (go_at_call 12; ((with_reducible refine (n1 _).mono ?_); rintro e w' ⟨rfl, rfl⟩)) | (go_at_call 13; ((with_reducible refine (n2 _).mono ?_); rintro e w' ⟨rfl, rfl⟩)))
  go_ret
  exact ⟨rfl, by repeat (first | exact Ext.refl _ | apply Ext.drewN | apply Ext.alloc)⟩
theorem law_wide (kind s a p v : Int) (w : World) (hn : sx 42 s = s ∧ sx 42 a = a ∧ sx 42 p = p) (hv : v < 0 ∨ 4294967296 ≤ v) :
    Calls Try.prog 3 #[.int .u8 kind, .int .i64 s, .int .i64 a, .int .i64 p, .int .i64 v] w fun e w' => e = .returned (.bool true) ∧ Ext w w' := by
  have n1 := fun W => near3 s a p true W (by simpa using hn)
  have n2 := fun W => word_far v 0 W hv
  clear hn hv
  go_enter Try.func3, Try.ntmps3
  go_wp2_with (first | (go_at_call 12; ((with_reducible refine (n1 _).mono ?_); rintro e w' ⟨rfl, rfl⟩)) | (go_at_call 13; ((with_reducible refine (n2 _).mono ?_); rintro e w' ⟨rfl, rfl⟩)))
  go_ret
  exact ⟨rfl, by repeat (first | exact Ext.refl _ | apply Ext.drewN | apply Ext.alloc)⟩
theorem law_shut (kind s a p v : Int) (w : World) (hn : ¬ (sx 42 s = s ∧ sx 42 a = a ∧ sx 42 p = p)) :
    Calls Try.prog 3 #[.int .u8 kind, .int .i64 s, .int .i64 a, .int .i64 p, .int .i64 v] w fun e w' => e = .returned (.bool true) ∧ Ext w w' := by
  have n1 := fun W => near3 s a p false W (by simpa using hn)
  clear hn
  go_enter Try.func3, Try.ntmps3
  go_wp2_with (go_at_call 12; ((with_reducible refine (n1 _).mono ?_); rintro e w' ⟨rfl, rfl⟩))
  go_ret
  exact ⟨rfl, by repeat (first | exact Ext.refl _ | apply Ext.drewN | apply Ext.alloc)⟩
theorem walkFnLoongBranch (a0 a1 a2 a3 a4 : Int) (w : World) (w0 : (Lit.int .u8 a0).wf = true) (w1 : (Lit.int .i64 a1).wf = true) (w2 : (Lit.int .i64 a2).wf = true) (w3 : (Lit.int .i64 a3).wf = true) (w4 : (Lit.int .i64 a4).wf = true) :
    Calls Try.prog 3 #[.int .u8 a0, .int .i64 a1, .int .i64 a2, .int .i64 a3, .int .i64 a4] w fun e w' => e = .returned (.bool true) ∧ Ext w w' := by
  have b := wf_u8 w0
  have hm : bits .and .u32 a4 0 = 0 := by rw [segu 0 a4 0 (by decide) (by decide)]; omega
  by_cases hn : sx 42 a1 = a1 ∧ sx 42 a2 = a2 ∧ sx 42 a3 = a3
  · by_cases hv : a4 < 0 ∨ 4294967296 ≤ a4
    · exact law_wide a0 a1 a2 a3 a4 w hn hv
    · by_cases h3 : (a1 + a2 - a3) % 4 = 0
      · have hk : a0 % 3 = 0 ∨ a0 % 3 = 1 ∨ a0 % 3 = 2 := by omega
        rcases hk with hk | hk | hk
        · by_cases hf : a1 + a2 - a3 < -134217728 ∨ 134217727 < a1 + a2 - a3
          · exact law0_far a0 a1 a2 a3 a4 w hk b.1 b.2 hn.1 hn.2.1 hn.2.2 (by omega) (by omega) hm hf h3
          · exact law0_in a0 a1 a2 a3 a4 w hk b.1 b.2 hn.1 hn.2.1 hn.2.2 (by omega) (by omega) hm (by omega) (by omega) h3
        · by_cases hf : a1 + a2 - a3 < -4194304 ∨ 4194303 < a1 + a2 - a3
          · exact law1_far a0 a1 a2 a3 a4 w hk b.1 b.2 hn.1 hn.2.1 hn.2.2 (by omega) (by omega) hm hf h3
          · exact law1_in a0 a1 a2 a3 a4 w hk b.1 b.2 hn.1 hn.2.1 hn.2.2 (by omega) (by omega) hm (by omega) (by omega) h3
        · by_cases hf : a1 + a2 - a3 < -131072 ∨ 131071 < a1 + a2 - a3
          · exact law2_far a0 a1 a2 a3 a4 w hk b.1 b.2 hn.1 hn.2.1 hn.2.2 (by omega) (by omega) hm hf h3
          · exact law2_in a0 a1 a2 a3 a4 w hk b.1 b.2 hn.1 hn.2.1 hn.2.2 (by omega) (by omega) hm (by omega) (by omega) h3
      · exact law_odd a0 a1 a2 a3 a4 w hn.1 hn.2.1 hn.2.2 (by omega) (by omega) hm h3
  · exact law_shut a0 a1 a2 a3 a4 w hn
end Go.Proofs.Ytcchhdjpmnhfmaa.Wk
