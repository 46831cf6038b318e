/- The law FnRiscvShort returns true: a short branch (9 bits) or a short jump (12 bits) of RISC-V goes from its own place to the symbol with the addend if that is an even number of so many bits, else an error is told: for numbers of 42 bits with their sign and every instruction of 16 bits (its field is made nought first by the statement itself). -/
import Derived.Test.YtijikeoehbllcaaRvImp
namespace Go.Proofs.Ytijikeoehbllcaa.Wk
set_option linter.unusedVariables false
open Go.RowKit Go.Proofs.Ytijikeoehbllcaa.Aid
/-- An instruction of 16 bits whose field is nought. -/
def KCB (y : Int) : Prop := ∃ q r t : Int, 0 ≤ q ∧ q < 4 ∧ 0 ≤ r ∧ r < 8 ∧ 0 ≤ t ∧ t < 8 ∧ y = q + r * 128 + t * 8192
def KCJ (y : Int) : Prop := ∃ q t : Int, 0 ≤ q ∧ q < 4 ∧ 0 ≤ t ∧ t < 8 ∧ y = q + t * 8192
theorem cutCB (v : Int) (h0 : 0 ≤ v) (h1 : v ≤ 65535) : KCB (bits .andNot .u16 v 7292) := by
  obtain ⟨q, l, r, h, t, bq, bl, br, bh, bt, rfl⟩ : ∃ q l r h t : Int, (0 ≤ q ∧ q < 4) ∧ (0 ≤ l ∧ l < 32) ∧ (0 ≤ r ∧ r < 8) ∧ (0 ≤ h ∧ h < 8) ∧ (0 ≤ t ∧ t < 8) ∧ v = q + l * 4 + r * 128 + h * 1024 + t * 8192 :=
    ⟨v % 4, v / 4 % 32, v / 128 % 8, v / 1024 % 8, v / 8192, by omega, by omega, by omega, by omega, by omega, by omega⟩
  refine ⟨q, r, t, by omega, by omega, by omega, by omega, by omega, by omega, ?_⟩
  have f1 : (q + l * 4 + r * 128 + h * 1024 + t * 8192) / 2 ^ 10 % 2 ^ 3 = h := by omega
  have f2 : (q + l * 4 + r * 128 + h * 1024 + t * 8192) / 2 ^ 2 % 2 ^ 5 = l := by omega
  rw [andNot_eq, show (7292 : Int) = 7168 + 124 from rfl, and_split .u16 10 _ (by decide) (by decide) (by decide) (by decide) (by decide), and_seg .u16 10 3 (m := 7168) _ (by decide) (by decide) (by decide), and_seg .u16 2 5 (m := 124) _ (by decide) (by decide) (by decide), wrap_u16, f1, f2]
  omega
theorem cutCJ (v : Int) (h0 : 0 ≤ v) (h1 : v ≤ 65535) : KCJ (bits .andNot .u16 v 8188) := by
  refine ⟨v % 4, v / 8192, by omega, by omega, by omega, by omega, ?_⟩
  rw [andNot_eq, and_seg .u16 2 11 (m := 8188) _ (by decide) (by decide) (by decide), wrap_u16]
  omega
theorem KCB_in {y : Int} (h : KCB y) : 0 ≤ y ∧ y ≤ 65535 := by obtain ⟨q, r, t, _, _, _, _, _, _, rfl⟩ := h; omega
theorem KCJ_in {y : Int} (h : KCJ y) : 0 ≤ y ∧ y ≤ 65535 := by obtain ⟨q, t, _, _, _, _, rfl⟩ := h; omega
theorem eCB_two (x : Int) : ∃ h l : Int, 0 ≤ h ∧ h < 8 ∧ 0 ≤ l ∧ l < 32 ∧ eCB x = h * 1024 + l * 4 := by
  have b := bCB_in x
  exact ⟨bCB x / 32, bCB x % 32, by omega, by omega, by omega, by omega, rfl⟩
theorem and7292 (x : Int) : bits .and .i64 x 7292 = x / 1024 % 8 * 1024 + x / 4 % 32 * 4 := by
  rw [show (7292 : Int) = 7168 + 124 from rfl, and_split .i64 10 _ (by decide) (by decide) (by decide) (by decide) (by decide), and_seg .i64 10 3 (m := 7168) _ (by decide) (by decide) (by decide), and_seg .i64 2 5 (m := 124) _ (by decide) (by decide) (by decide)]
  rfl
theorem and8188 (x : Int) : bits .and .i64 x 8188 = x / 4 % 2048 * 4 := by
  rw [and_seg .i64 2 11 (m := 8188) _ (by decide) (by decide) (by decide)]
  rfl
theorem and8060 (x : Int) : bits .and .i64 x 8060 = x / 256 % 32 * 256 + x / 4 % 32 * 4 := by
  rw [show (8060 : Int) = 7936 + 124 from rfl, and_split .i64 8 _ (by decide) (by decide) (by decide) (by decide) (by decide), and_seg .i64 8 5 (m := 7936) _ (by decide) (by decide) (by decide), and_seg .i64 2 5 (m := 124) _ (by decide) (by decide) (by decide)]
  rfl
theorem low16 (x : Int) : bits .and .i64 x 65535 = x % 65536 := by
  simpa using and_seg .i64 0 16 x (m := 65535) (by decide) (by decide) (by decide)
theorem putCB (y x : Int) (h : KCB y) : bits .or .i64 (bits .andNot .i64 y 7292) (eCB x) = y + eCB x := by
  obtain ⟨q, r, t, q0, q1, r0, r1, t0, t1, rfl⟩ := h
  obtain ⟨h, l, h0, h1, l0, l1, e⟩ := eCB_two x
  have z : (q + r * 128 + t * 8192) / 1024 % 8 * 1024 + (q + r * 128 + t * 8192) / 4 % 32 * 4 = 0 := by omega
  rw [andNot_eq, and7292, z, wrap_i64, w64 (by omega) (by omega), Int.sub_zero, e, or_eq, and_split .i64 10 _ (by omega) (by omega) (by omega) (by omega) (by show _ ≤ (9223372036854775807 : Int); omega),
    and_zero .i64 10 13 (by omega) (by omega) (by omega) (by omega) (by decide) (by decide), and_zero .i64 2 7 (by omega) (by omega) (by omega) (by omega) (by decide) (by decide), wrap_i64, w64 (by omega) (by omega)]
  omega
theorem putCJ (y x : Int) (h : KCJ y) : bits .or .i64 (bits .andNot .i64 y 8060) (eCJ x) = y + eCJ x := by
  obtain ⟨q, t, q0, q1, t0, t1, rfl⟩ := h
  have b := bCJ_in x
  have z : (q + t * 8192) / 256 % 32 * 256 + (q + t * 8192) / 4 % 32 * 4 = 0 := by omega
  have e : eCJ x = bCJ x * 4 := rfl
  rw [andNot_eq, and8060, z, wrap_i64, w64 (by omega) (by omega), Int.sub_zero, e, or_mid .i64 2 13 (by omega) (by omega) (by omega) (by omega) (by decide) (by decide), wrap_i64, w64 (by omega) (by omega)]
theorem backCB (y x : Int) (h : KCB y) (h1 : -256 ≤ x) (h2 : x ≤ 255) (he : x % 2 = 0) : rCB (y + eCB x) = x := by
  have k := rdCB x h1 h2 he
  rw [Int.emod_eq_of_lt (eCB_in x).1 (by have := eCB_in x; omega)] at k
  obtain ⟨q, r, t, q0, q1, r0, r1, t0, t1, rfl⟩ := h
  obtain ⟨h, l, h0, h1, l0, l1, e⟩ := eCB_two x
  rw [e] at k ⊢
  have f0 : (q + r * 128 + t * 8192 + (h * 1024 + l * 4)) / 4096 % 2 = (h * 1024 + l * 4) / 4096 % 2 := by omega
  have f1 : (q + r * 128 + t * 8192 + (h * 1024 + l * 4)) / 32 % 4 = (h * 1024 + l * 4) / 32 % 4 := by omega
  have f2 : (q + r * 128 + t * 8192 + (h * 1024 + l * 4)) / 4 % 2 = (h * 1024 + l * 4) / 4 % 2 := by omega
  have f3 : (q + r * 128 + t * 8192 + (h * 1024 + l * 4)) / 1024 % 4 = (h * 1024 + l * 4) / 1024 % 4 := by omega
  have f4 : (q + r * 128 + t * 8192 + (h * 1024 + l * 4)) / 8 % 4 = (h * 1024 + l * 4) / 8 % 4 := by omega
  unfold rCB at k ⊢
  rw [f0, f1, f2, f3, f4, k]
theorem backCJ (y x : Int) (h : KCJ y) (h1 : -2048 ≤ x) (h2 : x ≤ 2047) (he : x % 2 = 0) : rCJ (y + eCJ x) = x := by
  have k := rdCJ x h1 h2 he
  rw [Int.emod_eq_of_lt (eCJ_in x).1 (by have := eCJ_in x; omega)] at k
  obtain ⟨q, t, q0, q1, t0, t1, rfl⟩ := h
  have b := bCJ_in x
  have e : eCJ x = bCJ x * 4 := rfl
  rw [e] at k ⊢
  generalize bCJ x = l at *
  have f0 : (q + t * 8192 + l * 4) / 4096 % 2 = l * 4 / 4096 % 2 := by omega
  have f1 : (q + t * 8192 + l * 4) / 256 % 2 = l * 4 / 256 % 2 := by omega
  have f2 : (q + t * 8192 + l * 4) / 512 % 4 = l * 4 / 512 % 4 := by omega
  have f3 : (q + t * 8192 + l * 4) / 64 % 2 = l * 4 / 64 % 2 := by omega
  have f4 : (q + t * 8192 + l * 4) / 128 % 2 = l * 4 / 128 % 2 := by omega
  have f5 : (q + t * 8192 + l * 4) / 4 % 2 = l * 4 / 4 % 2 := by omega
  have f6 : (q + t * 8192 + l * 4) / 2048 % 2 = l * 4 / 2048 % 2 := by omega
  have f7 : (q + t * 8192 + l * 4) / 8 % 8 = l * 4 / 8 % 8 := by omega
  unfold rCJ at k ⊢
  rw [f0, f1, f2, f3, f4, f5, f6, f7, k]
theorem stayCB (y x : Int) (h : KCB y) : (bits .and .i64 (bits .andNot .i64 (y + eCB x) 7292) 65535 == y) = true := by
  obtain ⟨q, r, t, q0, q1, r0, r1, t0, t1, rfl⟩ := h
  obtain ⟨h, l, h0, h1, l0, l1, e⟩ := eCB_two x
  have z : q + r * 128 + t * 8192 + (h * 1024 + l * 4) - ((q + r * 128 + t * 8192 + (h * 1024 + l * 4)) / 1024 % 8 * 1024 + (q + r * 128 + t * 8192 + (h * 1024 + l * 4)) / 4 % 32 * 4) = q + r * 128 + t * 8192 := by omega
  rw [e, andNot_eq, and7292, z, wrap_i64, w64 (by omega) (by omega), low16, beq_iff_eq]
  omega
theorem stayCJ (y x : Int) (h : KCJ y) : (bits .and .i64 (bits .andNot .i64 (y + eCJ x) 8188) 65535 == y) = true := by
  obtain ⟨q, t, q0, q1, t0, t1, rfl⟩ := h
  have b := bCJ_in x
  have e : eCJ x = bCJ x * 4 := rfl
  rw [e]
  generalize bCJ x = l at *
  have z : q + t * 8192 + l * 4 - (q + t * 8192 + l * 4) / 4 % 2048 * 4 = q + t * 8192 := by omega
  rw [andNot_eq, and8188, z, wrap_i64, w64 (by omega) (by omega), low16, beq_iff_eq]
  omega
set_option maxRecDepth 100000 in
set_option maxHeartbeats 1600000 in
theorem relCB_in (s a p y : Int) (w : World) (hs : -2199023255552 ≤ s ∧ s < 2199023255552) (ha : -2199023255552 ≤ a ∧ a < 2199023255552) (hp : -2199023255552 ≤ p ∧ p < 2199023255552)
    (hy : KCB y) (ht : -256 ≤ s + a - p ∧ s + a - p ≤ 255 ∧ (s + a - p) % 2 = 0) :
    Calls Try.prog 31 #[.int .i64 62, .int .i64 s, .int .i64 a, .int .i64 p, .int .i64 y] w fun e w' => e = .returned (.tuple #[.int .i64 (y + eCB (s + a - p)), .int .i64 0, .bool true]) ∧ Ext w w' := by
  obtain ⟨hs1, hs2⟩ := hs
  obtain ⟨ha1, ha2⟩ := ha
  obtain ⟨hp1, hp2⟩ := hp
  obtain ⟨t1, t2, t3⟩ := ht
  have c := encCB_in (s + a - p) w t1 t2 t3
  have H := Lib.hid (putCB y (s + a - p) hy)
  obtain ⟨y0, y1⟩ := KCB_in hy
  obtain ⟨g1, g2⟩ := eCB_in (s + a - p)
  clear t3 hy
  go_enter Try.func31, Try.ntmps31
  go_wp2_with (go_at_call 43; ((with_reducible refine c.mono ?_); rintro e w' ⟨rfl, hx⟩))
  go_ret3
  exact ⟨by rw [← H.out]; rfl, hx⟩
set_option maxRecDepth 100000 in
set_option maxHeartbeats 1600000 in
theorem relCB_bad (s a p y : Int) (w : World) (hs : -2199023255552 ≤ s ∧ s < 2199023255552) (ha : -2199023255552 ≤ a ∧ a < 2199023255552) (hp : -2199023255552 ≤ p ∧ p < 2199023255552)
    (y0 : 0 ≤ y) (y1 : y ≤ 65535) (ht : ¬ (-256 ≤ s + a - p ∧ s + a - p ≤ 255 ∧ (s + a - p) % 2 = 0)) :
    Calls Try.prog 31 #[.int .i64 62, .int .i64 s, .int .i64 a, .int .i64 p, .int .i64 y] w fun e w' => (∃ o, e = .returned (.tuple #[.int .i64 o, .int .i64 1, .bool true])) ∧ Ext w w' := by
  obtain ⟨hs1, hs2⟩ := hs
  obtain ⟨ha1, ha2⟩ := ha
  obtain ⟨hp1, hp2⟩ := hp
  have c := encCB_bad (s + a - p) w ht
  clear ht
  go_enter Try.func31, Try.ntmps31
  go_wp2_with (go_at_call 43; ((with_reducible refine c.mono ?_); rintro e w' ⟨⟨z, ⟨b, rfl⟩, rfl⟩, hx⟩))
  go_ret3
  exact ⟨⟨_, rfl⟩, hx⟩
set_option maxRecDepth 100000 in
set_option maxHeartbeats 1600000 in
theorem lawCB_in (s a p v : Int) (w : World) (hs : sx 42 s = s) (ha : sx 42 a = a) (hp : sx 42 p = p)
    (h0 : 0 ≤ v) (h1 : v ≤ 65535) (ht : -256 ≤ s + a - p ∧ s + a - p ≤ 255 ∧ (s + a - p) % 2 = 0) :
    Calls Try.prog 5 #[.bool false, .int .i64 s, .int .i64 a, .int .i64 p, .int .u16 v] w fun e w' => e = .returned (.bool true) ∧ Ext w w' := by
  have hk := cutCB v h0 h1
  obtain ⟨y, hy⟩ : ∃ y, bits .andNot .u16 v 7292 = y := ⟨_, rfl⟩
  rw [hy] at hk
  have n1 := fun W => near3 s a p true W (by simp [hs, ha, hp])
  have c := fun W => impRv (relCB_in s a p y W (sx42 hs) (sx42 ha) (sx42 hp) hk ht)
  obtain ⟨hs1, hs2⟩ := sx42 hs
  obtain ⟨ha1, ha2⟩ := sx42 ha
  obtain ⟨hp1, hp2⟩ := sx42 hp
  obtain ⟨t1, t2, t3⟩ := ht
  have F := Lib.hid (show (sx 9 (s + a - p) == (s + a - p)) = true by rw [beq_iff_eq]; simp only [sx]; omega)
  have n3 := fun W => fits_as (s + a - p) 9 true W (by decide) (by decide) F.out
  have X4 : (Int.tmod (s + a - p) 2 != 0) = false := by rw [bne_eq_false_iff_eq, ← Int.dvd_iff_tmod_eq_zero]; omega
  obtain ⟨g1, g2⟩ := eCB_in (s + a - p)
  obtain ⟨y0, y1⟩ := KCB_in hk
  have o1 : 0 ≤ y + eCB (s + a - p) := by omega
  have o2 : y + eCB (s + a - p) < 4294967296 := by omega
  have r := fun W => rvCB (y + eCB (s + a - p)) W o1 o2
  rw [backCB y _ hk t1 t2 t3] at r
  have X5 := stayCB y (s + a - p) hk
  clear hs ha hp t3 hk
  go_enter Try.func5, Try.ntmps5
  go_wp2_with (first | (go_at_call 12; ((with_reducible refine (n1 _).mono ?_); rintro e w' ⟨rfl, rfl⟩)) | (go_at_call 14; ((with_reducible refine (c _).mono ?_); rintro e w' ⟨rfl, hx⟩)) | (go_at_call 15; ((with_reducible refine (n3 _).mono ?_); rintro e w' ⟨rfl, rfl⟩)) | (go_at_call 20; ((with_reducible refine (r _).mono ?_); rintro e w' ⟨rfl, nq, rfl⟩)))
  go_ret
  exact ⟨rfl, by repeat (first | exact Ext.trans ((Ext.refl _).alloc _) hx | apply Ext.drewN)⟩
set_option maxRecDepth 100000 in
set_option maxHeartbeats 1600000 in
theorem lawCB_odd (s a p v : Int) (w : World) (hs : sx 42 s = s) (ha : sx 42 a = a) (hp : sx 42 p = p)
    (h0 : 0 ≤ v) (h1 : v ≤ 65535) (ht : -256 ≤ s + a - p ∧ s + a - p ≤ 255) (ho : (s + a - p) % 2 = 1) :
    Calls Try.prog 5 #[.bool false, .int .i64 s, .int .i64 a, .int .i64 p, .int .u16 v] w fun e w' => e = .returned (.bool true) ∧ Ext w w' := by
  have hk := cutCB v h0 h1
  obtain ⟨y, hy⟩ : ∃ y, bits .andNot .u16 v 7292 = y := ⟨_, rfl⟩
  rw [hy] at hk
  obtain ⟨y0, y1⟩ := KCB_in hk
  have n1 := fun W => near3 s a p true W (by simp [hs, ha, hp])
  have c := fun W => impRv_bad (relCB_bad s a p y W (sx42 hs) (sx42 ha) (sx42 hp) y0 y1 (by omega))
  obtain ⟨hs1, hs2⟩ := sx42 hs
  obtain ⟨ha1, ha2⟩ := sx42 ha
  obtain ⟨hp1, hp2⟩ := sx42 hp
  have F := Lib.hid (show (sx 9 (s + a - p) == (s + a - p)) = true by rw [beq_iff_eq]; simp only [sx]; omega)
  have n3 := fun W => fits_as (s + a - p) 9 true W (by decide) (by decide) F.out
  have X4 : (Int.tmod (s + a - p) 2 != 0) = true := by rw [bne_iff_ne]; intro h; rw [← Int.dvd_iff_tmod_eq_zero] at h; omega
  obtain ⟨t1, t2⟩ := ht
  clear hs ha hp ho hk
  go_enter Try.func5, Try.ntmps5
  go_wp2_with (first | (go_at_call 12; ((with_reducible refine (n1 _).mono ?_); rintro e w' ⟨rfl, rfl⟩)) | (go_at_call 14; ((with_reducible refine (c _).mono ?_); rintro e w' ⟨⟨o, rfl⟩, hx⟩)) | (go_at_call 15; ((with_reducible refine (n3 _).mono ?_); rintro e w' ⟨rfl, rfl⟩)))
  go_ret
  exact ⟨rfl, Ext.trans ((Ext.refl _).alloc _) hx⟩
set_option maxRecDepth 100000 in
set_option maxHeartbeats 1600000 in
theorem lawCB_far (s a p v : Int) (w : World) (hs : sx 42 s = s) (ha : sx 42 a = a) (hp : sx 42 p = p)
    (h0 : 0 ≤ v) (h1 : v ≤ 65535) (ht : s + a - p < -256 ∨ 255 < s + a - p) :
    Calls Try.prog 5 #[.bool false, .int .i64 s, .int .i64 a, .int .i64 p, .int .u16 v] w fun e w' => e = .returned (.bool true) ∧ Ext w w' := by
  have hk := cutCB v h0 h1
  obtain ⟨y, hy⟩ : ∃ y, bits .andNot .u16 v 7292 = y := ⟨_, rfl⟩
  rw [hy] at hk
  obtain ⟨y0, y1⟩ := KCB_in hk
  have n1 := fun W => near3 s a p true W (by simp [hs, ha, hp])
  have c := fun W => impRv_bad (relCB_bad s a p y W (sx42 hs) (sx42 ha) (sx42 hp) y0 y1 (by omega))
  obtain ⟨hs1, hs2⟩ := sx42 hs
  obtain ⟨ha1, ha2⟩ := sx42 ha
  obtain ⟨hp1, hp2⟩ := sx42 hp
  have F := Lib.hid (show (sx 9 (s + a - p) == (s + a - p)) = false by rw [beq_eq_false_iff_ne]; simp only [sx]; omega)
  have n3 := fun W => fits_as (s + a - p) 9 false W (by decide) (by decide) F.out
  clear hs ha hp ht hk
  go_enter Try.func5, Try.ntmps5
  go_wp2_with (first | (go_at_call 12; ((with_reducible refine (n1 _).mono ?_); rintro e w' ⟨rfl, rfl⟩)) | (go_at_call 14; ((with_reducible refine (c _).mono ?_); rintro e w' ⟨⟨o, rfl⟩, hx⟩)) | (go_at_call 15; ((with_reducible refine (n3 _).mono ?_); rintro e w' ⟨rfl, rfl⟩)))
  go_ret
  exact ⟨rfl, Ext.trans ((Ext.refl _).alloc _) hx⟩
set_option maxRecDepth 100000 in
set_option maxHeartbeats 1600000 in
theorem relCJ_in (s a p y : Int) (w : World) (hs : -2199023255552 ≤ s ∧ s < 2199023255552) (ha : -2199023255552 ≤ a ∧ a < 2199023255552) (hp : -2199023255552 ≤ p ∧ p < 2199023255552)
    (hy : KCJ y) (ht : -2048 ≤ s + a - p ∧ s + a - p ≤ 2047 ∧ (s + a - p) % 2 = 0) :
    Calls Try.prog 31 #[.int .i64 63, .int .i64 s, .int .i64 a, .int .i64 p, .int .i64 y] w fun e w' => e = .returned (.tuple #[.int .i64 (y + eCJ (s + a - p)), .int .i64 0, .bool true]) ∧ Ext w w' := by
  obtain ⟨hs1, hs2⟩ := hs
  obtain ⟨ha1, ha2⟩ := ha
  obtain ⟨hp1, hp2⟩ := hp
  obtain ⟨t1, t2, t3⟩ := ht
  have c := encCJ_in (s + a - p) w t1 t2 t3
  have H := Lib.hid (putCJ y (s + a - p) hy)
  obtain ⟨y0, y1⟩ := KCJ_in hy
  obtain ⟨g1, g2⟩ := eCJ_in (s + a - p)
  clear t3 hy
  go_enter Try.func31, Try.ntmps31
  go_wp2_with (go_at_call 44; ((with_reducible refine c.mono ?_); rintro e w' ⟨rfl, hx⟩))
  go_ret3
  exact ⟨by rw [← H.out]; rfl, hx⟩
set_option maxRecDepth 100000 in
set_option maxHeartbeats 1600000 in
theorem relCJ_bad (s a p y : Int) (w : World) (hs : -2199023255552 ≤ s ∧ s < 2199023255552) (ha : -2199023255552 ≤ a ∧ a < 2199023255552) (hp : -2199023255552 ≤ p ∧ p < 2199023255552)
    (y0 : 0 ≤ y) (y1 : y ≤ 65535) (ht : ¬ (-2048 ≤ s + a - p ∧ s + a - p ≤ 2047 ∧ (s + a - p) % 2 = 0)) :
    Calls Try.prog 31 #[.int .i64 63, .int .i64 s, .int .i64 a, .int .i64 p, .int .i64 y] w fun e w' => (∃ o, e = .returned (.tuple #[.int .i64 o, .int .i64 1, .bool true])) ∧ Ext w w' := by
  obtain ⟨hs1, hs2⟩ := hs
  obtain ⟨ha1, ha2⟩ := ha
  obtain ⟨hp1, hp2⟩ := hp
  have c := encCJ_bad (s + a - p) w ht
  clear ht
  go_enter Try.func31, Try.ntmps31
  go_wp2_with (go_at_call 44; ((with_reducible refine c.mono ?_); rintro e w' ⟨⟨z, ⟨b, rfl⟩, rfl⟩, hx⟩))
  go_ret3
  exact ⟨⟨_, rfl⟩, hx⟩
set_option maxRecDepth 100000 in
set_option maxHeartbeats 1600000 in
theorem lawCJ_in (s a p v : Int) (w : World) (hs : sx 42 s = s) (ha : sx 42 a = a) (hp : sx 42 p = p)
    (h0 : 0 ≤ v) (h1 : v ≤ 65535) (ht : -2048 ≤ s + a - p ∧ s + a - p ≤ 2047 ∧ (s + a - p) % 2 = 0) :
    Calls Try.prog 5 #[.bool true, .int .i64 s, .int .i64 a, .int .i64 p, .int .u16 v] w fun e w' => e = .returned (.bool true) ∧ Ext w w' := by
  have hk := cutCJ v h0 h1
  obtain ⟨y, hy⟩ : ∃ y, bits .andNot .u16 v 8188 = y := ⟨_, rfl⟩
  rw [hy] at hk
  have n1 := fun W => near3 s a p true W (by simp [hs, ha, hp])
  have c := fun W => impRv (relCJ_in s a p y W (sx42 hs) (sx42 ha) (sx42 hp) hk ht)
  obtain ⟨hs1, hs2⟩ := sx42 hs
  obtain ⟨ha1, ha2⟩ := sx42 ha
  obtain ⟨hp1, hp2⟩ := sx42 hp
  obtain ⟨t1, t2, t3⟩ := ht
  have F := Lib.hid (show (sx 12 (s + a - p) == (s + a - p)) = true by rw [beq_iff_eq]; simp only [sx]; omega)
  have n3 := fun W => fits_as (s + a - p) 12 true W (by decide) (by decide) F.out
  have X4 : (Int.tmod (s + a - p) 2 != 0) = false := by rw [bne_eq_false_iff_eq, ← Int.dvd_iff_tmod_eq_zero]; omega
  obtain ⟨g1, g2⟩ := eCJ_in (s + a - p)
  obtain ⟨y0, y1⟩ := KCJ_in hk
  have o1 : 0 ≤ y + eCJ (s + a - p) := by omega
  have o2 : y + eCJ (s + a - p) < 4294967296 := by omega
  have r := fun W => rvCJ (y + eCJ (s + a - p)) W o1 o2
  rw [backCJ y _ hk t1 t2 t3] at r
  have r0 := fun W => rvCB (y + eCJ (s + a - p)) W o1 o2
  have X5 := stayCJ y (s + a - p) hk
  clear hs ha hp t3 hk
  go_enter Try.func5, Try.ntmps5
  go_wp2_with (first | (go_at_call 12; ((with_reducible refine (n1 _).mono ?_); rintro e w' ⟨rfl, rfl⟩)) | (go_at_call 14; ((with_reducible refine (c _).mono ?_); rintro e w' ⟨rfl, hx⟩)) | (go_at_call 15; ((with_reducible refine (n3 _).mono ?_); rintro e w' ⟨rfl, rfl⟩)) | (go_at_call 21; ((with_reducible refine (r _).mono ?_); rintro e w' ⟨rfl, nq, rfl⟩)) | (go_at_call 20; ((with_reducible refine (r0 _).mono ?_); rintro e w' ⟨rfl, nq, rfl⟩)))
  go_ret
  exact ⟨rfl, by repeat (first | exact Ext.trans ((Ext.refl _).alloc _) hx | apply Ext.drewN)⟩
set_option maxRecDepth 100000 in
set_option maxHeartbeats 1600000 in
theorem lawCJ_odd (s a p v : Int) (w : World) (hs : sx 42 s = s) (ha : sx 42 a = a) (hp : sx 42 p = p)
    (h0 : 0 ≤ v) (h1 : v ≤ 65535) (ht : -2048 ≤ s + a - p ∧ s + a - p ≤ 2047) (ho : (s + a - p) % 2 = 1) :
    Calls Try.prog 5 #[.bool true, .int .i64 s, .int .i64 a, .int .i64 p, .int .u16 v] w fun e w' => e = .returned (.bool true) ∧ Ext w w' := by
  have hk := cutCJ v h0 h1
  obtain ⟨y, hy⟩ : ∃ y, bits .andNot .u16 v 8188 = y := ⟨_, rfl⟩
  rw [hy] at hk
  obtain ⟨y0, y1⟩ := KCJ_in hk
  have n1 := fun W => near3 s a p true W (by simp [hs, ha, hp])
  have c := fun W => impRv_bad (relCJ_bad s a p y W (sx42 hs) (sx42 ha) (sx42 hp) y0 y1 (by omega))
  obtain ⟨hs1, hs2⟩ := sx42 hs
  obtain ⟨ha1, ha2⟩ := sx42 ha
  obtain ⟨hp1, hp2⟩ := sx42 hp
  have F := Lib.hid (show (sx 12 (s + a - p) == (s + a - p)) = true by rw [beq_iff_eq]; simp only [sx]; omega)
  have n3 := fun W => fits_as (s + a - p) 12 true W (by decide) (by decide) F.out
  have X4 : (Int.tmod (s + a - p) 2 != 0) = true := by rw [bne_iff_ne]; intro h; rw [← Int.dvd_iff_tmod_eq_zero] at h; omega
  obtain ⟨t1, t2⟩ := ht
  clear hs ha hp ho hk
  go_enter Try.func5, Try.ntmps5
  go_wp2_with (first | (go_at_call 12; ((with_reducible refine (n1 _).mono ?_); rintro e w' ⟨rfl, rfl⟩)) | (go_at_call 14; ((with_reducible refine (c _).mono ?_); rintro e w' ⟨⟨o, rfl⟩, hx⟩)) | (go_at_call 15; ((with_reducible refine (n3 _).mono ?_); rintro e w' ⟨rfl, rfl⟩)))
  go_ret
  exact ⟨rfl, Ext.trans ((Ext.refl _).alloc _) hx⟩
set_option maxRecDepth 100000 in
set_option maxHeartbeats 1600000 in
theorem lawCJ_far (s a p v : Int) (w : World) (hs : sx 42 s = s) (ha : sx 42 a = a) (hp : sx 42 p = p)
    (h0 : 0 ≤ v) (h1 : v ≤ 65535) (ht : s + a - p < -2048 ∨ 2047 < s + a - p) :
    Calls Try.prog 5 #[.bool true, .int .i64 s, .int .i64 a, .int .i64 p, .int .u16 v] w fun e w' => e = .returned (.bool true) ∧ Ext w w' := by
  have hk := cutCJ v h0 h1
  obtain ⟨y, hy⟩ : ∃ y, bits .andNot .u16 v 8188 = y := ⟨_, rfl⟩
  rw [hy] at hk
  obtain ⟨y0, y1⟩ := KCJ_in hk
  have n1 := fun W => near3 s a p true W (by simp [hs, ha, hp])
  have c := fun W => impRv_bad (relCJ_bad s a p y W (sx42 hs) (sx42 ha) (sx42 hp) y0 y1 (by omega))
  obtain ⟨hs1, hs2⟩ := sx42 hs
  obtain ⟨ha1, ha2⟩ := sx42 ha
  obtain ⟨hp1, hp2⟩ := sx42 hp
  have F := Lib.hid (show (sx 12 (s + a - p) == (s + a - p)) = false by rw [beq_eq_false_iff_ne]; simp only [sx]; omega)
  have n3 := fun W => fits_as (s + a - p) 12 false W (by decide) (by decide) F.out
  clear hs ha hp ht hk
  go_enter Try.func5, Try.ntmps5
  go_wp2_with (first | (go_at_call 12; ((with_reducible refine (n1 _).mono ?_); rintro e w' ⟨rfl, rfl⟩)) | (go_at_call 14; ((with_reducible refine (c _).mono ?_); rintro e w' ⟨⟨o, rfl⟩, hx⟩)) | (go_at_call 15; ((with_reducible refine (n3 _).mono ?_); rintro e w' ⟨rfl, rfl⟩)))
  go_ret
  exact ⟨rfl, Ext.trans ((Ext.refl _).alloc _) hx⟩
theorem law_shut (j : Bool) (s a p v : Int) (w : World) (hn : ¬ (sx 42 s = s ∧ sx 42 a = a ∧ sx 42 p = p)) :
    Calls Try.prog 5 #[.bool j, .int .i64 s, .int .i64 a, .int .i64 p, .int .u16 v] w fun e w' => e = .returned (.bool true) ∧ Ext w w' := by
  have n1 := fun W => near3 s a p false W (by simpa using hn)
  clear hn
  go_enter Try.func5, Try.ntmps5
  go_wp2_with (go_at_call 12; ((with_reducible refine (n1 _).mono ?_); rintro e w' ⟨rfl, rfl⟩))
  go_ret
  exact ⟨rfl, (Ext.refl _).alloc _⟩
theorem walkFnRiscvShort (a0 : Bool) (a1 a2 a3 a4 : Int) (w : World) (w1 : (Lit.int .i64 a1).wf = true) (w2 : (Lit.int .i64 a2).wf = true) (w3 : (Lit.int .i64 a3).wf = true) (w4 : (Lit.int .u16 a4).wf = true) :
    Calls Try.prog 5 #[.bool a0, .int .i64 a1, .int .i64 a2, .int .i64 a3, .int .u16 a4] w fun e w' => e = .returned (.bool true) ∧ Ext w w' := by
  have b := wf_u16 w4
  by_cases hn : sx 42 a1 = a1 ∧ sx 42 a2 = a2 ∧ sx 42 a3 = a3
  · cases a0 with
    | false =>
      by_cases hf : a1 + a2 - a3 < -256 ∨ 255 < a1 + a2 - a3
      · exact lawCB_far a1 a2 a3 a4 w hn.1 hn.2.1 hn.2.2 b.1 b.2 hf
      · by_cases ho : (a1 + a2 - a3) % 2 = 1
        · exact lawCB_odd a1 a2 a3 a4 w hn.1 hn.2.1 hn.2.2 b.1 b.2 (by omega) ho
        · exact lawCB_in a1 a2 a3 a4 w hn.1 hn.2.1 hn.2.2 b.1 b.2 (by omega)
    | true =>
      by_cases hf : a1 + a2 - a3 < -2048 ∨ 2047 < a1 + a2 - a3
      · exact lawCJ_far a1 a2 a3 a4 w hn.1 hn.2.1 hn.2.2 b.1 b.2 hf
      · by_cases ho : (a1 + a2 - a3) % 2 = 1
        · exact lawCJ_odd a1 a2 a3 a4 w hn.1 hn.2.1 hn.2.2 b.1 b.2 (by omega) ho
        · exact lawCJ_in a1 a2 a3 a4 w hn.1 hn.2.1 hn.2.2 b.1 b.2 (by omega)
  · exact law_shut a0 a1 a2 a3 a4 w hn
end Go.Proofs.Ytijikeoehbllcaa.Wk
