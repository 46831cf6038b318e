/- The law FnPowerAddress returns true: the halves of two instructions of POWER are together the symbol with the addend, or from the table of contents, or from the place, to it, if that and what is 2^15 more have 32 bits with their sign; where neither has, an error is told (but from the place): for numbers of 42 bits with their sign, and of the first kind addresses that are not below 0 (the statement's own guard). -/
import Derived.Test.YtcchhdjpmnhfmaaPowAddr
namespace Go.Proofs.Ytcchhdjpmnhfmaa.Wk
set_option linter.unusedVariables false
open Go.RowKit Go.Proofs.Ytcchhdjpmnhfmaa.Aid
theorem i25 (x y z : Int) : (∀ w, (Instr.index 25 (.agg #[.int .i64 x, .int .i64 y, .int .i64 z]) (.int .i64 0)).run Try.prog w = .ok (.int .i64 x) w) ∧ (∀ w, (Instr.index 25 (.agg #[.int .i64 x, .int .i64 y, .int .i64 z]) (.int .i64 1)).run Try.prog w = .ok (.int .i64 y) w) ∧ (∀ w, (Instr.index 25 (.agg #[.int .i64 x, .int .i64 y, .int .i64 z]) (.int .i64 2)).run Try.prog w = .ok (.int .i64 z) w) :=
  ⟨fun _ => by kernel_rfl, fun _ => by kernel_rfl, fun _ => by kernel_rfl⟩
theorem i26 (x y z : Int) : (∀ w, (Instr.index 26 (.agg #[.int .i64 x, .int .i64 y, .int .i64 z]) (.int .i64 0)).run Try.prog w = .ok (.int .i64 x) w) ∧ (∀ w, (Instr.index 26 (.agg #[.int .i64 x, .int .i64 y, .int .i64 z]) (.int .i64 1)).run Try.prog w = .ok (.int .i64 y) w) ∧ (∀ w, (Instr.index 26 (.agg #[.int .i64 x, .int .i64 y, .int .i64 z]) (.int .i64 2)).run Try.prog w = .ok (.int .i64 z) w) :=
  ⟨fun _ => by kernel_rfl, fun _ => by kernel_rfl, fun _ => by kernel_rfl⟩
theorem seg16u (x : Int) : bits .and .u32 x 65535 = x % 65536 := segu 16 _ _ (by decide) (by decide)
theorem seg16 (x : Int) : bits .and .i64 x 65535 = x % 65536 := seg64 16 _ _ (by decide) (by decide)
theorem bit15 (x : Int) : bits .and .i64 x 32768 = x / 32768 % 2 * 32768 := by
  rw [and_seg .i64 15 1 (m := 32768) _ (by decide) (by decide) (by decide)]; rfl
theorem nought (a : Int) (a0 : 0 ≤ a) (a1 : a ≤ 65535) : bits .andNot .u32 (a * 65536) 65535 = a * 65536 := by
  rw [andNot_eq, seg16u, wrap_u32]; omega
theorem halfput (a h : Int) (a0 : 0 ≤ a) (a1 : a ≤ 65535) (h0 : 0 ≤ h) (h1 : h < 65536) : bits .or .u32 (a * 65536) h = a * 65536 + h :=
  joinu 16 (by omega) h0 (by omega) (by decide) (by omega) (by omega)
theorem u16h (x : Int) : IntKind.u16.wrap x % 4294967296 = x % 65536 := by rw [wrap_u16]; omega
theorem fit32 (t : Int) (h1 : -2147483648 ≤ t) (h2 : t < 2147483648) : (sx 32 t == t) = true := by rw [beq_iff_eq]; simp only [sx]; omega
theorem nofit32 (t : Int) (h : t < -2147483648 ∨ 2147483648 ≤ t) : (sx 32 t == t) = false := by rw [beq_eq_false_iff_ne]; simp only [sx]; omega
/-- The halves of t, behind two numbers. -/
def HX (a t : Int) : Int := a * 65536 + (t + 32768) / 65536 % 65536
def LY (b t : Int) : Int := b * 65536 + t % 65536
theorem HX_in (a t : Int) (a0 : 0 ≤ a) (a1 : a ≤ 65535) : 0 ≤ HX a t ∧ HX a t < 4294967296 := by unfold HX; omega
theorem LY_in (a t : Int) (a0 : 0 ≤ a) (a1 : a ≤ 65535) : 0 ≤ LY a t ∧ LY a t < 4294967296 := by unfold LY; omega
theorem HX_hi (a t : Int) (a0 : 0 ≤ a) (a1 : a ≤ 65535) : (HX a t / 65536 == a) = true := by rw [beq_iff_eq]; unfold HX; omega
theorem LY_hi (a t : Int) (a0 : 0 ≤ a) (a1 : a ≤ 65535) : (LY a t / 65536 == a) = true := by rw [beq_iff_eq]; unfold LY; omega
theorem HX_half (a t : Int) (t1 : -2147483648 ≤ t) (t2 : t < 2147450880) : sx 16 (HX a t) = (t + 32768) / 65536 := by unfold HX; simp only [sx]; omega
theorem LY_half (a t : Int) : sx 16 (LY a t) = t - (t + 32768) / 65536 * 65536 := by unfold LY; simp only [sx]; omega
set_option maxHeartbeats 1600000 in
theorem go0_in (g : Bool) (kind s a p c ra rb V o X Y R Q : Int) (w : World) (hk : kind % 3 = 0) (k0 : 0 ≤ kind) (k1 : kind ≤ 255) (hs : sx 42 s = s) (ha : sx 42 a = a) (hp : sx 42 p = p) (hc : sx 42 c = c) (a0 : 0 ≤ ra) (a1 : ra ≤ 65535) (b0 : 0 ≤ rb) (b1 : rb ≤ 65535) (t1 : 0 ≤ s + a) (t2 : s + a < 2147450880)
    (k : ∀ W : World, Calls Try.prog 23 #[.bool g, .int .u32 (ra * 65536), .int .u32 (rb * 65536)] W fun e w' => e = .returned (.int .i64 V) ∧ W = w')
    (d : ∀ W : World, Calls Try.prog 21 #[.int .i64 5, .bool g, .bool false, .int .i64 s, .int .i64 a, .int .i64 p, .int .i64 c, .int .i64 V] W fun e w' => e = .returned (.tuple #[.int .i64 o, .int .i64 0, .bool true]) ∧ W = w')
    (u : ∀ W : World, Calls Try.prog 24 #[.bool g, .int .i64 o] W fun e w' => e = .returned (.tuple #[.int .u32 X, .int .u32 Y]) ∧ W = w')
    (X0 : 0 ≤ X) (X1 : X < 4294967296) (Y0 : 0 ≤ Y) (Y1 : Y < 4294967296) (hR : sx 16 X = R) (hQ : sx 16 Y = Q) (R0 : -32768 ≤ R) (R1 : R < 32768) (Q0 : -32768 ≤ Q) (Q1 : Q < 32768)
    (X5 : (R * 65536 + Q == s + a) = true) (X6 : (X / 65536 == ra) = true) (X7 : (Y / 65536 == rb) = true) :
    Calls Try.prog 8 #[.int .u8 kind, .bool g, .int .i64 s, .int .i64 a, .int .i64 p, .int .i64 c, .int .u16 ra, .int .u16 rb] w fun e w' => e = .returned (.bool true) ∧ Ext w w' := by
  have n1 := fun W => near4 s a p c true W (by simp [hs, ha, hp, hc])
  obtain ⟨hs1, hs2⟩ := sx42 hs
  obtain ⟨ha1, ha2⟩ := sx42 ha
  obtain ⟨hp1, hp2⟩ := sx42 hp
  obtain ⟨hc1, hc2⟩ := sx42 hc
  have n3 := fun W => fits_as (s + a) 32 true W (by decide) (by decide) (fit32 _ (by omega) (by omega))
  have n4 := fun W => fits_as (s + a + 32768) 32 true W (by decide) (by decide) (fit32 _ (by omega) (by omega))
  have r := fun W => rdHalf X R W X0 X1 hR
  have q := fun W => rdHalf Y Q W Y0 Y1 hQ
  obtain ⟨ia, ib, ic⟩ := i25 5 10 8
  obtain ⟨ja, jb, jc⟩ := i26 0 c p
  clear hs ha hp hc hR hQ
  go_enter Try.func8, Try.ntmps8
  go_wp2_with (first | (go_at_call 12; ((with_reducible refine (n1 _).mono ?_); rintro e w' ⟨rfl, rfl⟩)) | (go_at_call 23; ((with_reducible refine (k _).mono ?_); rintro e w' ⟨rfl, rfl⟩)) | (go_at_call 15; ((with_reducible refine (n3 _).mono ?_); rintro e w' ⟨rfl, rfl⟩)) | (go_at_call 15; ((with_reducible refine (n4 _).mono ?_); rintro e w' ⟨rfl, rfl⟩)) | (go_at_call 21; ((with_reducible refine (d _).mono ?_); rintro e w' ⟨rfl, rfl⟩)) | (go_at_call 24; ((with_reducible refine (u _).mono ?_); rintro e w' ⟨rfl, rfl⟩)) | (go_at_call 25; ((with_reducible refine (r _).mono ?_); rintro e w' ⟨rfl, rfl⟩)) | (go_at_call 25; ((with_reducible refine (q _).mono ?_); rintro e w' ⟨rfl, rfl⟩)))
  go_ret
  exact ⟨rfl, by repeat (first | exact Ext.refl _ | apply Ext.drewN | apply Ext.alloc)⟩
theorem law0L_in (kind s a p c ra rb : Int) (w : World) (hk : kind % 3 = 0) (k0 : 0 ≤ kind) (k1 : kind ≤ 255) (hs : sx 42 s = s) (ha : sx 42 a = a) (hp : sx 42 p = p) (hc : sx 42 c = c) (a0 : 0 ≤ ra) (a1 : ra ≤ 65535) (b0 : 0 ≤ rb) (b1 : rb ≤ 65535) (t1 : 0 ≤ s + a) (t2 : s + a < 2147450880) :
    Calls Try.prog 8 #[.int .u8 kind, .bool false, .int .i64 s, .int .i64 a, .int .i64 p, .int .i64 c, .int .u16 ra, .int .u16 rb] w fun e w' => e = .returned (.bool true) ∧ Ext w w' := by
  have A0 : 0 ≤ ra * 65536 := by omega
  have A1 : ra * 65536 < 4294967296 := by omega
  have B0 : 0 ≤ rb * 65536 := by omega
  have B1 : rb * 65536 < 4294967296 := by omega
  have x := HX_in ra (s + a) a0 a1
  have y := LY_in rb (s + a) b0 b1
  exact go0_in false kind s a p c ra rb (wrap64 (rb * 65536 * 4294967296 + ra * 65536)) _ _ _ ((s + a + 32768) / 65536) (s + a - (s + a + 32768) / 65536 * 65536) w hk k0 k1 hs ha hp hc a0 a1 b0 b1 t1 t2
    (fun W => pack_as false _ _ _ W A0 A1 B0 B1 (by rw [if_neg (by decide), or_comm', words _ _ A0 A1 B0 B1]))
    (fun W => impPow (pow0L_in s a p c _ (ra * 65536) (rb * 65536) _ _ _ W (sx42 hs) (sx42 ha) (sx42 hp) (sx42 hc) (cut_hi _ _ A0 A1 B0 B1) (cut_lo _ _ A0 A1) t1 t2 (nought ra a0 a1) (nought rb b0 b1) (by rw [halfput ra _ a0 a1 (by omega) (by omega)]; unfold HX; omega) (by rw [u16h, halfput rb _ b0 b1 (by omega) (by omega)]; rfl) x.1 x.2 y.1 y.2 ((or_comm' .i64 _ _).trans (words _ _ x.1 x.2 y.1 y.2))))
    (fun W => unpack_as false _ _ _ W (by rw [if_neg (by decide)]; exact cut_lo _ _ x.1 x.2) (by rw [if_neg (by decide)]; exact cut_hi _ _ x.1 x.2 y.1 y.2))
    x.1 x.2 y.1 y.2 (HX_half ra _ (by omega) t2) (LY_half rb _) (by omega) (by omega) (by omega) (by omega) (by rw [beq_iff_eq]; omega) (HX_hi ra _ a0 a1) (LY_hi rb _ b0 b1)
theorem law0G_in (kind s a p c ra rb : Int) (w : World) (hk : kind % 3 = 0) (k0 : 0 ≤ kind) (k1 : kind ≤ 255) (hs : sx 42 s = s) (ha : sx 42 a = a) (hp : sx 42 p = p) (hc : sx 42 c = c) (a0 : 0 ≤ ra) (a1 : ra ≤ 65535) (b0 : 0 ≤ rb) (b1 : rb ≤ 65535) (t1 : 0 ≤ s + a) (t2 : s + a < 2147450880) :
    Calls Try.prog 8 #[.int .u8 kind, .bool true, .int .i64 s, .int .i64 a, .int .i64 p, .int .i64 c, .int .u16 ra, .int .u16 rb] w fun e w' => e = .returned (.bool true) ∧ Ext w w' := by
  have A0 : 0 ≤ ra * 65536 := by omega
  have A1 : ra * 65536 < 4294967296 := by omega
  have B0 : 0 ≤ rb * 65536 := by omega
  have B1 : rb * 65536 < 4294967296 := by omega
  have x := HX_in ra (s + a) a0 a1
  have y := LY_in rb (s + a) b0 b1
  exact go0_in true kind s a p c ra rb (wrap64 (ra * 65536 * 4294967296 + rb * 65536)) _ _ _ ((s + a + 32768) / 65536) (s + a - (s + a + 32768) / 65536 * 65536) w hk k0 k1 hs ha hp hc a0 a1 b0 b1 t1 t2
    (fun W => pack_as true _ _ _ W A0 A1 B0 B1 (by rw [if_pos rfl, words _ _ B0 B1 A0 A1]))
    (fun W => impPow (pow0G_in s a p c _ (ra * 65536) (rb * 65536) _ _ _ W (sx42 hs) (sx42 ha) (sx42 hp) (sx42 hc) (cut_hi _ _ B0 B1 A0 A1) (cut_lo _ _ B0 B1) t1 t2 (nought ra a0 a1) (nought rb b0 b1) (by rw [halfput ra _ a0 a1 (by omega) (by omega)]; unfold HX; omega) (by rw [u16h, halfput rb _ b0 b1 (by omega) (by omega)]; rfl) x.1 x.2 y.1 y.2 (words _ _ y.1 y.2 x.1 x.2)))
    (fun W => unpack_as true _ _ _ W (by rw [if_pos rfl]; exact cut_hi _ _ y.1 y.2 x.1 x.2) (by rw [if_pos rfl]; exact cut_lo _ _ y.1 y.2))
    x.1 x.2 y.1 y.2 (HX_half ra _ (by omega) t2) (LY_half rb _) (by omega) (by omega) (by omega) (by omega) (by rw [beq_iff_eq]; omega) (HX_hi ra _ a0 a1) (LY_hi rb _ b0 b1)
set_option maxHeartbeats 1600000 in
theorem law0_edge (g : Bool) (kind s a p c ra rb : Int) (w : World) (hk : kind % 3 = 0) (k0 : 0 ≤ kind) (k1 : kind ≤ 255) (hs : sx 42 s = s) (ha : sx 42 a = a) (hp : sx 42 p = p) (hc : sx 42 c = c) (a0 : 0 ≤ ra) (a1 : ra ≤ 65535) (b0 : 0 ≤ rb) (b1 : rb ≤ 65535) (t1 : 2147450880 ≤ s + a) (t2 : s + a < 2147483648) :
    Calls Try.prog 8 #[.int .u8 kind, .bool g, .int .i64 s, .int .i64 a, .int .i64 p, .int .i64 c, .int .u16 ra, .int .u16 rb] w fun e w' => e = .returned (.bool true) ∧ Ext w w' := by
  have n1 := fun W => near4 s a p c true W (by simp [hs, ha, hp, hc])
  obtain ⟨V, k⟩ : ∃ V, ∀ W : World, Calls Try.prog 23 #[.bool g, .int .u32 (ra * 65536), .int .u32 (rb * 65536)] W fun e w' => e = .returned (.int .i64 V) ∧ W = w' := ⟨_, fun W => pack_as g _ _ _ W (by omega) (by omega) (by omega) (by omega) rfl⟩
  have d := fun W => impPow_bad (pow0_edge g s a p c V W (sx42 hs) (sx42 ha) (sx42 hp) (sx42 hc) (by omega) t2)
  obtain ⟨hs1, hs2⟩ := sx42 hs
  obtain ⟨ha1, ha2⟩ := sx42 ha
  obtain ⟨hp1, hp2⟩ := sx42 hp
  obtain ⟨hc1, hc2⟩ := sx42 hc
  have n3 := fun W => fits_as (s + a) 32 true W (by decide) (by decide) (fit32 _ (by omega) (by omega))
  have n4 := fun W => fits_as (s + a + 32768) 32 false W (by decide) (by decide) (nofit32 _ (by omega))
  obtain ⟨ia, ib, ic⟩ := i25 5 10 8
  obtain ⟨ja, jb, jc⟩ := i26 0 c p
  clear hs ha hp hc
  go_enter Try.func8, Try.ntmps8
  go_wp2_with (first | (go_at_call 12; ((with_reducible refine (n1 _).mono ?_); rintro e w' ⟨rfl, rfl⟩)) | (go_at_call 23; ((with_reducible refine (k _).mono ?_); rintro e w' ⟨rfl, rfl⟩)) | (go_at_call 15; ((with_reducible refine (n3 _).mono ?_); rintro e w' ⟨rfl, rfl⟩)) | (go_at_call 15; ((with_reducible refine (n4 _).mono ?_); rintro e w' ⟨rfl, rfl⟩)) | (go_at_call 21; ((with_reducible refine (d _).mono ?_); rintro e w' ⟨⟨o, rfl⟩, rfl⟩)))
  go_ret
  exact ⟨rfl, by repeat (first | exact Ext.refl _ | apply Ext.drewN | apply Ext.alloc)⟩
set_option maxHeartbeats 1600000 in
theorem law0_far (g : Bool) (kind s a p c ra rb : Int) (w : World) (hk : kind % 3 = 0) (k0 : 0 ≤ kind) (k1 : kind ≤ 255) (hs : sx 42 s = s) (ha : sx 42 a = a) (hp : sx 42 p = p) (hc : sx 42 c = c) (a0 : 0 ≤ ra) (a1 : ra ≤ 65535) (b0 : 0 ≤ rb) (b1 : rb ≤ 65535) (t1 : 2147483648 ≤ s + a) :
    Calls Try.prog 8 #[.int .u8 kind, .bool g, .int .i64 s, .int .i64 a, .int .i64 p, .int .i64 c, .int .u16 ra, .int .u16 rb] w fun e w' => e = .returned (.bool true) ∧ Ext w w' := by
  have n1 := fun W => near4 s a p c true W (by simp [hs, ha, hp, hc])
  obtain ⟨V, k⟩ : ∃ V, ∀ W : World, Calls Try.prog 23 #[.bool g, .int .u32 (ra * 65536), .int .u32 (rb * 65536)] W fun e w' => e = .returned (.int .i64 V) ∧ W = w' := ⟨_, fun W => pack_as g _ _ _ W (by omega) (by omega) (by omega) (by omega) rfl⟩
  have d := fun W => impPow_bad (pow0_far g s a p c V W (sx42 hs) (sx42 ha) (sx42 hp) (sx42 hc) t1)
  obtain ⟨hs1, hs2⟩ := sx42 hs
  obtain ⟨ha1, ha2⟩ := sx42 ha
  obtain ⟨hp1, hp2⟩ := sx42 hp
  obtain ⟨hc1, hc2⟩ := sx42 hc
  have n3 := fun W => fits_as (s + a) 32 false W (by decide) (by decide) (nofit32 _ (by omega))
  have n4 := fun W => fits_as (s + a + 32768) 32 false W (by decide) (by decide) (nofit32 _ (by omega))
  obtain ⟨ia, ib, ic⟩ := i25 5 10 8
  obtain ⟨ja, jb, jc⟩ := i26 0 c p
  clear hs ha hp hc
  go_enter Try.func8, Try.ntmps8
  go_wp2_with (first | (go_at_call 12; ((with_reducible refine (n1 _).mono ?_); rintro e w' ⟨rfl, rfl⟩)) | (go_at_call 23; ((with_reducible refine (k _).mono ?_); rintro e w' ⟨rfl, rfl⟩)) | (go_at_call 15; ((with_reducible refine (n3 _).mono ?_); rintro e w' ⟨rfl, rfl⟩)) | (go_at_call 15; ((with_reducible refine (n4 _).mono ?_); rintro e w' ⟨rfl, rfl⟩)) | (go_at_call 21; ((with_reducible refine (d _).mono ?_); rintro e w' ⟨⟨o, rfl⟩, rfl⟩)))
  go_ret
  exact ⟨rfl, by repeat (first | exact Ext.refl _ | apply Ext.drewN | apply Ext.alloc)⟩
theorem law0_neg (g : Bool) (kind s a p c ra rb : Int) (w : World) (hk : kind % 3 = 0) (k0 : 0 ≤ kind) (k1 : kind ≤ 255) (hs : sx 42 s = s) (ha : sx 42 a = a) (hp : sx 42 p = p) (hc : sx 42 c = c) (a0 : 0 ≤ ra) (a1 : ra ≤ 65535) (b0 : 0 ≤ rb) (b1 : rb ≤ 65535) (t1 : s + a < 0) :
    Calls Try.prog 8 #[.int .u8 kind, .bool g, .int .i64 s, .int .i64 a, .int .i64 p, .int .i64 c, .int .u16 ra, .int .u16 rb] w fun e w' => e = .returned (.bool true) ∧ Ext w w' := by
  have n1 := fun W => near4 s a p c true W (by simp [hs, ha, hp, hc])
  obtain ⟨hs1, hs2⟩ := sx42 hs
  obtain ⟨ha1, ha2⟩ := sx42 ha
  obtain ⟨hp1, hp2⟩ := sx42 hp
  obtain ⟨hc1, hc2⟩ := sx42 hc
  obtain ⟨ia, ib, ic⟩ := i25 5 10 8
  obtain ⟨ja, jb, jc⟩ := i26 0 c p
  clear hs ha hp hc
  go_enter Try.func8, Try.ntmps8
  go_wp2_with (go_at_call 12; ((with_reducible refine (n1 _).mono ?_); rintro e w' ⟨rfl, rfl⟩))
  go_ret
  exact ⟨rfl, by repeat (first | exact Ext.refl _ | apply Ext.drewN | apply Ext.alloc)⟩
theorem law0 (g : Bool) (kind s a p c ra rb : Int) (w : World) (hk : kind % 3 = 0) (k0 : 0 ≤ kind) (k1 : kind ≤ 255) (hs : sx 42 s = s) (ha : sx 42 a = a) (hp : sx 42 p = p) (hc : sx 42 c = c) (a0 : 0 ≤ ra) (a1 : ra ≤ 65535) (b0 : 0 ≤ rb) (b1 : rb ≤ 65535) :
    Calls Try.prog 8 #[.int .u8 kind, .bool g, .int .i64 s, .int .i64 a, .int .i64 p, .int .i64 c, .int .u16 ra, .int .u16 rb] w fun e w' => e = .returned (.bool true) ∧ Ext w w' := by
  by_cases h1 : s + a < 0
  · exact law0_neg g kind s a p c ra rb w hk k0 k1 hs ha hp hc a0 a1 b0 b1 h1
  · by_cases h2 : s + a < 2147450880
    · cases g with
      | false => exact law0L_in kind s a p c ra rb w hk k0 k1 hs ha hp hc a0 a1 b0 b1 (by omega) h2
      | true => exact law0G_in kind s a p c ra rb w hk k0 k1 hs ha hp hc a0 a1 b0 b1 (by omega) h2
    · by_cases h3 : s + a < 2147483648
      · exact law0_edge g kind s a p c ra rb w hk k0 k1 hs ha hp hc a0 a1 b0 b1 (by omega) h3
      · exact law0_far g kind s a p c ra rb w hk k0 k1 hs ha hp hc a0 a1 b0 b1 (by omega)
set_option maxHeartbeats 1600000 in
theorem go1_in (g : Bool) (kind s a p c ra rb V o X Y R Q : Int) (w : World) (hk : kind % 3 = 1) (k0 : 0 ≤ kind) (k1 : kind ≤ 255) (hs : sx 42 s = s) (ha : sx 42 a = a) (hp : sx 42 p = p) (hc : sx 42 c = c) (a0 : 0 ≤ ra) (a1 : ra ≤ 65535) (b0 : 0 ≤ rb) (b1 : rb ≤ 65535) (t1 : -2147483648 ≤ s + a - c) (t2 : s + a - c < 2147450880)
    (k : ∀ W : World, Calls Try.prog 23 #[.bool g, .int .u32 (ra * 65536), .int .u32 (rb * 65536)] W fun e w' => e = .returned (.int .i64 V) ∧ W = w')
    (d : ∀ W : World, Calls Try.prog 21 #[.int .i64 10, .bool g, .bool false, .int .i64 s, .int .i64 a, .int .i64 p, .int .i64 c, .int .i64 V] W fun e w' => e = .returned (.tuple #[.int .i64 o, .int .i64 0, .bool true]) ∧ W = w')
    (u : ∀ W : World, Calls Try.prog 24 #[.bool g, .int .i64 o] W fun e w' => e = .returned (.tuple #[.int .u32 X, .int .u32 Y]) ∧ W = w')
    (X0 : 0 ≤ X) (X1 : X < 4294967296) (Y0 : 0 ≤ Y) (Y1 : Y < 4294967296) (hR : sx 16 X = R) (hQ : sx 16 Y = Q) (R0 : -32768 ≤ R) (R1 : R < 32768) (Q0 : -32768 ≤ Q) (Q1 : Q < 32768)
    (X5 : (R * 65536 + Q == s + a - c) = true) (X6 : (X / 65536 == ra) = true) (X7 : (Y / 65536 == rb) = true) :
    Calls Try.prog 8 #[.int .u8 kind, .bool g, .int .i64 s, .int .i64 a, .int .i64 p, .int .i64 c, .int .u16 ra, .int .u16 rb] w fun e w' => e = .returned (.bool true) ∧ Ext w w' := by
  have n1 := fun W => near4 s a p c true W (by simp [hs, ha, hp, hc])
  obtain ⟨hs1, hs2⟩ := sx42 hs
  obtain ⟨ha1, ha2⟩ := sx42 ha
  obtain ⟨hp1, hp2⟩ := sx42 hp
  obtain ⟨hc1, hc2⟩ := sx42 hc
  have n3 := fun W => fits_as (s + a - c) 32 true W (by decide) (by decide) (fit32 _ (by omega) (by omega))
  have n4 := fun W => fits_as (s + a - c + 32768) 32 true W (by decide) (by decide) (fit32 _ (by omega) (by omega))
  have r := fun W => rdHalf X R W X0 X1 hR
  have q := fun W => rdHalf Y Q W Y0 Y1 hQ
  obtain ⟨ia, ib, ic⟩ := i25 5 10 8
  obtain ⟨ja, jb, jc⟩ := i26 0 c p
  clear hs ha hp hc hR hQ
  go_enter Try.func8, Try.ntmps8
  go_wp2_with (first | (go_at_call 12; ((with_reducible refine (n1 _).mono ?_); rintro e w' ⟨rfl, rfl⟩)) | (go_at_call 23; ((with_reducible refine (k _).mono ?_); rintro e w' ⟨rfl, rfl⟩)) | (go_at_call 15; ((with_reducible refine (n3 _).mono ?_); rintro e w' ⟨rfl, rfl⟩)) | (go_at_call 15; ((with_reducible refine (n4 _).mono ?_); rintro e w' ⟨rfl, rfl⟩)) | (go_at_call 21; ((with_reducible refine (d _).mono ?_); rintro e w' ⟨rfl, rfl⟩)) | (go_at_call 24; ((with_reducible refine (u _).mono ?_); rintro e w' ⟨rfl, rfl⟩)) | (go_at_call 25; ((with_reducible refine (r _).mono ?_); rintro e w' ⟨rfl, rfl⟩)) | (go_at_call 25; ((with_reducible refine (q _).mono ?_); rintro e w' ⟨rfl, rfl⟩)))
  go_ret
  exact ⟨rfl, by repeat (first | exact Ext.refl _ | apply Ext.drewN | apply Ext.alloc)⟩
theorem toc_hi (a t : Int) : a * 65536 + (if (t / 32768 % 2 == 1) = true then t + 65536 else t) / 65536 % 65536 = HX a t := by
  unfold HX
  by_cases h : t / 32768 % 2 = 1
  · rw [if_pos (by rw [beq_iff_eq]; exact h)]; omega
  · rw [if_neg (by rw [beq_iff_eq]; exact h)]; omega
theorem toc_lo (a t : Int) : a * 65536 + (if (t / 32768 % 2 == 1) = true then t + 65536 else t) % 4294967296 % 65536 = LY a t := by
  unfold LY
  split <;> omega
theorem law1L_in (kind s a p c ra rb : Int) (w : World) (hk : kind % 3 = 1) (k0 : 0 ≤ kind) (k1 : kind ≤ 255) (hs : sx 42 s = s) (ha : sx 42 a = a) (hp : sx 42 p = p) (hc : sx 42 c = c) (a0 : 0 ≤ ra) (a1 : ra ≤ 65535) (b0 : 0 ≤ rb) (b1 : rb ≤ 65535) (t1 : -2147483648 ≤ s + a - c) (t2 : s + a - c < 2147450880) :
    Calls Try.prog 8 #[.int .u8 kind, .bool false, .int .i64 s, .int .i64 a, .int .i64 p, .int .i64 c, .int .u16 ra, .int .u16 rb] w fun e w' => e = .returned (.bool true) ∧ Ext w w' := by
  have A0 : 0 ≤ ra * 65536 := by omega
  have A1 : ra * 65536 < 4294967296 := by omega
  have B0 : 0 ≤ rb * 65536 := by omega
  have B1 : rb * 65536 < 4294967296 := by omega
  have x := HX_in ra (s + a - c) a0 a1
  have y := LY_in rb (s + a - c) b0 b1
  exact go1_in false kind s a p c ra rb (wrap64 (rb * 65536 * 4294967296 + ra * 65536)) _ _ _ ((s + a - c + 32768) / 65536) (s + a - c - (s + a - c + 32768) / 65536 * 65536) w hk k0 k1 hs ha hp hc a0 a1 b0 b1 t1 t2
    (fun W => pack_as false _ _ _ W A0 A1 B0 B1 (by rw [if_neg (by decide), or_comm', words _ _ A0 A1 B0 B1]))
    (fun W => impPow (pow1L_in s a p c _ (ra * 65536) (rb * 65536) _ _ _ W (sx42 hs) (sx42 ha) (sx42 hp) (sx42 hc) (cut_hi _ _ A0 A1 B0 B1) (cut_lo _ _ A0 A1) t1 t2 ((s + a - c) / 32768 % 2 == 1) (by rw [bit15]; rcases (show (s + a - c) / 32768 % 2 = 0 ∨ (s + a - c) / 32768 % 2 = 1 by omega) with h | h <;> rw [h] <;> rfl) (by rw [seg16]; omega) (by rw [seg16]; omega) (by rw [seg16, halfput ra _ a0 a1 (by omega) (by omega)]; exact toc_hi ra (s + a - c)) (by rw [seg16u, halfput rb _ b0 b1 (by omega) (by omega)]; exact toc_lo rb (s + a - c)) x.1 x.2 y.1 y.2 (words _ _ x.1 x.2 y.1 y.2)))
    (fun W => unpack_as false _ _ _ W (by rw [if_neg (by decide)]; exact cut_lo _ _ x.1 x.2) (by rw [if_neg (by decide)]; exact cut_hi _ _ x.1 x.2 y.1 y.2))
    x.1 x.2 y.1 y.2 (HX_half ra _ (by omega) t2) (LY_half rb _) (by omega) (by omega) (by omega) (by omega) (by rw [beq_iff_eq]; omega) (HX_hi ra _ a0 a1) (LY_hi rb _ b0 b1)
theorem law1G_in (kind s a p c ra rb : Int) (w : World) (hk : kind % 3 = 1) (k0 : 0 ≤ kind) (k1 : kind ≤ 255) (hs : sx 42 s = s) (ha : sx 42 a = a) (hp : sx 42 p = p) (hc : sx 42 c = c) (a0 : 0 ≤ ra) (a1 : ra ≤ 65535) (b0 : 0 ≤ rb) (b1 : rb ≤ 65535) (t1 : -2147483648 ≤ s + a - c) (t2 : s + a - c < 2147450880) :
    Calls Try.prog 8 #[.int .u8 kind, .bool true, .int .i64 s, .int .i64 a, .int .i64 p, .int .i64 c, .int .u16 ra, .int .u16 rb] w fun e w' => e = .returned (.bool true) ∧ Ext w w' := by
  have A0 : 0 ≤ ra * 65536 := by omega
  have A1 : ra * 65536 < 4294967296 := by omega
  have B0 : 0 ≤ rb * 65536 := by omega
  have B1 : rb * 65536 < 4294967296 := by omega
  have x := HX_in ra (s + a - c) a0 a1
  have y := LY_in rb (s + a - c) b0 b1
  exact go1_in true kind s a p c ra rb (wrap64 (ra * 65536 * 4294967296 + rb * 65536)) _ _ _ ((s + a - c + 32768) / 65536) (s + a - c - (s + a - c + 32768) / 65536 * 65536) w hk k0 k1 hs ha hp hc a0 a1 b0 b1 t1 t2
    (fun W => pack_as true _ _ _ W A0 A1 B0 B1 (by rw [if_pos rfl, words _ _ B0 B1 A0 A1]))
    (fun W => impPow (pow1G_in s a p c _ (ra * 65536) (rb * 65536) _ _ _ W (sx42 hs) (sx42 ha) (sx42 hp) (sx42 hc) (cut_hi _ _ B0 B1 A0 A1) (cut_lo _ _ B0 B1) t1 t2 ((s + a - c) / 32768 % 2 == 1) (by rw [bit15]; rcases (show (s + a - c) / 32768 % 2 = 0 ∨ (s + a - c) / 32768 % 2 = 1 by omega) with h | h <;> rw [h] <;> rfl) (by rw [seg16]; omega) (by rw [seg16]; omega) (by rw [seg16, halfput ra _ a0 a1 (by omega) (by omega)]; exact toc_hi ra (s + a - c)) (by rw [seg16u, halfput rb _ b0 b1 (by omega) (by omega)]; exact toc_lo rb (s + a - c)) x.1 x.2 y.1 y.2 (words _ _ y.1 y.2 x.1 x.2)))
    (fun W => unpack_as true _ _ _ W (by rw [if_pos rfl]; exact cut_hi _ _ y.1 y.2 x.1 x.2) (by rw [if_pos rfl]; exact cut_lo _ _ y.1 y.2))
    x.1 x.2 y.1 y.2 (HX_half ra _ (by omega) t2) (LY_half rb _) (by omega) (by omega) (by omega) (by omega) (by rw [beq_iff_eq]; omega) (HX_hi ra _ a0 a1) (LY_hi rb _ b0 b1)
set_option maxHeartbeats 1600000 in
theorem law1_edge (g : Bool) (kind s a p c ra rb : Int) (w : World) (hk : kind % 3 = 1) (k0 : 0 ≤ kind) (k1 : kind ≤ 255) (hs : sx 42 s = s) (ha : sx 42 a = a) (hp : sx 42 p = p) (hc : sx 42 c = c) (a0 : 0 ≤ ra) (a1 : ra ≤ 65535) (b0 : 0 ≤ rb) (b1 : rb ≤ 65535) (t1 : 2147450880 ≤ s + a - c) (t2 : s + a - c < 2147483648) :
    Calls Try.prog 8 #[.int .u8 kind, .bool g, .int .i64 s, .int .i64 a, .int .i64 p, .int .i64 c, .int .u16 ra, .int .u16 rb] w fun e w' => e = .returned (.bool true) ∧ Ext w w' := by
  have n1 := fun W => near4 s a p c true W (by simp [hs, ha, hp, hc])
  obtain ⟨V, k⟩ : ∃ V, ∀ W : World, Calls Try.prog 23 #[.bool g, .int .u32 (ra * 65536), .int .u32 (rb * 65536)] W fun e w' => e = .returned (.int .i64 V) ∧ W = w' := ⟨_, fun W => pack_as g _ _ _ W (by omega) (by omega) (by omega) (by omega) rfl⟩
  have d := fun W => impPow_bad (pow1_edge g s a p c V W (sx42 hs) (sx42 ha) (sx42 hp) (sx42 hc) (by omega) t2)
  obtain ⟨hs1, hs2⟩ := sx42 hs
  obtain ⟨ha1, ha2⟩ := sx42 ha
  obtain ⟨hp1, hp2⟩ := sx42 hp
  obtain ⟨hc1, hc2⟩ := sx42 hc
  have n3 := fun W => fits_as (s + a - c) 32 true W (by decide) (by decide) (fit32 _ (by omega) (by omega))
  have n4 := fun W => fits_as (s + a - c + 32768) 32 false W (by decide) (by decide) (nofit32 _ (by omega))
  obtain ⟨ia, ib, ic⟩ := i25 5 10 8
  obtain ⟨ja, jb, jc⟩ := i26 0 c p
  clear hs ha hp hc
  go_enter Try.func8, Try.ntmps8
  go_wp2_with (first | (go_at_call 12; ((with_reducible refine (n1 _).mono ?_); rintro e w' ⟨rfl, rfl⟩)) | (go_at_call 23; ((with_reducible refine (k _).mono ?_); rintro e w' ⟨rfl, rfl⟩)) | (go_at_call 15; ((with_reducible refine (n3 _).mono ?_); rintro e w' ⟨rfl, rfl⟩)) | (go_at_call 15; ((with_reducible refine (n4 _).mono ?_); rintro e w' ⟨rfl, rfl⟩)) | (go_at_call 21; ((with_reducible refine (d _).mono ?_); rintro e w' ⟨⟨o, rfl⟩, rfl⟩)))
  go_ret
  exact ⟨rfl, by repeat (first | exact Ext.refl _ | apply Ext.drewN | apply Ext.alloc)⟩
set_option maxHeartbeats 1600000 in
theorem law1_far (g : Bool) (kind s a p c ra rb : Int) (w : World) (hk : kind % 3 = 1) (k0 : 0 ≤ kind) (k1 : kind ≤ 255) (hs : sx 42 s = s) (ha : sx 42 a = a) (hp : sx 42 p = p) (hc : sx 42 c = c) (a0 : 0 ≤ ra) (a1 : ra ≤ 65535) (b0 : 0 ≤ rb) (b1 : rb ≤ 65535) (t1 : 2147483648 ≤ s + a - c) :
    Calls Try.prog 8 #[.int .u8 kind, .bool g, .int .i64 s, .int .i64 a, .int .i64 p, .int .i64 c, .int .u16 ra, .int .u16 rb] w fun e w' => e = .returned (.bool true) ∧ Ext w w' := by
  have n1 := fun W => near4 s a p c true W (by simp [hs, ha, hp, hc])
  obtain ⟨V, k⟩ : ∃ V, ∀ W : World, Calls Try.prog 23 #[.bool g, .int .u32 (ra * 65536), .int .u32 (rb * 65536)] W fun e w' => e = .returned (.int .i64 V) ∧ W = w' := ⟨_, fun W => pack_as g _ _ _ W (by omega) (by omega) (by omega) (by omega) rfl⟩
  have d := fun W => impPow_bad (pow1_far g s a p c V W (sx42 hs) (sx42 ha) (sx42 hp) (sx42 hc) (by omega) (show (s + a - c != wrap64 (wrap32 (s + a - c))) = true by have := sx42 hs; have := sx42 ha; have := sx42 hc; rw [bne_iff_ne]; unfold wrap64 wrap32; omega))
  obtain ⟨hs1, hs2⟩ := sx42 hs
  obtain ⟨ha1, ha2⟩ := sx42 ha
  obtain ⟨hp1, hp2⟩ := sx42 hp
  obtain ⟨hc1, hc2⟩ := sx42 hc
  have n3 := fun W => fits_as (s + a - c) 32 false W (by decide) (by decide) (nofit32 _ (by omega))
  have n4 := fun W => fits_as (s + a - c + 32768) 32 false W (by decide) (by decide) (nofit32 _ (by omega))
  obtain ⟨ia, ib, ic⟩ := i25 5 10 8
  obtain ⟨ja, jb, jc⟩ := i26 0 c p
  clear hs ha hp hc
  go_enter Try.func8, Try.ntmps8
  go_wp2_with (first | (go_at_call 12; ((with_reducible refine (n1 _).mono ?_); rintro e w' ⟨rfl, rfl⟩)) | (go_at_call 23; ((with_reducible refine (k _).mono ?_); rintro e w' ⟨rfl, rfl⟩)) | (go_at_call 15; ((with_reducible refine (n3 _).mono ?_); rintro e w' ⟨rfl, rfl⟩)) | (go_at_call 15; ((with_reducible refine (n4 _).mono ?_); rintro e w' ⟨rfl, rfl⟩)) | (go_at_call 21; ((with_reducible refine (d _).mono ?_); rintro e w' ⟨⟨o, rfl⟩, rfl⟩)))
  go_ret
  exact ⟨rfl, by repeat (first | exact Ext.refl _ | apply Ext.drewN | apply Ext.alloc)⟩
set_option maxHeartbeats 1600000 in
theorem law1_deep (g : Bool) (kind s a p c ra rb : Int) (w : World) (hk : kind % 3 = 1) (k0 : 0 ≤ kind) (k1 : kind ≤ 255) (hs : sx 42 s = s) (ha : sx 42 a = a) (hp : sx 42 p = p) (hc : sx 42 c = c) (a0 : 0 ≤ ra) (a1 : ra ≤ 65535) (b0 : 0 ≤ rb) (b1 : rb ≤ 65535) (t1 : s + a - c < -2147516416) :
    Calls Try.prog 8 #[.int .u8 kind, .bool g, .int .i64 s, .int .i64 a, .int .i64 p, .int .i64 c, .int .u16 ra, .int .u16 rb] w fun e w' => e = .returned (.bool true) ∧ Ext w w' := by
  have n1 := fun W => near4 s a p c true W (by simp [hs, ha, hp, hc])
  obtain ⟨V, k⟩ : ∃ V, ∀ W : World, Calls Try.prog 23 #[.bool g, .int .u32 (ra * 65536), .int .u32 (rb * 65536)] W fun e w' => e = .returned (.int .i64 V) ∧ W = w' := ⟨_, fun W => pack_as g _ _ _ W (by omega) (by omega) (by omega) (by omega) rfl⟩
  have d := fun W => impPow_bad (pow1_far g s a p c V W (sx42 hs) (sx42 ha) (sx42 hp) (sx42 hc) (by omega) (show (s + a - c != wrap64 (wrap32 (s + a - c))) = true by have := sx42 hs; have := sx42 ha; have := sx42 hc; rw [bne_iff_ne]; unfold wrap64 wrap32; omega))
  obtain ⟨hs1, hs2⟩ := sx42 hs
  obtain ⟨ha1, ha2⟩ := sx42 ha
  obtain ⟨hp1, hp2⟩ := sx42 hp
  obtain ⟨hc1, hc2⟩ := sx42 hc
  have n3 := fun W => fits_as (s + a - c) 32 false W (by decide) (by decide) (nofit32 _ (by omega))
  have n4 := fun W => fits_as (s + a - c + 32768) 32 false W (by decide) (by decide) (nofit32 _ (by omega))
  obtain ⟨ia, ib, ic⟩ := i25 5 10 8
  obtain ⟨ja, jb, jc⟩ := i26 0 c p
  clear hs ha hp hc
  go_enter Try.func8, Try.ntmps8
  go_wp2_with (first | (go_at_call 12; ((with_reducible refine (n1 _).mono ?_); rintro e w' ⟨rfl, rfl⟩)) | (go_at_call 23; ((with_reducible refine (k _).mono ?_); rintro e w' ⟨rfl, rfl⟩)) | (go_at_call 15; ((with_reducible refine (n3 _).mono ?_); rintro e w' ⟨rfl, rfl⟩)) | (go_at_call 15; ((with_reducible refine (n4 _).mono ?_); rintro e w' ⟨rfl, rfl⟩)) | (go_at_call 21; ((with_reducible refine (d _).mono ?_); rintro e w' ⟨⟨o, rfl⟩, rfl⟩)))
  go_ret
  exact ⟨rfl, by repeat (first | exact Ext.refl _ | apply Ext.drewN | apply Ext.alloc)⟩
set_option maxHeartbeats 1600000 in
theorem law1_low (g : Bool) (kind s a p c ra rb : Int) (w : World) (hk : kind % 3 = 1) (k0 : 0 ≤ kind) (k1 : kind ≤ 255) (hs : sx 42 s = s) (ha : sx 42 a = a) (hp : sx 42 p = p) (hc : sx 42 c = c) (a0 : 0 ≤ ra) (a1 : ra ≤ 65535) (b0 : 0 ≤ rb) (b1 : rb ≤ 65535) (t1 : -2147516416 ≤ s + a - c) (t2 : s + a - c < -2147483648) :
    Calls Try.prog 8 #[.int .u8 kind, .bool g, .int .i64 s, .int .i64 a, .int .i64 p, .int .i64 c, .int .u16 ra, .int .u16 rb] w fun e w' => e = .returned (.bool true) ∧ Ext w w' := by
  have n1 := fun W => near4 s a p c true W (by simp [hs, ha, hp, hc])
  obtain ⟨V, k⟩ : ∃ V, ∀ W : World, Calls Try.prog 23 #[.bool g, .int .u32 (ra * 65536), .int .u32 (rb * 65536)] W fun e w' => e = .returned (.int .i64 V) ∧ W = w' := ⟨_, fun W => pack_as g _ _ _ W (by omega) (by omega) (by omega) (by omega) rfl⟩
  have d := fun W => impPow_bad (pow1_far g s a p c V W (sx42 hs) (sx42 ha) (sx42 hp) (sx42 hc) (by omega) (show (s + a - c != wrap64 (wrap32 (s + a - c))) = true by have := sx42 hs; have := sx42 ha; have := sx42 hc; rw [bne_iff_ne]; unfold wrap64 wrap32; omega))
  obtain ⟨hs1, hs2⟩ := sx42 hs
  obtain ⟨ha1, ha2⟩ := sx42 ha
  obtain ⟨hp1, hp2⟩ := sx42 hp
  obtain ⟨hc1, hc2⟩ := sx42 hc
  have n3 := fun W => fits_as (s + a - c) 32 false W (by decide) (by decide) (nofit32 _ (by omega))
  have n4 := fun W => fits_as (s + a - c + 32768) 32 true W (by decide) (by decide) (fit32 _ (by omega) (by omega))
  obtain ⟨ia, ib, ic⟩ := i25 5 10 8
  obtain ⟨ja, jb, jc⟩ := i26 0 c p
  clear hs ha hp hc
  go_enter Try.func8, Try.ntmps8
  go_wp2_with (first | (go_at_call 12; ((with_reducible refine (n1 _).mono ?_); rintro e w' ⟨rfl, rfl⟩)) | (go_at_call 23; ((with_reducible refine (k _).mono ?_); rintro e w' ⟨rfl, rfl⟩)) | (go_at_call 15; ((with_reducible refine (n3 _).mono ?_); rintro e w' ⟨rfl, rfl⟩)) | (go_at_call 15; ((with_reducible refine (n4 _).mono ?_); rintro e w' ⟨rfl, rfl⟩)) | (go_at_call 21; ((with_reducible refine (d _).mono ?_); rintro e w' ⟨⟨o, rfl⟩, rfl⟩)))
  go_ret
  exact ⟨rfl, by repeat (first | exact Ext.refl _ | apply Ext.drewN | apply Ext.alloc)⟩
theorem law1 (g : Bool) (kind s a p c ra rb : Int) (w : World) (hk : kind % 3 = 1) (k0 : 0 ≤ kind) (k1 : kind ≤ 255) (hs : sx 42 s = s) (ha : sx 42 a = a) (hp : sx 42 p = p) (hc : sx 42 c = c) (a0 : 0 ≤ ra) (a1 : ra ≤ 65535) (b0 : 0 ≤ rb) (b1 : rb ≤ 65535) :
    Calls Try.prog 8 #[.int .u8 kind, .bool g, .int .i64 s, .int .i64 a, .int .i64 p, .int .i64 c, .int .u16 ra, .int .u16 rb] w fun e w' => e = .returned (.bool true) ∧ Ext w w' := by
  by_cases h1 : s + a - c < -2147516416
  · exact law1_deep g kind s a p c ra rb w hk k0 k1 hs ha hp hc a0 a1 b0 b1 h1
  · by_cases h0 : s + a - c < -2147483648
    · exact law1_low g kind s a p c ra rb w hk k0 k1 hs ha hp hc a0 a1 b0 b1 (by omega) h0
    · by_cases h2 : s + a - c < 2147450880
      · cases g with
        | false => exact law1L_in kind s a p c ra rb w hk k0 k1 hs ha hp hc a0 a1 b0 b1 (by omega) h2
        | true => exact law1G_in kind s a p c ra rb w hk k0 k1 hs ha hp hc a0 a1 b0 b1 (by omega) h2
      · by_cases h3 : s + a - c < 2147483648
        · exact law1_edge g kind s a p c ra rb w hk k0 k1 hs ha hp hc a0 a1 b0 b1 (by omega) h3
        · exact law1_far g kind s a p c ra rb w hk k0 k1 hs ha hp hc a0 a1 b0 b1 (by omega)
set_option maxHeartbeats 1600000 in
theorem go2_in (g : Bool) (kind s a p c ra rb V o X Y R Q : Int) (w : World) (hk : kind % 3 = 2) (k0 : 0 ≤ kind) (k1 : kind ≤ 255) (hs : sx 42 s = s) (ha : sx 42 a = a) (hp : sx 42 p = p) (hc : sx 42 c = c) (a0 : 0 ≤ ra) (a1 : ra ≤ 65535) (b0 : 0 ≤ rb) (b1 : rb ≤ 65535) (t1 : -2147483648 ≤ s + a - p) (t2 : s + a - p < 2147450880)
    (k : ∀ W : World, Calls Try.prog 23 #[.bool g, .int .u32 (ra * 65536), .int .u32 (rb * 65536)] W fun e w' => e = .returned (.int .i64 V) ∧ W = w')
    (d : ∀ W : World, Calls Try.prog 21 #[.int .i64 8, .bool g, .bool false, .int .i64 s, .int .i64 a, .int .i64 p, .int .i64 c, .int .i64 V] W fun e w' => e = .returned (.tuple #[.int .i64 o, .int .i64 0, .bool true]) ∧ W = w')
    (u : ∀ W : World, Calls Try.prog 24 #[.bool g, .int .i64 o] W fun e w' => e = .returned (.tuple #[.int .u32 X, .int .u32 Y]) ∧ W = w')
    (X0 : 0 ≤ X) (X1 : X < 4294967296) (Y0 : 0 ≤ Y) (Y1 : Y < 4294967296) (hR : sx 16 X = R) (hQ : sx 16 Y = Q) (R0 : -32768 ≤ R) (R1 : R < 32768) (Q0 : -32768 ≤ Q) (Q1 : Q < 32768)
    (X5 : (R * 65536 + Q == s + a - p) = true) (X6 : (X / 65536 == ra) = true) (X7 : (Y / 65536 == rb) = true) :
    Calls Try.prog 8 #[.int .u8 kind, .bool g, .int .i64 s, .int .i64 a, .int .i64 p, .int .i64 c, .int .u16 ra, .int .u16 rb] w fun e w' => e = .returned (.bool true) ∧ Ext w w' := by
  have n1 := fun W => near4 s a p c true W (by simp [hs, ha, hp, hc])
  obtain ⟨hs1, hs2⟩ := sx42 hs
  obtain ⟨ha1, ha2⟩ := sx42 ha
  obtain ⟨hp1, hp2⟩ := sx42 hp
  obtain ⟨hc1, hc2⟩ := sx42 hc
  have n3 := fun W => fits_as (s + a - p) 32 true W (by decide) (by decide) (fit32 _ (by omega) (by omega))
  have n4 := fun W => fits_as (s + a - p + 32768) 32 true W (by decide) (by decide) (fit32 _ (by omega) (by omega))
  have r := fun W => rdHalf X R W X0 X1 hR
  have q := fun W => rdHalf Y Q W Y0 Y1 hQ
  obtain ⟨ia, ib, ic⟩ := i25 5 10 8
  obtain ⟨ja, jb, jc⟩ := i26 0 c p
  clear hs ha hp hc hR hQ
  go_enter Try.func8, Try.ntmps8
  go_wp2_with (first | (go_at_call 12; ((with_reducible refine (n1 _).mono ?_); rintro e w' ⟨rfl, rfl⟩)) | (go_at_call 23; ((with_reducible refine (k _).mono ?_); rintro e w' ⟨rfl, rfl⟩)) | (go_at_call 15; ((with_reducible refine (n3 _).mono ?_); rintro e w' ⟨rfl, rfl⟩)) | (go_at_call 15; ((with_reducible refine (n4 _).mono ?_); rintro e w' ⟨rfl, rfl⟩)) | (go_at_call 21; ((with_reducible refine (d _).mono ?_); rintro e w' ⟨rfl, rfl⟩)) | (go_at_call 24; ((with_reducible refine (u _).mono ?_); rintro e w' ⟨rfl, rfl⟩)) | (go_at_call 25; ((with_reducible refine (r _).mono ?_); rintro e w' ⟨rfl, rfl⟩)) | (go_at_call 25; ((with_reducible refine (q _).mono ?_); rintro e w' ⟨rfl, rfl⟩)))
  go_ret
  exact ⟨rfl, by repeat (first | exact Ext.refl _ | apply Ext.drewN | apply Ext.alloc)⟩
theorem law2L_in (kind s a p c ra rb : Int) (w : World) (hk : kind % 3 = 2) (k0 : 0 ≤ kind) (k1 : kind ≤ 255) (hs : sx 42 s = s) (ha : sx 42 a = a) (hp : sx 42 p = p) (hc : sx 42 c = c) (a0 : 0 ≤ ra) (a1 : ra ≤ 65535) (b0 : 0 ≤ rb) (b1 : rb ≤ 65535) (t1 : -2147483648 ≤ s + a - p) (t2 : s + a - p < 2147450880) :
    Calls Try.prog 8 #[.int .u8 kind, .bool false, .int .i64 s, .int .i64 a, .int .i64 p, .int .i64 c, .int .u16 ra, .int .u16 rb] w fun e w' => e = .returned (.bool true) ∧ Ext w w' := by
  have A0 : 0 ≤ ra * 65536 := by omega
  have A1 : ra * 65536 < 4294967296 := by omega
  have B0 : 0 ≤ rb * 65536 := by omega
  have B1 : rb * 65536 < 4294967296 := by omega
  have x := HX_in ra (s + a - p) a0 a1
  have y := LY_in rb (s + a - p) b0 b1
  exact go2_in false kind s a p c ra rb (wrap64 (rb * 65536 * 4294967296 + ra * 65536)) _ _ _ ((s + a - p + 32768) / 65536) (s + a - p - (s + a - p + 32768) / 65536 * 65536) w hk k0 k1 hs ha hp hc a0 a1 b0 b1 t1 t2
    (fun W => pack_as false _ _ _ W A0 A1 B0 B1 (by rw [if_neg (by decide), or_comm', words _ _ A0 A1 B0 B1]))
    (fun W => impPow (pow2L_in s a p c _ (ra * 65536) (rb * 65536) _ _ _ W (sx42 hs) (sx42 ha) (sx42 hp) (sx42 hc) (cut_hi _ _ A0 A1 B0 B1) (cut_lo _ _ A0 A1) t1 t2 (by rw [u16h, halfput ra _ a0 a1 (by omega) (by omega)]; rfl) (by rw [u16h, halfput rb _ b0 b1 (by omega) (by omega)]; rfl) x.1 x.2 y.1 y.2 ((or_comm' .i64 _ _).trans (words _ _ x.1 x.2 y.1 y.2))))
    (fun W => unpack_as false _ _ _ W (by rw [if_neg (by decide)]; exact cut_lo _ _ x.1 x.2) (by rw [if_neg (by decide)]; exact cut_hi _ _ x.1 x.2 y.1 y.2))
    x.1 x.2 y.1 y.2 (HX_half ra _ (by omega) t2) (LY_half rb _) (by omega) (by omega) (by omega) (by omega) (by rw [beq_iff_eq]; omega) (HX_hi ra _ a0 a1) (LY_hi rb _ b0 b1)
theorem law2G_in (kind s a p c ra rb : Int) (w : World) (hk : kind % 3 = 2) (k0 : 0 ≤ kind) (k1 : kind ≤ 255) (hs : sx 42 s = s) (ha : sx 42 a = a) (hp : sx 42 p = p) (hc : sx 42 c = c) (a0 : 0 ≤ ra) (a1 : ra ≤ 65535) (b0 : 0 ≤ rb) (b1 : rb ≤ 65535) (t1 : -2147483648 ≤ s + a - p) (t2 : s + a - p < 2147450880) :
    Calls Try.prog 8 #[.int .u8 kind, .bool true, .int .i64 s, .int .i64 a, .int .i64 p, .int .i64 c, .int .u16 ra, .int .u16 rb] w fun e w' => e = .returned (.bool true) ∧ Ext w w' := by
  have A0 : 0 ≤ ra * 65536 := by omega
  have A1 : ra * 65536 < 4294967296 := by omega
  have B0 : 0 ≤ rb * 65536 := by omega
  have B1 : rb * 65536 < 4294967296 := by omega
  have x := HX_in ra (s + a - p) a0 a1
  have y := LY_in rb (s + a - p) b0 b1
  exact go2_in true kind s a p c ra rb (wrap64 (ra * 65536 * 4294967296 + rb * 65536)) _ _ _ ((s + a - p + 32768) / 65536) (s + a - p - (s + a - p + 32768) / 65536 * 65536) w hk k0 k1 hs ha hp hc a0 a1 b0 b1 t1 t2
    (fun W => pack_as true _ _ _ W A0 A1 B0 B1 (by rw [if_pos rfl, words _ _ B0 B1 A0 A1]))
    (fun W => impPow (pow2G_in s a p c _ (ra * 65536) (rb * 65536) _ _ _ W (sx42 hs) (sx42 ha) (sx42 hp) (sx42 hc) (cut_hi _ _ B0 B1 A0 A1) (cut_lo _ _ B0 B1) t1 t2 (by rw [u16h, halfput ra _ a0 a1 (by omega) (by omega)]; rfl) (by rw [u16h, halfput rb _ b0 b1 (by omega) (by omega)]; rfl) x.1 x.2 y.1 y.2 (words _ _ y.1 y.2 x.1 x.2)))
    (fun W => unpack_as true _ _ _ W (by rw [if_pos rfl]; exact cut_hi _ _ y.1 y.2 x.1 x.2) (by rw [if_pos rfl]; exact cut_lo _ _ y.1 y.2))
    x.1 x.2 y.1 y.2 (HX_half ra _ (by omega) t2) (LY_half rb _) (by omega) (by omega) (by omega) (by omega) (by rw [beq_iff_eq]; omega) (HX_hi ra _ a0 a1) (LY_hi rb _ b0 b1)
set_option maxHeartbeats 1600000 in
theorem law2_edge (g : Bool) (kind s a p c ra rb : Int) (w : World) (hk : kind % 3 = 2) (k0 : 0 ≤ kind) (k1 : kind ≤ 255) (hs : sx 42 s = s) (ha : sx 42 a = a) (hp : sx 42 p = p) (hc : sx 42 c = c) (a0 : 0 ≤ ra) (a1 : ra ≤ 65535) (b0 : 0 ≤ rb) (b1 : rb ≤ 65535) (t1 : 2147450880 ≤ s + a - p) (t2 : s + a - p < 2147483648) :
    Calls Try.prog 8 #[.int .u8 kind, .bool g, .int .i64 s, .int .i64 a, .int .i64 p, .int .i64 c, .int .u16 ra, .int .u16 rb] w fun e w' => e = .returned (.bool true) ∧ Ext w w' := by
  have n1 := fun W => near4 s a p c true W (by simp [hs, ha, hp, hc])
  obtain ⟨V, k⟩ : ∃ V, ∀ W : World, Calls Try.prog 23 #[.bool g, .int .u32 (ra * 65536), .int .u32 (rb * 65536)] W fun e w' => e = .returned (.int .i64 V) ∧ W = w' := ⟨_, fun W => pack_as g _ _ _ W (by omega) (by omega) (by omega) (by omega) rfl⟩
  have d := fun W => impPow_bad (pow2_any g s a p c V W (sx42 hs) (sx42 ha) (sx42 hp) (sx42 hc) trivial)
  obtain ⟨hs1, hs2⟩ := sx42 hs
  obtain ⟨ha1, ha2⟩ := sx42 ha
  obtain ⟨hp1, hp2⟩ := sx42 hp
  obtain ⟨hc1, hc2⟩ := sx42 hc
  have n3 := fun W => fits_as (s + a - p) 32 true W (by decide) (by decide) (fit32 _ (by omega) (by omega))
  have n4 := fun W => fits_as (s + a - p + 32768) 32 false W (by decide) (by decide) (nofit32 _ (by omega))
  obtain ⟨ia, ib, ic⟩ := i25 5 10 8
  obtain ⟨ja, jb, jc⟩ := i26 0 c p
  clear hs ha hp hc
  go_enter Try.func8, Try.ntmps8
  go_wp2_with (first | (go_at_call 12; ((with_reducible refine (n1 _).mono ?_); rintro e w' ⟨rfl, rfl⟩)) | (go_at_call 23; ((with_reducible refine (k _).mono ?_); rintro e w' ⟨rfl, rfl⟩)) | (go_at_call 15; ((with_reducible refine (n3 _).mono ?_); rintro e w' ⟨rfl, rfl⟩)) | (go_at_call 15; ((with_reducible refine (n4 _).mono ?_); rintro e w' ⟨rfl, rfl⟩)) | (go_at_call 21; ((with_reducible refine (d _).mono ?_); rintro e w' ⟨⟨o, rfl⟩, rfl⟩)))
  go_ret
  exact ⟨rfl, by repeat (first | exact Ext.refl _ | apply Ext.drewN | apply Ext.alloc)⟩
set_option maxHeartbeats 1600000 in
theorem law2_far (g : Bool) (kind s a p c ra rb : Int) (w : World) (hk : kind % 3 = 2) (k0 : 0 ≤ kind) (k1 : kind ≤ 255) (hs : sx 42 s = s) (ha : sx 42 a = a) (hp : sx 42 p = p) (hc : sx 42 c = c) (a0 : 0 ≤ ra) (a1 : ra ≤ 65535) (b0 : 0 ≤ rb) (b1 : rb ≤ 65535) (t1 : 2147483648 ≤ s + a - p) :
    Calls Try.prog 8 #[.int .u8 kind, .bool g, .int .i64 s, .int .i64 a, .int .i64 p, .int .i64 c, .int .u16 ra, .int .u16 rb] w fun e w' => e = .returned (.bool true) ∧ Ext w w' := by
  have n1 := fun W => near4 s a p c true W (by simp [hs, ha, hp, hc])
  obtain ⟨V, k⟩ : ∃ V, ∀ W : World, Calls Try.prog 23 #[.bool g, .int .u32 (ra * 65536), .int .u32 (rb * 65536)] W fun e w' => e = .returned (.int .i64 V) ∧ W = w' := ⟨_, fun W => pack_as g _ _ _ W (by omega) (by omega) (by omega) (by omega) rfl⟩
  have d := fun W => impPow_bad (pow2_any g s a p c V W (sx42 hs) (sx42 ha) (sx42 hp) (sx42 hc) trivial)
  obtain ⟨hs1, hs2⟩ := sx42 hs
  obtain ⟨ha1, ha2⟩ := sx42 ha
  obtain ⟨hp1, hp2⟩ := sx42 hp
  obtain ⟨hc1, hc2⟩ := sx42 hc
  have n3 := fun W => fits_as (s + a - p) 32 false W (by decide) (by decide) (nofit32 _ (by omega))
  have n4 := fun W => fits_as (s + a - p + 32768) 32 false W (by decide) (by decide) (nofit32 _ (by omega))
  obtain ⟨ia, ib, ic⟩ := i25 5 10 8
  obtain ⟨ja, jb, jc⟩ := i26 0 c p
  clear hs ha hp hc
  go_enter Try.func8, Try.ntmps8
  go_wp2_with (first | (go_at_call 12; ((with_reducible refine (n1 _).mono ?_); rintro e w' ⟨rfl, rfl⟩)) | (go_at_call 23; ((with_reducible refine (k _).mono ?_); rintro e w' ⟨rfl, rfl⟩)) | (go_at_call 15; ((with_reducible refine (n3 _).mono ?_); rintro e w' ⟨rfl, rfl⟩)) | (go_at_call 15; ((with_reducible refine (n4 _).mono ?_); rintro e w' ⟨rfl, rfl⟩)) | (go_at_call 21; ((with_reducible refine (d _).mono ?_); rintro e w' ⟨⟨o, rfl⟩, rfl⟩)))
  go_ret
  exact ⟨rfl, by repeat (first | exact Ext.refl _ | apply Ext.drewN | apply Ext.alloc)⟩
set_option maxHeartbeats 1600000 in
theorem law2_deep (g : Bool) (kind s a p c ra rb : Int) (w : World) (hk : kind % 3 = 2) (k0 : 0 ≤ kind) (k1 : kind ≤ 255) (hs : sx 42 s = s) (ha : sx 42 a = a) (hp : sx 42 p = p) (hc : sx 42 c = c) (a0 : 0 ≤ ra) (a1 : ra ≤ 65535) (b0 : 0 ≤ rb) (b1 : rb ≤ 65535) (t1 : s + a - p < -2147516416) :
    Calls Try.prog 8 #[.int .u8 kind, .bool g, .int .i64 s, .int .i64 a, .int .i64 p, .int .i64 c, .int .u16 ra, .int .u16 rb] w fun e w' => e = .returned (.bool true) ∧ Ext w w' := by
  have n1 := fun W => near4 s a p c true W (by simp [hs, ha, hp, hc])
  obtain ⟨V, k⟩ : ∃ V, ∀ W : World, Calls Try.prog 23 #[.bool g, .int .u32 (ra * 65536), .int .u32 (rb * 65536)] W fun e w' => e = .returned (.int .i64 V) ∧ W = w' := ⟨_, fun W => pack_as g _ _ _ W (by omega) (by omega) (by omega) (by omega) rfl⟩
  have d := fun W => impPow_bad (pow2_any g s a p c V W (sx42 hs) (sx42 ha) (sx42 hp) (sx42 hc) trivial)
  obtain ⟨hs1, hs2⟩ := sx42 hs
  obtain ⟨ha1, ha2⟩ := sx42 ha
  obtain ⟨hp1, hp2⟩ := sx42 hp
  obtain ⟨hc1, hc2⟩ := sx42 hc
  have n3 := fun W => fits_as (s + a - p) 32 false W (by decide) (by decide) (nofit32 _ (by omega))
  have n4 := fun W => fits_as (s + a - p + 32768) 32 false W (by decide) (by decide) (nofit32 _ (by omega))
  obtain ⟨ia, ib, ic⟩ := i25 5 10 8
  obtain ⟨ja, jb, jc⟩ := i26 0 c p
  clear hs ha hp hc
  go_enter Try.func8, Try.ntmps8
  go_wp2_with (first | (go_at_call 12; ((with_reducible refine (n1 _).mono ?_); rintro e w' ⟨rfl, rfl⟩)) | (go_at_call 23; ((with_reducible refine (k _).mono ?_); rintro e w' ⟨rfl, rfl⟩)) | (go_at_call 15; ((with_reducible refine (n3 _).mono ?_); rintro e w' ⟨rfl, rfl⟩)) | (go_at_call 15; ((with_reducible refine (n4 _).mono ?_); rintro e w' ⟨rfl, rfl⟩)) | (go_at_call 21; ((with_reducible refine (d _).mono ?_); rintro e w' ⟨⟨o, rfl⟩, rfl⟩)))
  go_ret
  exact ⟨rfl, by repeat (first | exact Ext.refl _ | apply Ext.drewN | apply Ext.alloc)⟩
set_option maxHeartbeats 1600000 in
theorem law2_low (g : Bool) (kind s a p c ra rb : Int) (w : World) (hk : kind % 3 = 2) (k0 : 0 ≤ kind) (k1 : kind ≤ 255) (hs : sx 42 s = s) (ha : sx 42 a = a) (hp : sx 42 p = p) (hc : sx 42 c = c) (a0 : 0 ≤ ra) (a1 : ra ≤ 65535) (b0 : 0 ≤ rb) (b1 : rb ≤ 65535) (t1 : -2147516416 ≤ s + a - p) (t2 : s + a - p < -2147483648) :
    Calls Try.prog 8 #[.int .u8 kind, .bool g, .int .i64 s, .int .i64 a, .int .i64 p, .int .i64 c, .int .u16 ra, .int .u16 rb] w fun e w' => e = .returned (.bool true) ∧ Ext w w' := by
  have n1 := fun W => near4 s a p c true W (by simp [hs, ha, hp, hc])
  obtain ⟨V, k⟩ : ∃ V, ∀ W : World, Calls Try.prog 23 #[.bool g, .int .u32 (ra * 65536), .int .u32 (rb * 65536)] W fun e w' => e = .returned (.int .i64 V) ∧ W = w' := ⟨_, fun W => pack_as g _ _ _ W (by omega) (by omega) (by omega) (by omega) rfl⟩
  have d := fun W => impPow_bad (pow2_any g s a p c V W (sx42 hs) (sx42 ha) (sx42 hp) (sx42 hc) trivial)
  obtain ⟨hs1, hs2⟩ := sx42 hs
  obtain ⟨ha1, ha2⟩ := sx42 ha
  obtain ⟨hp1, hp2⟩ := sx42 hp
  obtain ⟨hc1, hc2⟩ := sx42 hc
  have n3 := fun W => fits_as (s + a - p) 32 false W (by decide) (by decide) (nofit32 _ (by omega))
  have n4 := fun W => fits_as (s + a - p + 32768) 32 true W (by decide) (by decide) (fit32 _ (by omega) (by omega))
  obtain ⟨ia, ib, ic⟩ := i25 5 10 8
  obtain ⟨ja, jb, jc⟩ := i26 0 c p
  clear hs ha hp hc
  go_enter Try.func8, Try.ntmps8
  go_wp2_with (first | (go_at_call 12; ((with_reducible refine (n1 _).mono ?_); rintro e w' ⟨rfl, rfl⟩)) | (go_at_call 23; ((with_reducible refine (k _).mono ?_); rintro e w' ⟨rfl, rfl⟩)) | (go_at_call 15; ((with_reducible refine (n3 _).mono ?_); rintro e w' ⟨rfl, rfl⟩)) | (go_at_call 15; ((with_reducible refine (n4 _).mono ?_); rintro e w' ⟨rfl, rfl⟩)) | (go_at_call 21; ((with_reducible refine (d _).mono ?_); rintro e w' ⟨⟨o, rfl⟩, rfl⟩)))
  go_ret
  exact ⟨rfl, by repeat (first | exact Ext.refl _ | apply Ext.drewN | apply Ext.alloc)⟩
theorem law2 (g : Bool) (kind s a p c ra rb : Int) (w : World) (hk : kind % 3 = 2) (k0 : 0 ≤ kind) (k1 : kind ≤ 255) (hs : sx 42 s = s) (ha : sx 42 a = a) (hp : sx 42 p = p) (hc : sx 42 c = c) (a0 : 0 ≤ ra) (a1 : ra ≤ 65535) (b0 : 0 ≤ rb) (b1 : rb ≤ 65535) :
    Calls Try.prog 8 #[.int .u8 kind, .bool g, .int .i64 s, .int .i64 a, .int .i64 p, .int .i64 c, .int .u16 ra, .int .u16 rb] w fun e w' => e = .returned (.bool true) ∧ Ext w w' := by
  by_cases h1 : s + a - p < -2147516416
  · exact law2_deep g kind s a p c ra rb w hk k0 k1 hs ha hp hc a0 a1 b0 b1 h1
  · by_cases h0 : s + a - p < -2147483648
    · exact law2_low g kind s a p c ra rb w hk k0 k1 hs ha hp hc a0 a1 b0 b1 (by omega) h0
    · by_cases h2 : s + a - p < 2147450880
      · cases g with
        | false => exact law2L_in kind s a p c ra rb w hk k0 k1 hs ha hp hc a0 a1 b0 b1 (by omega) h2
        | true => exact law2G_in kind s a p c ra rb w hk k0 k1 hs ha hp hc a0 a1 b0 b1 (by omega) h2
      · by_cases h3 : s + a - p < 2147483648
        · exact law2_edge g kind s a p c ra rb w hk k0 k1 hs ha hp hc a0 a1 b0 b1 (by omega) h3
        · exact law2_far g kind s a p c ra rb w hk k0 k1 hs ha hp hc a0 a1 b0 b1 (by omega)
theorem law_shut (g : Bool) (kind s a p c ra rb : Int) (w : World) (hn : ¬ (sx 42 s = s ∧ sx 42 a = a ∧ sx 42 p = p ∧ sx 42 c = c)) :
    Calls Try.prog 8 #[.int .u8 kind, .bool g, .int .i64 s, .int .i64 a, .int .i64 p, .int .i64 c, .int .u16 ra, .int .u16 rb] w fun e w' => e = .returned (.bool true) ∧ Ext w w' := by
  have n1 := fun W => near4 s a p c false W (by simpa using hn)
  clear hn
  go_enter Try.func8, Try.ntmps8
  go_wp2_with (go_at_call 12; ((with_reducible refine (n1 _).mono ?_); rintro e w' ⟨rfl, rfl⟩))
  go_ret
  exact ⟨rfl, by repeat (first | exact Ext.refl _ | apply Ext.drewN | apply Ext.alloc)⟩
theorem walkFnPowerAddress (a0 : Int) (a1 : Bool) (a2 a3 a4 a5 a6 a7 : Int) (w : World) (w0 : (Lit.int .u8 a0).wf = true) (w2 : (Lit.int .i64 a2).wf = true) (w3 : (Lit.int .i64 a3).wf = true) (w4 : (Lit.int .i64 a4).wf = true) (w5 : (Lit.int .i64 a5).wf = true) (w6 : (Lit.int .u16 a6).wf = true) (w7 : (Lit.int .u16 a7).wf = true) :
    Calls Try.prog 8 #[.int .u8 a0, .bool a1, .int .i64 a2, .int .i64 a3, .int .i64 a4, .int .i64 a5, .int .u16 a6, .int .u16 a7] w fun e w' => e = .returned (.bool true) ∧ Ext w w' := by
  have b := wf_u16 w6
  have d := wf_u16 w7
  have k := wf_u8 w0
  by_cases hn : sx 42 a2 = a2 ∧ sx 42 a3 = a3 ∧ sx 42 a4 = a4 ∧ sx 42 a5 = a5
  · have hk : a0 % 3 = 0 ∨ a0 % 3 = 1 ∨ a0 % 3 = 2 := by omega
    rcases hk with hk | hk | hk
    · exact law0 a1 a0 a2 a3 a4 a5 a6 a7 w hk k.1 k.2 hn.1 hn.2.1 hn.2.2.1 hn.2.2.2 b.1 b.2 d.1 d.2
    · exact law1 a1 a0 a2 a3 a4 a5 a6 a7 w hk k.1 k.2 hn.1 hn.2.1 hn.2.2.1 hn.2.2.2 b.1 b.2 d.1 d.2
    · exact law2 a1 a0 a2 a3 a4 a5 a6 a7 w hk k.1 k.2 hn.1 hn.2.1 hn.2.2.1 hn.2.2.2 b.1 b.2 d.1 d.2
  · exact law_shut a1 a0 a2 a3 a4 a5 a6 a7 w hn
end Go.Proofs.Ytcchhdjpmnhfmaa.Wk
