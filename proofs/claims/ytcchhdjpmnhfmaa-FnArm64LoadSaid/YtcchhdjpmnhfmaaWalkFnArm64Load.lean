/- The law FnArm64Load returns true: the page of ADRP and the low bits of a load or a store of 1, 2, 4 or 8 bytes, which count so many, are together the symbol with the addend if that is less than 2^32 bytes away from the page and a multiple of them, else an error is told: for numbers of 42 bits with their sign (the statement's own guard) and every two instructions of 32 bits (their fields are made nought by the statement). -/
import Derived.Test.YtcchhdjpmnhfmaaArmAddr
namespace Go.Proofs.Ytcchhdjpmnhfmaa.Wk
set_option linter.unusedVariables false
open Go.RowKit Go.Proofs.Ytcchhdjpmnhfmaa.Aid
theorem page_in (p : Int) (hp : -2199023255552 ≤ p ∧ p < 2199023255552) : bits .andNot .i64 p 4095 = p - p % 4096 ∧ -4398046511104 ≤ p - p % 4096 ∧ p - p % 4096 < 4398046511104 ∧ (p - p % 4096) % 4096 = 0 := ⟨cut12 p (by omega), by omega, by omega, by omega⟩
theorem i44 (x y z u : Int) : (∀ w, (Instr.index 44 (.agg #[.int .i64 x, .int .i64 y, .int .i64 z, .int .i64 u]) (.int .i64 0)).run Try.prog w = .ok (.int .i64 x) w) ∧ (∀ w, (Instr.index 44 (.agg #[.int .i64 x, .int .i64 y, .int .i64 z, .int .i64 u]) (.int .i64 1)).run Try.prog w = .ok (.int .i64 y) w) ∧ (∀ w, (Instr.index 44 (.agg #[.int .i64 x, .int .i64 y, .int .i64 z, .int .i64 u]) (.int .i64 2)).run Try.prog w = .ok (.int .i64 z) w) ∧ (∀ w, (Instr.index 44 (.agg #[.int .i64 x, .int .i64 y, .int .i64 z, .int .i64 u]) (.int .i64 3)).run Try.prog w = .ok (.int .i64 u) w) :=
  ⟨fun _ => by kernel_rfl, fun _ => by kernel_rfl, fun _ => by kernel_rfl, fun _ => by kernel_rfl⟩
theorem tm_yes (x n : Int) (h : x % n = 0) : (Int.tmod x n != 0) = false := by
  rw [bne_eq_false_iff_eq, ← Int.dvd_iff_tmod_eq_zero]; exact Int.dvd_of_emod_eq_zero h
theorem tm_no (x n : Int) (h : x % n ≠ 0) : (Int.tmod x n != 0) = true := by
  rw [bne_iff_ne]; intro e; rw [← Int.dvd_iff_tmod_eq_zero] at e; exact h (Int.emod_eq_zero_of_dvd e)
set_option maxHeartbeats 1600000 in
theorem go8_in (kind s a p ra rb A B P V o X Y R Q : Int) (w : World) (hk : kind % 4 = 0) (k0 : 0 ≤ kind) (k1 : kind ≤ 255) (hs : sx 42 s = s) (ha : sx 42 a = a) (hp : sx 42 p = p) (hA : bits .andNot .u32 ra 1627389920 = A) (hB : bits .andNot .u32 rb 4193280 = B)
    (A0 : 0 ≤ A) (A1 : A < 4294967296) (B0 : 0 ≤ B) (B1 : B < 4294967296) (hP : bits .andNot .i64 p 4095 = P) (P0 : -4398046511104 ≤ P) (P1 : P < 4398046511104)
    (t1 : -4294967296 ≤ s + a - P) (t2 : s + a - P < 4294967296)
    (k : ∀ W : World, Calls Try.prog 23 #[.bool false, .int .u32 A, .int .u32 B] W fun e w' => e = .returned (.int .i64 V) ∧ W = w')
    (c : ∀ W : World, Calls Try.prog 26 #[.int .i64 22, .bool false, .bool false, .bool false, .int .i64 s, .int .i64 a, .int .i64 p, .int .i64 V] W fun e w' => e = .returned (.tuple #[.int .i64 o, .int .i64 0, .bool true]) ∧ W = w')
    (u : ∀ W : World, Calls Try.prog 24 #[.bool false, .int .i64 o] W fun e w' => e = .returned (.tuple #[.int .u32 X, .int .u32 Y]) ∧ W = w')
    (X0 : 0 ≤ X) (X1 : X < 4294967296) (Y0 : 0 ≤ Y) (Y1 : Y < 4294967296) (hR : sx 21 (X / 32 % 524288 * 4 + X / 536870912 % 4) = R) (hQ : Y / 1024 % 4096 = Q) (R0 : -1048576 ≤ R) (R1 : R < 1048576) (Q0 : 0 ≤ Q) (Q1 : Q < 4096)
    (X5 : (P + R * 4096 + Q == s + a) = true) (X6 : (bits .andNot .u32 X 1627389920 == A) = true) (X7 : (bits .andNot .u32 Y 4193280 == B) = true) :
    Calls Try.prog 11 #[.int .u8 kind, .int .i64 s, .int .i64 a, .int .i64 p, .int .u32 ra, .int .u32 rb] w fun e w' => e = .returned (.bool true) ∧ Ext w w' := by
  have n1 := fun W => near3 s a p true W (by simp [hs, ha, hp])
  obtain ⟨hs1, hs2⟩ := sx42 hs
  obtain ⟨ha1, ha2⟩ := sx42 ha
  obtain ⟨hp1, hp2⟩ := sx42 hp
  have n3 := fun W => fits_as (s + a - P) 33 true W (by decide) (by decide) (show (sx 33 (s + a - P) == (s + a - P)) = true by rw [beq_iff_eq]; simp only [sx]; omega)
  have r := fun W => rdArmPage X R W X0 X1 hR
  have q := fun W => rdArmLow Y Q W Y0 Y1 hQ
  have X4 := tm_yes (s + a) 1 (by omega)
  obtain ⟨ia, ib, ic, id_⟩ := i44 22 19 20 21
  clear hs ha hp hR hQ
  go_enter Try.func11, Try.ntmps11
  go_wp2_with (first | (go_at_call 12; ((with_reducible refine (n1 _).mono ?_); rintro e w' ⟨rfl, rfl⟩)) | (go_at_call 23; ((with_reducible refine (k _).mono ?_); rintro e w' ⟨rfl, rfl⟩)) | (go_at_call 26; ((with_reducible refine (c _).mono ?_); rintro e w' ⟨rfl, rfl⟩)) | (go_at_call 24; ((with_reducible refine (u _).mono ?_); rintro e w' ⟨rfl, rfl⟩)) | (go_at_call 15; ((with_reducible refine (n3 _).mono ?_); rintro e w' ⟨rfl, rfl⟩)) | (go_at_call 28; ((with_reducible refine (r _).mono ?_); rintro e w' ⟨rfl, nq, rfl⟩)) | (go_at_call 29; ((with_reducible refine (q _).mono ?_); rintro e w' ⟨rfl, nq, rfl⟩)))
  go_quiet (fail)
  go_wp2_with (first | (go_at_call 12; ((with_reducible refine (n1 _).mono ?_); rintro e w' ⟨rfl, rfl⟩)) | (go_at_call 23; ((with_reducible refine (k _).mono ?_); rintro e w' ⟨rfl, rfl⟩)) | (go_at_call 26; ((with_reducible refine (c _).mono ?_); rintro e w' ⟨rfl, rfl⟩)) | (go_at_call 24; ((with_reducible refine (u _).mono ?_); rintro e w' ⟨rfl, rfl⟩)) | (go_at_call 15; ((with_reducible refine (n3 _).mono ?_); rintro e w' ⟨rfl, rfl⟩)) | (go_at_call 28; ((with_reducible refine (r _).mono ?_); rintro e w' ⟨rfl, nq, rfl⟩)) | (go_at_call 29; ((with_reducible refine (q _).mono ?_); rintro e w' ⟨rfl, nq, rfl⟩)))
  go_ret
  exact ⟨rfl, by repeat (first | exact Ext.refl _ | apply Ext.drewN | apply Ext.alloc)⟩
theorem law8_in (kind s a p ra rb P : Int) (w : World) (hk : kind % 4 = 0) (k0 : 0 ≤ kind) (k1 : kind ≤ 255) (hs : sx 42 s = s) (ha : sx 42 a = a) (hp : sx 42 p = p) (a0 : 0 ≤ ra) (a1 : ra ≤ 4294967295) (b0 : 0 ≤ rb) (b1 : rb ≤ 4294967295) (hP : bits .andNot .i64 p 4095 = P) (P0 : -4398046511104 ≤ P) (P1 : P < 4398046511104) (P2 : P % 4096 = 0)
    (t1 : -4294967296 ≤ s + a - P) (t2 : s + a - P < 4294967296) :
    Calls Try.prog 11 #[.int .u8 kind, .int .i64 s, .int .i64 a, .int .i64 p, .int .u32 ra, .int .u32 rb] w fun e w' => e = .returned (.bool true) ∧ Ext w w' := by
  have hKA := cutA ra a0 a1
  have hKB := cutB rb b0 b1
  obtain ⟨A, hA⟩ : ∃ A, bits .andNot .u32 ra 1627389920 = A := ⟨_, rfl⟩
  obtain ⟨B, hB⟩ : ∃ B, bits .andNot .u32 rb 4193280 = B := ⟨_, rfl⟩
  rw [hA] at hKA
  rw [hB] at hKB
  obtain ⟨A0, A1⟩ := KA_in hKA
  obtain ⟨B0, B1⟩ := KB_in hKB
  have x := XA_in A (s + a - P) hKA
  have y := YB_in B ((s + a - P) % 4096) hKB (by omega) (by omega)
  have q1 := seg64 2 ((s + a - P) / 4096) 3 (by decide) (by decide)
  have q2 := seg64 19 ((s + a - P) / 4096 / 4) 524287 (by decide) (by decide)
  have q3 := seg64 12 (s + a - P) 4095 (by decide) (by decide)
  exact go8_in kind s a p ra rb A B P (wrap64 (B * 4294967296 + A)) _ _ _ ((s + a - P) / 4096) ((s + a - P) % 4096) w hk k0 k1 hs ha hp hA hB A0 A1 B0 B1 hP P0 P1 t1 t2 
    (fun W => pack_as false A B _ W A0 A1 B0 B1 (by rw [if_neg (by decide), or_comm', words A B A0 A1 B0 B1]))
    (fun W => impArm (rel8_in s a p _ A B P _ _ _ W (sx42 hs) (sx42 ha) hP P0 P1 (cut_hi A B A0 A1 B0 B1) (cut_lo A B A0 A1) t1 t2 (by omega) (by omega) (by omega) (by omega) (by omega) (by omega) (putA A (s + a - P) hKA)
      (by rw [q3, show (2 : Int) ^ 12 = 4096 from rfl]; exact putB B _ hKB (by omega) (by omega)) x.1 x.2 y.1 y.2 (words _ _ x.1 x.2 y.1 y.2)))
    (fun W => unpack_as false _ _ _ W (by rw [if_neg (by decide)]; exact cut_lo _ _ x.1 x.2) (by rw [if_neg (by decide)]; exact cut_hi _ _ x.1 x.2 y.1 y.2))
    x.1 x.2 y.1 y.2 (backA A _ hKA t1 t2) (backB B _ hKB (by omega) (by omega)) (by omega) (by omega) (by omega) (by omega) (by rw [beq_iff_eq]; omega) (stayA A _ hKA) (stayB B _ hKB (by omega) (by omega))
set_option maxHeartbeats 1600000 in
theorem law8_far (kind s a p ra rb P : Int) (w : World) (hk : kind % 4 = 0) (k0 : 0 ≤ kind) (k1 : kind ≤ 255) (hs : sx 42 s = s) (ha : sx 42 a = a) (hp : sx 42 p = p) (a0 : 0 ≤ ra) (a1 : ra ≤ 4294967295) (b0 : 0 ≤ rb) (b1 : rb ≤ 4294967295) (hP : bits .andNot .i64 p 4095 = P) (P0 : -4398046511104 ≤ P) (P1 : P < 4398046511104) (P2 : P % 4096 = 0)
    (ht : s + a - P < -4294967296 ∨ 4294967296 ≤ s + a - P) :
    Calls Try.prog 11 #[.int .u8 kind, .int .i64 s, .int .i64 a, .int .i64 p, .int .u32 ra, .int .u32 rb] w fun e w' => e = .returned (.bool true) ∧ Ext w w' := by
  have hKA := cutA ra a0 a1
  have hKB := cutB rb b0 b1
  obtain ⟨A, hA⟩ : ∃ A, bits .andNot .u32 ra 1627389920 = A := ⟨_, rfl⟩
  obtain ⟨B, hB⟩ : ∃ B, bits .andNot .u32 rb 4193280 = B := ⟨_, rfl⟩
  rw [hA] at hKA
  rw [hB] at hKB
  obtain ⟨A0, A1⟩ := KA_in hKA
  obtain ⟨B0, B1⟩ := KB_in hKB
  have n1 := fun W => near3 s a p true W (by simp [hs, ha, hp])
  obtain ⟨V, k⟩ : ∃ V, ∀ W : World, Calls Try.prog 23 #[.bool false, .int .u32 A, .int .u32 B] W fun e w' => e = .returned (.int .i64 V) ∧ W = w' := ⟨_, fun W => pack_as false A B _ W A0 A1 B0 B1 rfl⟩
  have c := fun W => impArm_bad (rel8_far s a p V A B P W (sx42 hs) (sx42 ha) hP P0 P1 ht )
  obtain ⟨hs1, hs2⟩ := sx42 hs
  obtain ⟨ha1, ha2⟩ := sx42 ha
  obtain ⟨hp1, hp2⟩ := sx42 hp
  have n3 := fun W => fits_as (s + a - P) 33 false W (by decide) (by decide) (show (sx 33 (s + a - P) == (s + a - P)) = false by rw [beq_eq_false_iff_ne]; simp only [sx]; omega)
  obtain ⟨ia, ib, ic, id_⟩ := i44 22 19 20 21
  clear hs ha hp hKA hKB P2 ht
  go_enter Try.func11, Try.ntmps11
  go_wp2_with (first | (go_at_call 12; ((with_reducible refine (n1 _).mono ?_); rintro e w' ⟨rfl, rfl⟩)) | (go_at_call 23; ((with_reducible refine (k _).mono ?_); rintro e w' ⟨rfl, rfl⟩)) | (go_at_call 26; ((with_reducible refine (c _).mono ?_); rintro e w' ⟨⟨o, rfl⟩, rfl⟩)) | (go_at_call 15; ((with_reducible refine (n3 _).mono ?_); rintro e w' ⟨rfl, rfl⟩)))
  go_quiet (fail)
  go_wp2_with (first | (go_at_call 12; ((with_reducible refine (n1 _).mono ?_); rintro e w' ⟨rfl, rfl⟩)) | (go_at_call 23; ((with_reducible refine (k _).mono ?_); rintro e w' ⟨rfl, rfl⟩)) | (go_at_call 26; ((with_reducible refine (c _).mono ?_); rintro e w' ⟨⟨o, rfl⟩, rfl⟩)) | (go_at_call 15; ((with_reducible refine (n3 _).mono ?_); rintro e w' ⟨rfl, rfl⟩)))
  go_ret
  exact ⟨rfl, by repeat (first | exact Ext.refl _ | apply Ext.drewN | apply Ext.alloc)⟩
theorem law8 (kind s a p ra rb P : Int) (w : World) (hk : kind % 4 = 0) (k0 : 0 ≤ kind) (k1 : kind ≤ 255) (hs : sx 42 s = s) (ha : sx 42 a = a) (hp : sx 42 p = p) (a0 : 0 ≤ ra) (a1 : ra ≤ 4294967295) (b0 : 0 ≤ rb) (b1 : rb ≤ 4294967295) (hP : bits .andNot .i64 p 4095 = P) (P0 : -4398046511104 ≤ P) (P1 : P < 4398046511104) (P2 : P % 4096 = 0) :
    Calls Try.prog 11 #[.int .u8 kind, .int .i64 s, .int .i64 a, .int .i64 p, .int .u32 ra, .int .u32 rb] w fun e w' => e = .returned (.bool true) ∧ Ext w w' := by
  by_cases hf : s + a - P < -4294967296 ∨ 4294967296 ≤ s + a - P
  · exact law8_far kind s a p ra rb P w hk k0 k1 hs ha hp a0 a1 b0 b1 hP P0 P1 P2 hf
  · exact law8_in kind s a p ra rb P w hk k0 k1 hs ha hp a0 a1 b0 b1 hP P0 P1 P2 (by omega) (by omega)
set_option maxHeartbeats 1600000 in
theorem go16_in (kind s a p ra rb A B P V o X Y R Q : Int) (w : World) (hk : kind % 4 = 1) (k0 : 0 ≤ kind) (k1 : kind ≤ 255) (hs : sx 42 s = s) (ha : sx 42 a = a) (hp : sx 42 p = p) (hA : bits .andNot .u32 ra 1627389920 = A) (hB : bits .andNot .u32 rb 4193280 = B)
    (A0 : 0 ≤ A) (A1 : A < 4294967296) (B0 : 0 ≤ B) (B1 : B < 4294967296) (hP : bits .andNot .i64 p 4095 = P) (P0 : -4398046511104 ≤ P) (P1 : P < 4398046511104)
    (t1 : -4294967296 ≤ s + a - P) (t2 : s + a - P < 4294967296) (h4 : (s + a) % 2 = 0)
    (k : ∀ W : World, Calls Try.prog 23 #[.bool false, .int .u32 A, .int .u32 B] W fun e w' => e = .returned (.int .i64 V) ∧ W = w')
    (c : ∀ W : World, Calls Try.prog 26 #[.int .i64 19, .bool false, .bool false, .bool false, .int .i64 s, .int .i64 a, .int .i64 p, .int .i64 V] W fun e w' => e = .returned (.tuple #[.int .i64 o, .int .i64 0, .bool true]) ∧ W = w')
    (u : ∀ W : World, Calls Try.prog 24 #[.bool false, .int .i64 o] W fun e w' => e = .returned (.tuple #[.int .u32 X, .int .u32 Y]) ∧ W = w')
    (X0 : 0 ≤ X) (X1 : X < 4294967296) (Y0 : 0 ≤ Y) (Y1 : Y < 4294967296) (hR : sx 21 (X / 32 % 524288 * 4 + X / 536870912 % 4) = R) (hQ : Y / 1024 % 4096 = Q) (R0 : -1048576 ≤ R) (R1 : R < 1048576) (Q0 : 0 ≤ Q) (Q1 : Q < 2048)
    (X5 : (P + R * 4096 + Q * 2 == s + a) = true) (X6 : (bits .andNot .u32 X 1627389920 == A) = true) (X7 : (bits .andNot .u32 Y 4193280 == B) = true) :
    Calls Try.prog 11 #[.int .u8 kind, .int .i64 s, .int .i64 a, .int .i64 p, .int .u32 ra, .int .u32 rb] w fun e w' => e = .returned (.bool true) ∧ Ext w w' := by
  have n1 := fun W => near3 s a p true W (by simp [hs, ha, hp])
  obtain ⟨hs1, hs2⟩ := sx42 hs
  obtain ⟨ha1, ha2⟩ := sx42 ha
  obtain ⟨hp1, hp2⟩ := sx42 hp
  have n3 := fun W => fits_as (s + a - P) 33 true W (by decide) (by decide) (show (sx 33 (s + a - P) == (s + a - P)) = true by rw [beq_iff_eq]; simp only [sx]; omega)
  have r := fun W => rdArmPage X R W X0 X1 hR
  have q := fun W => rdArmLow Y Q W Y0 Y1 hQ
  have X4 := tm_yes (s + a) 2 (by omega)
  obtain ⟨ia, ib, ic, id_⟩ := i44 22 19 20 21
  clear hs ha hp hR hQ
  go_enter Try.func11, Try.ntmps11
  go_wp2_with (first | (go_at_call 12; ((with_reducible refine (n1 _).mono ?_); rintro e w' ⟨rfl, rfl⟩)) | (go_at_call 23; ((with_reducible refine (k _).mono ?_); rintro e w' ⟨rfl, rfl⟩)) | (go_at_call 26; ((with_reducible refine (c _).mono ?_); rintro e w' ⟨rfl, rfl⟩)) | (go_at_call 24; ((with_reducible refine (u _).mono ?_); rintro e w' ⟨rfl, rfl⟩)) | (go_at_call 15; ((with_reducible refine (n3 _).mono ?_); rintro e w' ⟨rfl, rfl⟩)) | (go_at_call 28; ((with_reducible refine (r _).mono ?_); rintro e w' ⟨rfl, nq, rfl⟩)) | (go_at_call 29; ((with_reducible refine (q _).mono ?_); rintro e w' ⟨rfl, nq, rfl⟩)))
  go_quiet (fail)
  go_wp2_with (first | (go_at_call 12; ((with_reducible refine (n1 _).mono ?_); rintro e w' ⟨rfl, rfl⟩)) | (go_at_call 23; ((with_reducible refine (k _).mono ?_); rintro e w' ⟨rfl, rfl⟩)) | (go_at_call 26; ((with_reducible refine (c _).mono ?_); rintro e w' ⟨rfl, rfl⟩)) | (go_at_call 24; ((with_reducible refine (u _).mono ?_); rintro e w' ⟨rfl, rfl⟩)) | (go_at_call 15; ((with_reducible refine (n3 _).mono ?_); rintro e w' ⟨rfl, rfl⟩)) | (go_at_call 28; ((with_reducible refine (r _).mono ?_); rintro e w' ⟨rfl, nq, rfl⟩)) | (go_at_call 29; ((with_reducible refine (q _).mono ?_); rintro e w' ⟨rfl, nq, rfl⟩)))
  go_ret
  exact ⟨rfl, by repeat (first | exact Ext.refl _ | apply Ext.drewN | apply Ext.alloc)⟩
theorem law16_in (kind s a p ra rb P : Int) (w : World) (hk : kind % 4 = 1) (k0 : 0 ≤ kind) (k1 : kind ≤ 255) (hs : sx 42 s = s) (ha : sx 42 a = a) (hp : sx 42 p = p) (a0 : 0 ≤ ra) (a1 : ra ≤ 4294967295) (b0 : 0 ≤ rb) (b1 : rb ≤ 4294967295) (hP : bits .andNot .i64 p 4095 = P) (P0 : -4398046511104 ≤ P) (P1 : P < 4398046511104) (P2 : P % 4096 = 0)
    (t1 : -4294967296 ≤ s + a - P) (t2 : s + a - P < 4294967296) (h4 : (s + a) % 2 = 0) :
    Calls Try.prog 11 #[.int .u8 kind, .int .i64 s, .int .i64 a, .int .i64 p, .int .u32 ra, .int .u32 rb] w fun e w' => e = .returned (.bool true) ∧ Ext w w' := by
  have hKA := cutA ra a0 a1
  have hKB := cutB rb b0 b1
  obtain ⟨A, hA⟩ : ∃ A, bits .andNot .u32 ra 1627389920 = A := ⟨_, rfl⟩
  obtain ⟨B, hB⟩ : ∃ B, bits .andNot .u32 rb 4193280 = B := ⟨_, rfl⟩
  rw [hA] at hKA
  rw [hB] at hKB
  obtain ⟨A0, A1⟩ := KA_in hKA
  obtain ⟨B0, B1⟩ := KB_in hKB
  have x := XA_in A (s + a - P) hKA
  have y := YB_in B ((s + a - P) % 4096 / 2) hKB (by omega) (by omega)
  have q1 := seg64 2 ((s + a - P) / 4096) 3 (by decide) (by decide)
  have q2 := seg64 19 ((s + a - P) / 4096 / 4) 524287 (by decide) (by decide)
  have q3 := seg64 12 (s + a - P) 4095 (by decide) (by decide)
  exact go16_in kind s a p ra rb A B P (wrap64 (B * 4294967296 + A)) _ _ _ ((s + a - P) / 4096) ((s + a - P) % 4096 / 2) w hk k0 k1 hs ha hp hA hB A0 A1 B0 B1 hP P0 P1 t1 t2 h4
    (fun W => pack_as false A B _ W A0 A1 B0 B1 (by rw [if_neg (by decide), or_comm', words A B A0 A1 B0 B1]))
    (fun W => impArm (rel16_in s a p _ A B P _ _ _ W (sx42 hs) (sx42 ha) hP P0 P1 (cut_hi A B A0 A1 B0 B1) (cut_lo A B A0 A1) t1 t2 (by rw [seg64 1 _ 1 (by decide) (by decide), bne_eq_false_iff_eq]; omega) (by omega) (by omega) (by omega) (by omega) (by omega) (by omega) (putA A (s + a - P) hKA)
      (by rw [q3, show (2 : Int) ^ 12 = 4096 from rfl]; exact putB B _ hKB (by omega) (by omega)) x.1 x.2 y.1 y.2 (words _ _ x.1 x.2 y.1 y.2)))
    (fun W => unpack_as false _ _ _ W (by rw [if_neg (by decide)]; exact cut_lo _ _ x.1 x.2) (by rw [if_neg (by decide)]; exact cut_hi _ _ x.1 x.2 y.1 y.2))
    x.1 x.2 y.1 y.2 (backA A _ hKA t1 t2) (backB B _ hKB (by omega) (by omega)) (by omega) (by omega) (by omega) (by omega) (by rw [beq_iff_eq]; omega) (stayA A _ hKA) (stayB B _ hKB (by omega) (by omega))
set_option maxHeartbeats 1600000 in
theorem law16_far (kind s a p ra rb P : Int) (w : World) (hk : kind % 4 = 1) (k0 : 0 ≤ kind) (k1 : kind ≤ 255) (hs : sx 42 s = s) (ha : sx 42 a = a) (hp : sx 42 p = p) (a0 : 0 ≤ ra) (a1 : ra ≤ 4294967295) (b0 : 0 ≤ rb) (b1 : rb ≤ 4294967295) (hP : bits .andNot .i64 p 4095 = P) (P0 : -4398046511104 ≤ P) (P1 : P < 4398046511104) (P2 : P % 4096 = 0)
    (ht : s + a - P < -4294967296 ∨ 4294967296 ≤ s + a - P) (h4 : (s + a) % 2 = 0) :
    Calls Try.prog 11 #[.int .u8 kind, .int .i64 s, .int .i64 a, .int .i64 p, .int .u32 ra, .int .u32 rb] w fun e w' => e = .returned (.bool true) ∧ Ext w w' := by
  have hKA := cutA ra a0 a1
  have hKB := cutB rb b0 b1
  obtain ⟨A, hA⟩ : ∃ A, bits .andNot .u32 ra 1627389920 = A := ⟨_, rfl⟩
  obtain ⟨B, hB⟩ : ∃ B, bits .andNot .u32 rb 4193280 = B := ⟨_, rfl⟩
  rw [hA] at hKA
  rw [hB] at hKB
  obtain ⟨A0, A1⟩ := KA_in hKA
  obtain ⟨B0, B1⟩ := KB_in hKB
  have n1 := fun W => near3 s a p true W (by simp [hs, ha, hp])
  obtain ⟨V, k⟩ : ∃ V, ∀ W : World, Calls Try.prog 23 #[.bool false, .int .u32 A, .int .u32 B] W fun e w' => e = .returned (.int .i64 V) ∧ W = w' := ⟨_, fun W => pack_as false A B _ W A0 A1 B0 B1 rfl⟩
  have c := fun W => impArm_bad (rel16_far s a p V A B P W (sx42 hs) (sx42 ha) hP P0 P1 ht (by rw [seg64 1 _ 1 (by decide) (by decide), bne_eq_false_iff_eq]; omega) )
  obtain ⟨hs1, hs2⟩ := sx42 hs
  obtain ⟨ha1, ha2⟩ := sx42 ha
  obtain ⟨hp1, hp2⟩ := sx42 hp
  have n3 := fun W => fits_as (s + a - P) 33 false W (by decide) (by decide) (show (sx 33 (s + a - P) == (s + a - P)) = false by rw [beq_eq_false_iff_ne]; simp only [sx]; omega)
  obtain ⟨ia, ib, ic, id_⟩ := i44 22 19 20 21
  clear hs ha hp hKA hKB P2 ht h4
  go_enter Try.func11, Try.ntmps11
  go_wp2_with (first | (go_at_call 12; ((with_reducible refine (n1 _).mono ?_); rintro e w' ⟨rfl, rfl⟩)) | (go_at_call 23; ((with_reducible refine (k _).mono ?_); rintro e w' ⟨rfl, rfl⟩)) | (go_at_call 26; ((with_reducible refine (c _).mono ?_); rintro e w' ⟨⟨o, rfl⟩, rfl⟩)) | (go_at_call 15; ((with_reducible refine (n3 _).mono ?_); rintro e w' ⟨rfl, rfl⟩)))
  go_quiet (fail)
  go_wp2_with (first | (go_at_call 12; ((with_reducible refine (n1 _).mono ?_); rintro e w' ⟨rfl, rfl⟩)) | (go_at_call 23; ((with_reducible refine (k _).mono ?_); rintro e w' ⟨rfl, rfl⟩)) | (go_at_call 26; ((with_reducible refine (c _).mono ?_); rintro e w' ⟨⟨o, rfl⟩, rfl⟩)) | (go_at_call 15; ((with_reducible refine (n3 _).mono ?_); rintro e w' ⟨rfl, rfl⟩)))
  go_ret
  exact ⟨rfl, by repeat (first | exact Ext.refl _ | apply Ext.drewN | apply Ext.alloc)⟩
set_option maxHeartbeats 1600000 in
theorem law16_odd (kind s a p ra rb P : Int) (w : World) (hk : kind % 4 = 1) (k0 : 0 ≤ kind) (k1 : kind ≤ 255) (hs : sx 42 s = s) (ha : sx 42 a = a) (hp : sx 42 p = p) (a0 : 0 ≤ ra) (a1 : ra ≤ 4294967295) (b0 : 0 ≤ rb) (b1 : rb ≤ 4294967295) (hP : bits .andNot .i64 p 4095 = P) (P0 : -4398046511104 ≤ P) (P1 : P < 4398046511104) (P2 : P % 4096 = 0)
    (t1 : -4294967296 ≤ s + a - P) (t2 : s + a - P < 4294967296) (h4 : (s + a) % 2 ≠ 0) :
    Calls Try.prog 11 #[.int .u8 kind, .int .i64 s, .int .i64 a, .int .i64 p, .int .u32 ra, .int .u32 rb] w fun e w' => e = .returned (.bool true) ∧ Ext w w' := by
  have hKA := cutA ra a0 a1
  have hKB := cutB rb b0 b1
  obtain ⟨A, hA⟩ : ∃ A, bits .andNot .u32 ra 1627389920 = A := ⟨_, rfl⟩
  obtain ⟨B, hB⟩ : ∃ B, bits .andNot .u32 rb 4193280 = B := ⟨_, rfl⟩
  rw [hA] at hKA
  rw [hB] at hKB
  obtain ⟨A0, A1⟩ := KA_in hKA
  obtain ⟨B0, B1⟩ := KB_in hKB
  have n1 := fun W => near3 s a p true W (by simp [hs, ha, hp])
  obtain ⟨V, k⟩ : ∃ V, ∀ W : World, Calls Try.prog 23 #[.bool false, .int .u32 A, .int .u32 B] W fun e w' => e = .returned (.int .i64 V) ∧ W = w' := ⟨_, fun W => pack_as false A B _ W A0 A1 B0 B1 rfl⟩
  have c := fun W => impArm_bad (rel16_odd s a p V A B P W (sx42 hs) (sx42 ha) hP P0 P1 t1 t2 (by rw [seg64 1 _ 1 (by decide) (by decide), bne_iff_ne]; omega))
  obtain ⟨hs1, hs2⟩ := sx42 hs
  obtain ⟨ha1, ha2⟩ := sx42 ha
  obtain ⟨hp1, hp2⟩ := sx42 hp
  have n3 := fun W => fits_as (s + a - P) 33 true W (by decide) (by decide) (show (sx 33 (s + a - P) == (s + a - P)) = true by rw [beq_iff_eq]; simp only [sx]; omega)
  have X4 := tm_no (s + a) 2 h4
  obtain ⟨ia, ib, ic, id_⟩ := i44 22 19 20 21
  clear hs ha hp hKA hKB P2 h4
  go_enter Try.func11, Try.ntmps11
  go_wp2_with (first | (go_at_call 12; ((with_reducible refine (n1 _).mono ?_); rintro e w' ⟨rfl, rfl⟩)) | (go_at_call 23; ((with_reducible refine (k _).mono ?_); rintro e w' ⟨rfl, rfl⟩)) | (go_at_call 26; ((with_reducible refine (c _).mono ?_); rintro e w' ⟨⟨o, rfl⟩, rfl⟩)) | (go_at_call 15; ((with_reducible refine (n3 _).mono ?_); rintro e w' ⟨rfl, rfl⟩)))
  go_quiet (fail)
  go_wp2_with (first | (go_at_call 12; ((with_reducible refine (n1 _).mono ?_); rintro e w' ⟨rfl, rfl⟩)) | (go_at_call 23; ((with_reducible refine (k _).mono ?_); rintro e w' ⟨rfl, rfl⟩)) | (go_at_call 26; ((with_reducible refine (c _).mono ?_); rintro e w' ⟨⟨o, rfl⟩, rfl⟩)) | (go_at_call 15; ((with_reducible refine (n3 _).mono ?_); rintro e w' ⟨rfl, rfl⟩)))
  go_ret
  exact ⟨rfl, by repeat (first | exact Ext.refl _ | apply Ext.drewN | apply Ext.alloc)⟩
set_option maxHeartbeats 1600000 in
theorem law16_both (kind s a p ra rb P : Int) (w : World) (hk : kind % 4 = 1) (k0 : 0 ≤ kind) (k1 : kind ≤ 255) (hs : sx 42 s = s) (ha : sx 42 a = a) (hp : sx 42 p = p) (a0 : 0 ≤ ra) (a1 : ra ≤ 4294967295) (b0 : 0 ≤ rb) (b1 : rb ≤ 4294967295) (hP : bits .andNot .i64 p 4095 = P) (P0 : -4398046511104 ≤ P) (P1 : P < 4398046511104) (P2 : P % 4096 = 0)
    (ht : s + a - P < -4294967296 ∨ 4294967296 ≤ s + a - P) (h4 : (s + a) % 2 ≠ 0) :
    Calls Try.prog 11 #[.int .u8 kind, .int .i64 s, .int .i64 a, .int .i64 p, .int .u32 ra, .int .u32 rb] w fun e w' => e = .returned (.bool true) ∧ Ext w w' := by
  have hKA := cutA ra a0 a1
  have hKB := cutB rb b0 b1
  obtain ⟨A, hA⟩ : ∃ A, bits .andNot .u32 ra 1627389920 = A := ⟨_, rfl⟩
  obtain ⟨B, hB⟩ : ∃ B, bits .andNot .u32 rb 4193280 = B := ⟨_, rfl⟩
  rw [hA] at hKA
  rw [hB] at hKB
  obtain ⟨A0, A1⟩ := KA_in hKA
  obtain ⟨B0, B1⟩ := KB_in hKB
  have n1 := fun W => near3 s a p true W (by simp [hs, ha, hp])
  obtain ⟨V, k⟩ : ∃ V, ∀ W : World, Calls Try.prog 23 #[.bool false, .int .u32 A, .int .u32 B] W fun e w' => e = .returned (.int .i64 V) ∧ W = w' := ⟨_, fun W => pack_as false A B _ W A0 A1 B0 B1 rfl⟩
  have c := fun W => impArm_bad (rel16_both s a p V A B P W (sx42 hs) (sx42 ha) hP P0 P1 ht (by rw [seg64 1 _ 1 (by decide) (by decide), bne_iff_ne]; omega))
  obtain ⟨hs1, hs2⟩ := sx42 hs
  obtain ⟨ha1, ha2⟩ := sx42 ha
  obtain ⟨hp1, hp2⟩ := sx42 hp
  have n3 := fun W => fits_as (s + a - P) 33 false W (by decide) (by decide) (show (sx 33 (s + a - P) == (s + a - P)) = false by rw [beq_eq_false_iff_ne]; simp only [sx]; omega)
  obtain ⟨ia, ib, ic, id_⟩ := i44 22 19 20 21
  clear hs ha hp hKA hKB P2 ht h4
  go_enter Try.func11, Try.ntmps11
  go_wp2_with (first | (go_at_call 12; ((with_reducible refine (n1 _).mono ?_); rintro e w' ⟨rfl, rfl⟩)) | (go_at_call 23; ((with_reducible refine (k _).mono ?_); rintro e w' ⟨rfl, rfl⟩)) | (go_at_call 26; ((with_reducible refine (c _).mono ?_); rintro e w' ⟨⟨o, rfl⟩, rfl⟩)) | (go_at_call 15; ((with_reducible refine (n3 _).mono ?_); rintro e w' ⟨rfl, rfl⟩)))
  go_quiet (fail)
  go_wp2_with (first | (go_at_call 12; ((with_reducible refine (n1 _).mono ?_); rintro e w' ⟨rfl, rfl⟩)) | (go_at_call 23; ((with_reducible refine (k _).mono ?_); rintro e w' ⟨rfl, rfl⟩)) | (go_at_call 26; ((with_reducible refine (c _).mono ?_); rintro e w' ⟨⟨o, rfl⟩, rfl⟩)) | (go_at_call 15; ((with_reducible refine (n3 _).mono ?_); rintro e w' ⟨rfl, rfl⟩)))
  go_ret
  exact ⟨rfl, by repeat (first | exact Ext.refl _ | apply Ext.drewN | apply Ext.alloc)⟩
theorem law16 (kind s a p ra rb P : Int) (w : World) (hk : kind % 4 = 1) (k0 : 0 ≤ kind) (k1 : kind ≤ 255) (hs : sx 42 s = s) (ha : sx 42 a = a) (hp : sx 42 p = p) (a0 : 0 ≤ ra) (a1 : ra ≤ 4294967295) (b0 : 0 ≤ rb) (b1 : rb ≤ 4294967295) (hP : bits .andNot .i64 p 4095 = P) (P0 : -4398046511104 ≤ P) (P1 : P < 4398046511104) (P2 : P % 4096 = 0) :
    Calls Try.prog 11 #[.int .u8 kind, .int .i64 s, .int .i64 a, .int .i64 p, .int .u32 ra, .int .u32 rb] w fun e w' => e = .returned (.bool true) ∧ Ext w w' := by
  by_cases hf : s + a - P < -4294967296 ∨ 4294967296 ≤ s + a - P
  · by_cases h4 : (s + a) % 2 = 0
    · exact law16_far kind s a p ra rb P w hk k0 k1 hs ha hp a0 a1 b0 b1 hP P0 P1 P2 hf h4
    · exact law16_both kind s a p ra rb P w hk k0 k1 hs ha hp a0 a1 b0 b1 hP P0 P1 P2 hf h4
  · by_cases h4 : (s + a) % 2 = 0
    · exact law16_in kind s a p ra rb P w hk k0 k1 hs ha hp a0 a1 b0 b1 hP P0 P1 P2 (by omega) (by omega) h4
    · exact law16_odd kind s a p ra rb P w hk k0 k1 hs ha hp a0 a1 b0 b1 hP P0 P1 P2 (by omega) (by omega) h4
set_option maxHeartbeats 1600000 in
theorem go32_in (kind s a p ra rb A B P V o X Y R Q : Int) (w : World) (hk : kind % 4 = 2) (k0 : 0 ≤ kind) (k1 : kind ≤ 255) (hs : sx 42 s = s) (ha : sx 42 a = a) (hp : sx 42 p = p) (hA : bits .andNot .u32 ra 1627389920 = A) (hB : bits .andNot .u32 rb 4193280 = B)
    (A0 : 0 ≤ A) (A1 : A < 4294967296) (B0 : 0 ≤ B) (B1 : B < 4294967296) (hP : bits .andNot .i64 p 4095 = P) (P0 : -4398046511104 ≤ P) (P1 : P < 4398046511104)
    (t1 : -4294967296 ≤ s + a - P) (t2 : s + a - P < 4294967296) (h4 : (s + a) % 4 = 0)
    (k : ∀ W : World, Calls Try.prog 23 #[.bool false, .int .u32 A, .int .u32 B] W fun e w' => e = .returned (.int .i64 V) ∧ W = w')
    (c : ∀ W : World, Calls Try.prog 26 #[.int .i64 20, .bool false, .bool false, .bool false, .int .i64 s, .int .i64 a, .int .i64 p, .int .i64 V] W fun e w' => e = .returned (.tuple #[.int .i64 o, .int .i64 0, .bool true]) ∧ W = w')
    (u : ∀ W : World, Calls Try.prog 24 #[.bool false, .int .i64 o] W fun e w' => e = .returned (.tuple #[.int .u32 X, .int .u32 Y]) ∧ W = w')
    (X0 : 0 ≤ X) (X1 : X < 4294967296) (Y0 : 0 ≤ Y) (Y1 : Y < 4294967296) (hR : sx 21 (X / 32 % 524288 * 4 + X / 536870912 % 4) = R) (hQ : Y / 1024 % 4096 = Q) (R0 : -1048576 ≤ R) (R1 : R < 1048576) (Q0 : 0 ≤ Q) (Q1 : Q < 1024)
    (X5 : (P + R * 4096 + Q * 4 == s + a) = true) (X6 : (bits .andNot .u32 X 1627389920 == A) = true) (X7 : (bits .andNot .u32 Y 4193280 == B) = true) :
    Calls Try.prog 11 #[.int .u8 kind, .int .i64 s, .int .i64 a, .int .i64 p, .int .u32 ra, .int .u32 rb] w fun e w' => e = .returned (.bool true) ∧ Ext w w' := by
  have n1 := fun W => near3 s a p true W (by simp [hs, ha, hp])
  obtain ⟨hs1, hs2⟩ := sx42 hs
  obtain ⟨ha1, ha2⟩ := sx42 ha
  obtain ⟨hp1, hp2⟩ := sx42 hp
  have n3 := fun W => fits_as (s + a - P) 33 true W (by decide) (by decide) (show (sx 33 (s + a - P) == (s + a - P)) = true by rw [beq_iff_eq]; simp only [sx]; omega)
  have r := fun W => rdArmPage X R W X0 X1 hR
  have q := fun W => rdArmLow Y Q W Y0 Y1 hQ
  have X4 := tm_yes (s + a) 4 (by omega)
  obtain ⟨ia, ib, ic, id_⟩ := i44 22 19 20 21
  clear hs ha hp hR hQ
  go_enter Try.func11, Try.ntmps11
  go_wp2_with (first | (go_at_call 12; ((with_reducible refine (n1 _).mono ?_); rintro e w' ⟨rfl, rfl⟩)) | (go_at_call 23; ((with_reducible refine (k _).mono ?_); rintro e w' ⟨rfl, rfl⟩)) | (go_at_call 26; ((with_reducible refine (c _).mono ?_); rintro e w' ⟨rfl, rfl⟩)) | (go_at_call 24; ((with_reducible refine (u _).mono ?_); rintro e w' ⟨rfl, rfl⟩)) | (go_at_call 15; ((with_reducible refine (n3 _).mono ?_); rintro e w' ⟨rfl, rfl⟩)) | (go_at_call 28; ((with_reducible refine (r _).mono ?_); rintro e w' ⟨rfl, nq, rfl⟩)) | (go_at_call 29; ((with_reducible refine (q _).mono ?_); rintro e w' ⟨rfl, nq, rfl⟩)))
  go_quiet (fail)
  go_wp2_with (first | (go_at_call 12; ((with_reducible refine (n1 _).mono ?_); rintro e w' ⟨rfl, rfl⟩)) | (go_at_call 23; ((with_reducible refine (k _).mono ?_); rintro e w' ⟨rfl, rfl⟩)) | (go_at_call 26; ((with_reducible refine (c _).mono ?_); rintro e w' ⟨rfl, rfl⟩)) | (go_at_call 24; ((with_reducible refine (u _).mono ?_); rintro e w' ⟨rfl, rfl⟩)) | (go_at_call 15; ((with_reducible refine (n3 _).mono ?_); rintro e w' ⟨rfl, rfl⟩)) | (go_at_call 28; ((with_reducible refine (r _).mono ?_); rintro e w' ⟨rfl, nq, rfl⟩)) | (go_at_call 29; ((with_reducible refine (q _).mono ?_); rintro e w' ⟨rfl, nq, rfl⟩)))
  go_ret
  exact ⟨rfl, by repeat (first | exact Ext.refl _ | apply Ext.drewN | apply Ext.alloc)⟩
theorem law32_in (kind s a p ra rb P : Int) (w : World) (hk : kind % 4 = 2) (k0 : 0 ≤ kind) (k1 : kind ≤ 255) (hs : sx 42 s = s) (ha : sx 42 a = a) (hp : sx 42 p = p) (a0 : 0 ≤ ra) (a1 : ra ≤ 4294967295) (b0 : 0 ≤ rb) (b1 : rb ≤ 4294967295) (hP : bits .andNot .i64 p 4095 = P) (P0 : -4398046511104 ≤ P) (P1 : P < 4398046511104) (P2 : P % 4096 = 0)
    (t1 : -4294967296 ≤ s + a - P) (t2 : s + a - P < 4294967296) (h4 : (s + a) % 4 = 0) :
    Calls Try.prog 11 #[.int .u8 kind, .int .i64 s, .int .i64 a, .int .i64 p, .int .u32 ra, .int .u32 rb] w fun e w' => e = .returned (.bool true) ∧ Ext w w' := by
  have hKA := cutA ra a0 a1
  have hKB := cutB rb b0 b1
  obtain ⟨A, hA⟩ : ∃ A, bits .andNot .u32 ra 1627389920 = A := ⟨_, rfl⟩
  obtain ⟨B, hB⟩ : ∃ B, bits .andNot .u32 rb 4193280 = B := ⟨_, rfl⟩
  rw [hA] at hKA
  rw [hB] at hKB
  obtain ⟨A0, A1⟩ := KA_in hKA
  obtain ⟨B0, B1⟩ := KB_in hKB
  have x := XA_in A (s + a - P) hKA
  have y := YB_in B ((s + a - P) % 4096 / 4) hKB (by omega) (by omega)
  have q1 := seg64 2 ((s + a - P) / 4096) 3 (by decide) (by decide)
  have q2 := seg64 19 ((s + a - P) / 4096 / 4) 524287 (by decide) (by decide)
  have q3 := seg64 12 (s + a - P) 4095 (by decide) (by decide)
  exact go32_in kind s a p ra rb A B P (wrap64 (B * 4294967296 + A)) _ _ _ ((s + a - P) / 4096) ((s + a - P) % 4096 / 4) w hk k0 k1 hs ha hp hA hB A0 A1 B0 B1 hP P0 P1 t1 t2 h4
    (fun W => pack_as false A B _ W A0 A1 B0 B1 (by rw [if_neg (by decide), or_comm', words A B A0 A1 B0 B1]))
    (fun W => impArm (rel32_in s a p _ A B P _ _ _ W (sx42 hs) (sx42 ha) hP P0 P1 (cut_hi A B A0 A1 B0 B1) (cut_lo A B A0 A1) t1 t2 (by rw [seg64 2 _ 3 (by decide) (by decide), bne_eq_false_iff_eq]; omega) (by omega) (by omega) (by omega) (by omega) (by omega) (by omega) (putA A (s + a - P) hKA)
      (by rw [q3, show (2 : Int) ^ 12 = 4096 from rfl]; exact putB B _ hKB (by omega) (by omega)) x.1 x.2 y.1 y.2 (words _ _ x.1 x.2 y.1 y.2)))
    (fun W => unpack_as false _ _ _ W (by rw [if_neg (by decide)]; exact cut_lo _ _ x.1 x.2) (by rw [if_neg (by decide)]; exact cut_hi _ _ x.1 x.2 y.1 y.2))
    x.1 x.2 y.1 y.2 (backA A _ hKA t1 t2) (backB B _ hKB (by omega) (by omega)) (by omega) (by omega) (by omega) (by omega) (by rw [beq_iff_eq]; omega) (stayA A _ hKA) (stayB B _ hKB (by omega) (by omega))
set_option maxHeartbeats 1600000 in
theorem law32_far (kind s a p ra rb P : Int) (w : World) (hk : kind % 4 = 2) (k0 : 0 ≤ kind) (k1 : kind ≤ 255) (hs : sx 42 s = s) (ha : sx 42 a = a) (hp : sx 42 p = p) (a0 : 0 ≤ ra) (a1 : ra ≤ 4294967295) (b0 : 0 ≤ rb) (b1 : rb ≤ 4294967295) (hP : bits .andNot .i64 p 4095 = P) (P0 : -4398046511104 ≤ P) (P1 : P < 4398046511104) (P2 : P % 4096 = 0)
    (ht : s + a - P < -4294967296 ∨ 4294967296 ≤ s + a - P) (h4 : (s + a) % 4 = 0) :
    Calls Try.prog 11 #[.int .u8 kind, .int .i64 s, .int .i64 a, .int .i64 p, .int .u32 ra, .int .u32 rb] w fun e w' => e = .returned (.bool true) ∧ Ext w w' := by
  have hKA := cutA ra a0 a1
  have hKB := cutB rb b0 b1
  obtain ⟨A, hA⟩ : ∃ A, bits .andNot .u32 ra 1627389920 = A := ⟨_, rfl⟩
  obtain ⟨B, hB⟩ : ∃ B, bits .andNot .u32 rb 4193280 = B := ⟨_, rfl⟩
  rw [hA] at hKA
  rw [hB] at hKB
  obtain ⟨A0, A1⟩ := KA_in hKA
  obtain ⟨B0, B1⟩ := KB_in hKB
  have n1 := fun W => near3 s a p true W (by simp [hs, ha, hp])
  obtain ⟨V, k⟩ : ∃ V, ∀ W : World, Calls Try.prog 23 #[.bool false, .int .u32 A, .int .u32 B] W fun e w' => e = .returned (.int .i64 V) ∧ W = w' := ⟨_, fun W => pack_as false A B _ W A0 A1 B0 B1 rfl⟩
  have c := fun W => impArm_bad (rel32_far s a p V A B P W (sx42 hs) (sx42 ha) hP P0 P1 ht (by rw [seg64 2 _ 3 (by decide) (by decide), bne_eq_false_iff_eq]; omega) )
  obtain ⟨hs1, hs2⟩ := sx42 hs
  obtain ⟨ha1, ha2⟩ := sx42 ha
  obtain ⟨hp1, hp2⟩ := sx42 hp
  have n3 := fun W => fits_as (s + a - P) 33 false W (by decide) (by decide) (show (sx 33 (s + a - P) == (s + a - P)) = false by rw [beq_eq_false_iff_ne]; simp only [sx]; omega)
  obtain ⟨ia, ib, ic, id_⟩ := i44 22 19 20 21
  clear hs ha hp hKA hKB P2 ht h4
  go_enter Try.func11, Try.ntmps11
  go_wp2_with (first | (go_at_call 12; ((with_reducible refine (n1 _).mono ?_); rintro e w' ⟨rfl, rfl⟩)) | (go_at_call 23; ((with_reducible refine (k _).mono ?_); rintro e w' ⟨rfl, rfl⟩)) | (go_at_call 26; ((with_reducible refine (c _).mono ?_); rintro e w' ⟨⟨o, rfl⟩, rfl⟩)) | (go_at_call 15; ((with_reducible refine (n3 _).mono ?_); rintro e w' ⟨rfl, rfl⟩)))
  go_quiet (fail)
  go_wp2_with (first | (go_at_call 12; ((with_reducible refine (n1 _).mono ?_); rintro e w' ⟨rfl, rfl⟩)) | (go_at_call 23; ((with_reducible refine (k _).mono ?_); rintro e w' ⟨rfl, rfl⟩)) | (go_at_call 26; ((with_reducible refine (c _).mono ?_); rintro e w' ⟨⟨o, rfl⟩, rfl⟩)) | (go_at_call 15; ((with_reducible refine (n3 _).mono ?_); rintro e w' ⟨rfl, rfl⟩)))
  go_ret
  exact ⟨rfl, by repeat (first | exact Ext.refl _ | apply Ext.drewN | apply Ext.alloc)⟩
set_option maxHeartbeats 1600000 in
theorem law32_odd (kind s a p ra rb P : Int) (w : World) (hk : kind % 4 = 2) (k0 : 0 ≤ kind) (k1 : kind ≤ 255) (hs : sx 42 s = s) (ha : sx 42 a = a) (hp : sx 42 p = p) (a0 : 0 ≤ ra) (a1 : ra ≤ 4294967295) (b0 : 0 ≤ rb) (b1 : rb ≤ 4294967295) (hP : bits .andNot .i64 p 4095 = P) (P0 : -4398046511104 ≤ P) (P1 : P < 4398046511104) (P2 : P % 4096 = 0)
    (t1 : -4294967296 ≤ s + a - P) (t2 : s + a - P < 4294967296) (h4 : (s + a) % 4 ≠ 0) :
    Calls Try.prog 11 #[.int .u8 kind, .int .i64 s, .int .i64 a, .int .i64 p, .int .u32 ra, .int .u32 rb] w fun e w' => e = .returned (.bool true) ∧ Ext w w' := by
  have hKA := cutA ra a0 a1
  have hKB := cutB rb b0 b1
  obtain ⟨A, hA⟩ : ∃ A, bits .andNot .u32 ra 1627389920 = A := ⟨_, rfl⟩
  obtain ⟨B, hB⟩ : ∃ B, bits .andNot .u32 rb 4193280 = B := ⟨_, rfl⟩
  rw [hA] at hKA
  rw [hB] at hKB
  obtain ⟨A0, A1⟩ := KA_in hKA
  obtain ⟨B0, B1⟩ := KB_in hKB
  have n1 := fun W => near3 s a p true W (by simp [hs, ha, hp])
  obtain ⟨V, k⟩ : ∃ V, ∀ W : World, Calls Try.prog 23 #[.bool false, .int .u32 A, .int .u32 B] W fun e w' => e = .returned (.int .i64 V) ∧ W = w' := ⟨_, fun W => pack_as false A B _ W A0 A1 B0 B1 rfl⟩
  have c := fun W => impArm_bad (rel32_odd s a p V A B P W (sx42 hs) (sx42 ha) hP P0 P1 t1 t2 (by rw [seg64 2 _ 3 (by decide) (by decide), bne_iff_ne]; omega))
  obtain ⟨hs1, hs2⟩ := sx42 hs
  obtain ⟨ha1, ha2⟩ := sx42 ha
  obtain ⟨hp1, hp2⟩ := sx42 hp
  have n3 := fun W => fits_as (s + a - P) 33 true W (by decide) (by decide) (show (sx 33 (s + a - P) == (s + a - P)) = true by rw [beq_iff_eq]; simp only [sx]; omega)
  have X4 := tm_no (s + a) 4 h4
  obtain ⟨ia, ib, ic, id_⟩ := i44 22 19 20 21
  clear hs ha hp hKA hKB P2 h4
  go_enter Try.func11, Try.ntmps11
  go_wp2_with (first | (go_at_call 12; ((with_reducible refine (n1 _).mono ?_); rintro e w' ⟨rfl, rfl⟩)) | (go_at_call 23; ((with_reducible refine (k _).mono ?_); rintro e w' ⟨rfl, rfl⟩)) | (go_at_call 26; ((with_reducible refine (c _).mono ?_); rintro e w' ⟨⟨o, rfl⟩, rfl⟩)) | (go_at_call 15; ((with_reducible refine (n3 _).mono ?_); rintro e w' ⟨rfl, rfl⟩)))
  go_quiet (fail)
  go_wp2_with (first | (go_at_call 12; ((with_reducible refine (n1 _).mono ?_); rintro e w' ⟨rfl, rfl⟩)) | (go_at_call 23; ((with_reducible refine (k _).mono ?_); rintro e w' ⟨rfl, rfl⟩)) | (go_at_call 26; ((with_reducible refine (c _).mono ?_); rintro e w' ⟨⟨o, rfl⟩, rfl⟩)) | (go_at_call 15; ((with_reducible refine (n3 _).mono ?_); rintro e w' ⟨rfl, rfl⟩)))
  go_ret
  exact ⟨rfl, by repeat (first | exact Ext.refl _ | apply Ext.drewN | apply Ext.alloc)⟩
set_option maxHeartbeats 1600000 in
theorem law32_both (kind s a p ra rb P : Int) (w : World) (hk : kind % 4 = 2) (k0 : 0 ≤ kind) (k1 : kind ≤ 255) (hs : sx 42 s = s) (ha : sx 42 a = a) (hp : sx 42 p = p) (a0 : 0 ≤ ra) (a1 : ra ≤ 4294967295) (b0 : 0 ≤ rb) (b1 : rb ≤ 4294967295) (hP : bits .andNot .i64 p 4095 = P) (P0 : -4398046511104 ≤ P) (P1 : P < 4398046511104) (P2 : P % 4096 = 0)
    (ht : s + a - P < -4294967296 ∨ 4294967296 ≤ s + a - P) (h4 : (s + a) % 4 ≠ 0) :
    Calls Try.prog 11 #[.int .u8 kind, .int .i64 s, .int .i64 a, .int .i64 p, .int .u32 ra, .int .u32 rb] w fun e w' => e = .returned (.bool true) ∧ Ext w w' := by
  have hKA := cutA ra a0 a1
  have hKB := cutB rb b0 b1
  obtain ⟨A, hA⟩ : ∃ A, bits .andNot .u32 ra 1627389920 = A := ⟨_, rfl⟩
  obtain ⟨B, hB⟩ : ∃ B, bits .andNot .u32 rb 4193280 = B := ⟨_, rfl⟩
  rw [hA] at hKA
  rw [hB] at hKB
  obtain ⟨A0, A1⟩ := KA_in hKA
  obtain ⟨B0, B1⟩ := KB_in hKB
  have n1 := fun W => near3 s a p true W (by simp [hs, ha, hp])
  obtain ⟨V, k⟩ : ∃ V, ∀ W : World, Calls Try.prog 23 #[.bool false, .int .u32 A, .int .u32 B] W fun e w' => e = .returned (.int .i64 V) ∧ W = w' := ⟨_, fun W => pack_as false A B _ W A0 A1 B0 B1 rfl⟩
  have c := fun W => impArm_bad (rel32_both s a p V A B P W (sx42 hs) (sx42 ha) hP P0 P1 ht (by rw [seg64 2 _ 3 (by decide) (by decide), bne_iff_ne]; omega))
  obtain ⟨hs1, hs2⟩ := sx42 hs
  obtain ⟨ha1, ha2⟩ := sx42 ha
  obtain ⟨hp1, hp2⟩ := sx42 hp
  have n3 := fun W => fits_as (s + a - P) 33 false W (by decide) (by decide) (show (sx 33 (s + a - P) == (s + a - P)) = false by rw [beq_eq_false_iff_ne]; simp only [sx]; omega)
  obtain ⟨ia, ib, ic, id_⟩ := i44 22 19 20 21
  clear hs ha hp hKA hKB P2 ht h4
  go_enter Try.func11, Try.ntmps11
  go_wp2_with (first | (go_at_call 12; ((with_reducible refine (n1 _).mono ?_); rintro e w' ⟨rfl, rfl⟩)) | (go_at_call 23; ((with_reducible refine (k _).mono ?_); rintro e w' ⟨rfl, rfl⟩)) | (go_at_call 26; ((with_reducible refine (c _).mono ?_); rintro e w' ⟨⟨o, rfl⟩, rfl⟩)) | (go_at_call 15; ((with_reducible refine (n3 _).mono ?_); rintro e w' ⟨rfl, rfl⟩)))
  go_quiet (fail)
  go_wp2_with (first | (go_at_call 12; ((with_reducible refine (n1 _).mono ?_); rintro e w' ⟨rfl, rfl⟩)) | (go_at_call 23; ((with_reducible refine (k _).mono ?_); rintro e w' ⟨rfl, rfl⟩)) | (go_at_call 26; ((with_reducible refine (c _).mono ?_); rintro e w' ⟨⟨o, rfl⟩, rfl⟩)) | (go_at_call 15; ((with_reducible refine (n3 _).mono ?_); rintro e w' ⟨rfl, rfl⟩)))
  go_ret
  exact ⟨rfl, by repeat (first | exact Ext.refl _ | apply Ext.drewN | apply Ext.alloc)⟩
theorem law32 (kind s a p ra rb P : Int) (w : World) (hk : kind % 4 = 2) (k0 : 0 ≤ kind) (k1 : kind ≤ 255) (hs : sx 42 s = s) (ha : sx 42 a = a) (hp : sx 42 p = p) (a0 : 0 ≤ ra) (a1 : ra ≤ 4294967295) (b0 : 0 ≤ rb) (b1 : rb ≤ 4294967295) (hP : bits .andNot .i64 p 4095 = P) (P0 : -4398046511104 ≤ P) (P1 : P < 4398046511104) (P2 : P % 4096 = 0) :
    Calls Try.prog 11 #[.int .u8 kind, .int .i64 s, .int .i64 a, .int .i64 p, .int .u32 ra, .int .u32 rb] w fun e w' => e = .returned (.bool true) ∧ Ext w w' := by
  by_cases hf : s + a - P < -4294967296 ∨ 4294967296 ≤ s + a - P
  · by_cases h4 : (s + a) % 4 = 0
    · exact law32_far kind s a p ra rb P w hk k0 k1 hs ha hp a0 a1 b0 b1 hP P0 P1 P2 hf h4
    · exact law32_both kind s a p ra rb P w hk k0 k1 hs ha hp a0 a1 b0 b1 hP P0 P1 P2 hf h4
  · by_cases h4 : (s + a) % 4 = 0
    · exact law32_in kind s a p ra rb P w hk k0 k1 hs ha hp a0 a1 b0 b1 hP P0 P1 P2 (by omega) (by omega) h4
    · exact law32_odd kind s a p ra rb P w hk k0 k1 hs ha hp a0 a1 b0 b1 hP P0 P1 P2 (by omega) (by omega) h4
set_option maxHeartbeats 1600000 in
theorem go64_in (kind s a p ra rb A B P V o X Y R Q : Int) (w : World) (hk : kind % 4 = 3) (k0 : 0 ≤ kind) (k1 : kind ≤ 255) (hs : sx 42 s = s) (ha : sx 42 a = a) (hp : sx 42 p = p) (hA : bits .andNot .u32 ra 1627389920 = A) (hB : bits .andNot .u32 rb 4193280 = B)
    (A0 : 0 ≤ A) (A1 : A < 4294967296) (B0 : 0 ≤ B) (B1 : B < 4294967296) (hP : bits .andNot .i64 p 4095 = P) (P0 : -4398046511104 ≤ P) (P1 : P < 4398046511104)
    (t1 : -4294967296 ≤ s + a - P) (t2 : s + a - P < 4294967296) (h4 : (s + a) % 8 = 0)
    (k : ∀ W : World, Calls Try.prog 23 #[.bool false, .int .u32 A, .int .u32 B] W fun e w' => e = .returned (.int .i64 V) ∧ W = w')
    (c : ∀ W : World, Calls Try.prog 26 #[.int .i64 21, .bool false, .bool false, .bool false, .int .i64 s, .int .i64 a, .int .i64 p, .int .i64 V] W fun e w' => e = .returned (.tuple #[.int .i64 o, .int .i64 0, .bool true]) ∧ W = w')
    (u : ∀ W : World, Calls Try.prog 24 #[.bool false, .int .i64 o] W fun e w' => e = .returned (.tuple #[.int .u32 X, .int .u32 Y]) ∧ W = w')
    (X0 : 0 ≤ X) (X1 : X < 4294967296) (Y0 : 0 ≤ Y) (Y1 : Y < 4294967296) (hR : sx 21 (X / 32 % 524288 * 4 + X / 536870912 % 4) = R) (hQ : Y / 1024 % 4096 = Q) (R0 : -1048576 ≤ R) (R1 : R < 1048576) (Q0 : 0 ≤ Q) (Q1 : Q < 512)
    (X5 : (P + R * 4096 + Q * 8 == s + a) = true) (X6 : (bits .andNot .u32 X 1627389920 == A) = true) (X7 : (bits .andNot .u32 Y 4193280 == B) = true) :
    Calls Try.prog 11 #[.int .u8 kind, .int .i64 s, .int .i64 a, .int .i64 p, .int .u32 ra, .int .u32 rb] w fun e w' => e = .returned (.bool true) ∧ Ext w w' := by
  have n1 := fun W => near3 s a p true W (by simp [hs, ha, hp])
  obtain ⟨hs1, hs2⟩ := sx42 hs
  obtain ⟨ha1, ha2⟩ := sx42 ha
  obtain ⟨hp1, hp2⟩ := sx42 hp
  have n3 := fun W => fits_as (s + a - P) 33 true W (by decide) (by decide) (show (sx 33 (s + a - P) == (s + a - P)) = true by rw [beq_iff_eq]; simp only [sx]; omega)
  have r := fun W => rdArmPage X R W X0 X1 hR
  have q := fun W => rdArmLow Y Q W Y0 Y1 hQ
  have X4 := tm_yes (s + a) 8 (by omega)
  obtain ⟨ia, ib, ic, id_⟩ := i44 22 19 20 21
  clear hs ha hp hR hQ
  go_enter Try.func11, Try.ntmps11
  go_wp2_with (first | (go_at_call 12; ((with_reducible refine (n1 _).mono ?_); rintro e w' ⟨rfl, rfl⟩)) | (go_at_call 23; ((with_reducible refine (k _).mono ?_); rintro e w' ⟨rfl, rfl⟩)) | (go_at_call 26; ((with_reducible refine (c _).mono ?_); rintro e w' ⟨rfl, rfl⟩)) | (go_at_call 24; ((with_reducible refine (u _).mono ?_); rintro e w' ⟨rfl, rfl⟩)) | (go_at_call 15; ((with_reducible refine (n3 _).mono ?_); rintro e w' ⟨rfl, rfl⟩)) | (go_at_call 28; ((with_reducible refine (r _).mono ?_); rintro e w' ⟨rfl, nq, rfl⟩)) | (go_at_call 29; ((with_reducible refine (q _).mono ?_); rintro e w' ⟨rfl, nq, rfl⟩)))
  go_quiet (fail)
  go_wp2_with (first | (go_at_call 12; ((with_reducible refine (n1 _).mono ?_); rintro e w' ⟨rfl, rfl⟩)) | (go_at_call 23; ((with_reducible refine (k _).mono ?_); rintro e w' ⟨rfl, rfl⟩)) | (go_at_call 26; ((with_reducible refine (c _).mono ?_); rintro e w' ⟨rfl, rfl⟩)) | (go_at_call 24; ((with_reducible refine (u _).mono ?_); rintro e w' ⟨rfl, rfl⟩)) | (go_at_call 15; ((with_reducible refine (n3 _).mono ?_); rintro e w' ⟨rfl, rfl⟩)) | (go_at_call 28; ((with_reducible refine (r _).mono ?_); rintro e w' ⟨rfl, nq, rfl⟩)) | (go_at_call 29; ((with_reducible refine (q _).mono ?_); rintro e w' ⟨rfl, nq, rfl⟩)))
  go_ret
  exact ⟨rfl, by repeat (first | exact Ext.refl _ | apply Ext.drewN | apply Ext.alloc)⟩
theorem law64_in (kind s a p ra rb P : Int) (w : World) (hk : kind % 4 = 3) (k0 : 0 ≤ kind) (k1 : kind ≤ 255) (hs : sx 42 s = s) (ha : sx 42 a = a) (hp : sx 42 p = p) (a0 : 0 ≤ ra) (a1 : ra ≤ 4294967295) (b0 : 0 ≤ rb) (b1 : rb ≤ 4294967295) (hP : bits .andNot .i64 p 4095 = P) (P0 : -4398046511104 ≤ P) (P1 : P < 4398046511104) (P2 : P % 4096 = 0)
    (t1 : -4294967296 ≤ s + a - P) (t2 : s + a - P < 4294967296) (h4 : (s + a) % 8 = 0) :
    Calls Try.prog 11 #[.int .u8 kind, .int .i64 s, .int .i64 a, .int .i64 p, .int .u32 ra, .int .u32 rb] w fun e w' => e = .returned (.bool true) ∧ Ext w w' := by
  have hKA := cutA ra a0 a1
  have hKB := cutB rb b0 b1
  obtain ⟨A, hA⟩ : ∃ A, bits .andNot .u32 ra 1627389920 = A := ⟨_, rfl⟩
  obtain ⟨B, hB⟩ : ∃ B, bits .andNot .u32 rb 4193280 = B := ⟨_, rfl⟩
  rw [hA] at hKA
  rw [hB] at hKB
  obtain ⟨A0, A1⟩ := KA_in hKA
  obtain ⟨B0, B1⟩ := KB_in hKB
  have x := XA_in A (s + a - P) hKA
  have y := YB_in B ((s + a - P) % 4096 / 8) hKB (by omega) (by omega)
  have q1 := seg64 2 ((s + a - P) / 4096) 3 (by decide) (by decide)
  have q2 := seg64 19 ((s + a - P) / 4096 / 4) 524287 (by decide) (by decide)
  have q3 := seg64 12 (s + a - P) 4095 (by decide) (by decide)
  exact go64_in kind s a p ra rb A B P (wrap64 (B * 4294967296 + A)) _ _ _ ((s + a - P) / 4096) ((s + a - P) % 4096 / 8) w hk k0 k1 hs ha hp hA hB A0 A1 B0 B1 hP P0 P1 t1 t2 h4
    (fun W => pack_as false A B _ W A0 A1 B0 B1 (by rw [if_neg (by decide), or_comm', words A B A0 A1 B0 B1]))
    (fun W => impArm (rel64_in s a p _ A B P _ _ _ W (sx42 hs) (sx42 ha) hP P0 P1 (cut_hi A B A0 A1 B0 B1) (cut_lo A B A0 A1) t1 t2 (by rw [seg64 3 _ 7 (by decide) (by decide), bne_eq_false_iff_eq]; omega) (by omega) (by omega) (by omega) (by omega) (by omega) (by omega) (putA A (s + a - P) hKA)
      (by rw [q3, show (2 : Int) ^ 12 = 4096 from rfl]; exact putB B _ hKB (by omega) (by omega)) x.1 x.2 y.1 y.2 (words _ _ x.1 x.2 y.1 y.2)))
    (fun W => unpack_as false _ _ _ W (by rw [if_neg (by decide)]; exact cut_lo _ _ x.1 x.2) (by rw [if_neg (by decide)]; exact cut_hi _ _ x.1 x.2 y.1 y.2))
    x.1 x.2 y.1 y.2 (backA A _ hKA t1 t2) (backB B _ hKB (by omega) (by omega)) (by omega) (by omega) (by omega) (by omega) (by rw [beq_iff_eq]; omega) (stayA A _ hKA) (stayB B _ hKB (by omega) (by omega))
set_option maxHeartbeats 1600000 in
theorem law64_far (kind s a p ra rb P : Int) (w : World) (hk : kind % 4 = 3) (k0 : 0 ≤ kind) (k1 : kind ≤ 255) (hs : sx 42 s = s) (ha : sx 42 a = a) (hp : sx 42 p = p) (a0 : 0 ≤ ra) (a1 : ra ≤ 4294967295) (b0 : 0 ≤ rb) (b1 : rb ≤ 4294967295) (hP : bits .andNot .i64 p 4095 = P) (P0 : -4398046511104 ≤ P) (P1 : P < 4398046511104) (P2 : P % 4096 = 0)
    (ht : s + a - P < -4294967296 ∨ 4294967296 ≤ s + a - P) (h4 : (s + a) % 8 = 0) :
    Calls Try.prog 11 #[.int .u8 kind, .int .i64 s, .int .i64 a, .int .i64 p, .int .u32 ra, .int .u32 rb] w fun e w' => e = .returned (.bool true) ∧ Ext w w' := by
  have hKA := cutA ra a0 a1
  have hKB := cutB rb b0 b1
  obtain ⟨A, hA⟩ : ∃ A, bits .andNot .u32 ra 1627389920 = A := ⟨_, rfl⟩
  obtain ⟨B, hB⟩ : ∃ B, bits .andNot .u32 rb 4193280 = B := ⟨_, rfl⟩
  rw [hA] at hKA
  rw [hB] at hKB
  obtain ⟨A0, A1⟩ := KA_in hKA
  obtain ⟨B0, B1⟩ := KB_in hKB
  have n1 := fun W => near3 s a p true W (by simp [hs, ha, hp])
  obtain ⟨V, k⟩ : ∃ V, ∀ W : World, Calls Try.prog 23 #[.bool false, .int .u32 A, .int .u32 B] W fun e w' => e = .returned (.int .i64 V) ∧ W = w' := ⟨_, fun W => pack_as false A B _ W A0 A1 B0 B1 rfl⟩
  have c := fun W => impArm_bad (rel64_far s a p V A B P W (sx42 hs) (sx42 ha) hP P0 P1 ht (by rw [seg64 3 _ 7 (by decide) (by decide), bne_eq_false_iff_eq]; omega) )
  obtain ⟨hs1, hs2⟩ := sx42 hs
  obtain ⟨ha1, ha2⟩ := sx42 ha
  obtain ⟨hp1, hp2⟩ := sx42 hp
  have n3 := fun W => fits_as (s + a - P) 33 false W (by decide) (by decide) (show (sx 33 (s + a - P) == (s + a - P)) = false by rw [beq_eq_false_iff_ne]; simp only [sx]; omega)
  obtain ⟨ia, ib, ic, id_⟩ := i44 22 19 20 21
  clear hs ha hp hKA hKB P2 ht h4
  go_enter Try.func11, Try.ntmps11
  go_wp2_with (first | (go_at_call 12; ((with_reducible refine (n1 _).mono ?_); rintro e w' ⟨rfl, rfl⟩)) | (go_at_call 23; ((with_reducible refine (k _).mono ?_); rintro e w' ⟨rfl, rfl⟩)) | (go_at_call 26; ((with_reducible refine (c _).mono ?_); rintro e w' ⟨⟨o, rfl⟩, rfl⟩)) | (go_at_call 15; ((with_reducible refine (n3 _).mono ?_); rintro e w' ⟨rfl, rfl⟩)))
  go_quiet (fail)
  go_wp2_with (first | (go_at_call 12; ((with_reducible refine (n1 _).mono ?_); rintro e w' ⟨rfl, rfl⟩)) | (go_at_call 23; ((with_reducible refine (k _).mono ?_); rintro e w' ⟨rfl, rfl⟩)) | (go_at_call 26; ((with_reducible refine (c _).mono ?_); rintro e w' ⟨⟨o, rfl⟩, rfl⟩)) | (go_at_call 15; ((with_reducible refine (n3 _).mono ?_); rintro e w' ⟨rfl, rfl⟩)))
  go_ret
  exact ⟨rfl, by repeat (first | exact Ext.refl _ | apply Ext.drewN | apply Ext.alloc)⟩
set_option maxHeartbeats 1600000 in
theorem law64_odd (kind s a p ra rb P : Int) (w : World) (hk : kind % 4 = 3) (k0 : 0 ≤ kind) (k1 : kind ≤ 255) (hs : sx 42 s = s) (ha : sx 42 a = a) (hp : sx 42 p = p) (a0 : 0 ≤ ra) (a1 : ra ≤ 4294967295) (b0 : 0 ≤ rb) (b1 : rb ≤ 4294967295) (hP : bits .andNot .i64 p 4095 = P) (P0 : -4398046511104 ≤ P) (P1 : P < 4398046511104) (P2 : P % 4096 = 0)
    (t1 : -4294967296 ≤ s + a - P) (t2 : s + a - P < 4294967296) (h4 : (s + a) % 8 ≠ 0) :
    Calls Try.prog 11 #[.int .u8 kind, .int .i64 s, .int .i64 a, .int .i64 p, .int .u32 ra, .int .u32 rb] w fun e w' => e = .returned (.bool true) ∧ Ext w w' := by
  have hKA := cutA ra a0 a1
  have hKB := cutB rb b0 b1
  obtain ⟨A, hA⟩ : ∃ A, bits .andNot .u32 ra 1627389920 = A := ⟨_, rfl⟩
  obtain ⟨B, hB⟩ : ∃ B, bits .andNot .u32 rb 4193280 = B := ⟨_, rfl⟩
  rw [hA] at hKA
  rw [hB] at hKB
  obtain ⟨A0, A1⟩ := KA_in hKA
  obtain ⟨B0, B1⟩ := KB_in hKB
  have n1 := fun W => near3 s a p true W (by simp [hs, ha, hp])
  obtain ⟨V, k⟩ : ∃ V, ∀ W : World, Calls Try.prog 23 #[.bool false, .int .u32 A, .int .u32 B] W fun e w' => e = .returned (.int .i64 V) ∧ W = w' := ⟨_, fun W => pack_as false A B _ W A0 A1 B0 B1 rfl⟩
  have c := fun W => impArm_bad (rel64_odd s a p V A B P W (sx42 hs) (sx42 ha) hP P0 P1 t1 t2 (by rw [seg64 3 _ 7 (by decide) (by decide), bne_iff_ne]; omega))
  obtain ⟨hs1, hs2⟩ := sx42 hs
  obtain ⟨ha1, ha2⟩ := sx42 ha
  obtain ⟨hp1, hp2⟩ := sx42 hp
  have n3 := fun W => fits_as (s + a - P) 33 true W (by decide) (by decide) (show (sx 33 (s + a - P) == (s + a - P)) = true by rw [beq_iff_eq]; simp only [sx]; omega)
  have X4 := tm_no (s + a) 8 h4
  obtain ⟨ia, ib, ic, id_⟩ := i44 22 19 20 21
  clear hs ha hp hKA hKB P2 h4
  go_enter Try.func11, Try.ntmps11
  go_wp2_with (first | (go_at_call 12; ((with_reducible refine (n1 _).mono ?_); rintro e w' ⟨rfl, rfl⟩)) | (go_at_call 23; ((with_reducible refine (k _).mono ?_); rintro e w' ⟨rfl, rfl⟩)) | (go_at_call 26; ((with_reducible refine (c _).mono ?_); rintro e w' ⟨⟨o, rfl⟩, rfl⟩)) | (go_at_call 15; ((with_reducible refine (n3 _).mono ?_); rintro e w' ⟨rfl, rfl⟩)))
  go_quiet (fail)
  go_wp2_with (first | (go_at_call 12; ((with_reducible refine (n1 _).mono ?_); rintro e w' ⟨rfl, rfl⟩)) | (go_at_call 23; ((with_reducible refine (k _).mono ?_); rintro e w' ⟨rfl, rfl⟩)) | (go_at_call 26; ((with_reducible refine (c _).mono ?_); rintro e w' ⟨⟨o, rfl⟩, rfl⟩)) | (go_at_call 15; ((with_reducible refine (n3 _).mono ?_); rintro e w' ⟨rfl, rfl⟩)))
  go_ret
  exact ⟨rfl, by repeat (first | exact Ext.refl _ | apply Ext.drewN | apply Ext.alloc)⟩
set_option maxHeartbeats 1600000 in
theorem law64_both (kind s a p ra rb P : Int) (w : World) (hk : kind % 4 = 3) (k0 : 0 ≤ kind) (k1 : kind ≤ 255) (hs : sx 42 s = s) (ha : sx 42 a = a) (hp : sx 42 p = p) (a0 : 0 ≤ ra) (a1 : ra ≤ 4294967295) (b0 : 0 ≤ rb) (b1 : rb ≤ 4294967295) (hP : bits .andNot .i64 p 4095 = P) (P0 : -4398046511104 ≤ P) (P1 : P < 4398046511104) (P2 : P % 4096 = 0)
    (ht : s + a - P < -4294967296 ∨ 4294967296 ≤ s + a - P) (h4 : (s + a) % 8 ≠ 0) :
    Calls Try.prog 11 #[.int .u8 kind, .int .i64 s, .int .i64 a, .int .i64 p, .int .u32 ra, .int .u32 rb] w fun e w' => e = .returned (.bool true) ∧ Ext w w' := by
  have hKA := cutA ra a0 a1
  have hKB := cutB rb b0 b1
  obtain ⟨A, hA⟩ : ∃ A, bits .andNot .u32 ra 1627389920 = A := ⟨_, rfl⟩
  obtain ⟨B, hB⟩ : ∃ B, bits .andNot .u32 rb 4193280 = B := ⟨_, rfl⟩
  rw [hA] at hKA
  rw [hB] at hKB
  obtain ⟨A0, A1⟩ := KA_in hKA
  obtain ⟨B0, B1⟩ := KB_in hKB
  have n1 := fun W => near3 s a p true W (by simp [hs, ha, hp])
  obtain ⟨V, k⟩ : ∃ V, ∀ W : World, Calls Try.prog 23 #[.bool false, .int .u32 A, .int .u32 B] W fun e w' => e = .returned (.int .i64 V) ∧ W = w' := ⟨_, fun W => pack_as false A B _ W A0 A1 B0 B1 rfl⟩
  have c := fun W => impArm_bad (rel64_both s a p V A B P W (sx42 hs) (sx42 ha) hP P0 P1 ht (by rw [seg64 3 _ 7 (by decide) (by decide), bne_iff_ne]; omega))
  obtain ⟨hs1, hs2⟩ := sx42 hs
  obtain ⟨ha1, ha2⟩ := sx42 ha
  obtain ⟨hp1, hp2⟩ := sx42 hp
  have n3 := fun W => fits_as (s + a - P) 33 false W (by decide) (by decide) (show (sx 33 (s + a - P) == (s + a - P)) = false by rw [beq_eq_false_iff_ne]; simp only [sx]; omega)
  obtain ⟨ia, ib, ic, id_⟩ := i44 22 19 20 21
  clear hs ha hp hKA hKB P2 ht h4
  go_enter Try.func11, Try.ntmps11
  go_wp2_with (first | (go_at_call 12; ((with_reducible refine (n1 _).mono ?_); rintro e w' ⟨rfl, rfl⟩)) | (go_at_call 23; ((with_reducible refine (k _).mono ?_); rintro e w' ⟨rfl, rfl⟩)) | (go_at_call 26; ((with_reducible refine (c _).mono ?_); rintro e w' ⟨⟨o, rfl⟩, rfl⟩)) | (go_at_call 15; ((with_reducible refine (n3 _).mono ?_); rintro e w' ⟨rfl, rfl⟩)))
  go_quiet (fail)
  go_wp2_with (first | (go_at_call 12; ((with_reducible refine (n1 _).mono ?_); rintro e w' ⟨rfl, rfl⟩)) | (go_at_call 23; ((with_reducible refine (k _).mono ?_); rintro e w' ⟨rfl, rfl⟩)) | (go_at_call 26; ((with_reducible refine (c _).mono ?_); rintro e w' ⟨⟨o, rfl⟩, rfl⟩)) | (go_at_call 15; ((with_reducible refine (n3 _).mono ?_); rintro e w' ⟨rfl, rfl⟩)))
  go_ret
  exact ⟨rfl, by repeat (first | exact Ext.refl _ | apply Ext.drewN | apply Ext.alloc)⟩
theorem law64 (kind s a p ra rb P : Int) (w : World) (hk : kind % 4 = 3) (k0 : 0 ≤ kind) (k1 : kind ≤ 255) (hs : sx 42 s = s) (ha : sx 42 a = a) (hp : sx 42 p = p) (a0 : 0 ≤ ra) (a1 : ra ≤ 4294967295) (b0 : 0 ≤ rb) (b1 : rb ≤ 4294967295) (hP : bits .andNot .i64 p 4095 = P) (P0 : -4398046511104 ≤ P) (P1 : P < 4398046511104) (P2 : P % 4096 = 0) :
    Calls Try.prog 11 #[.int .u8 kind, .int .i64 s, .int .i64 a, .int .i64 p, .int .u32 ra, .int .u32 rb] w fun e w' => e = .returned (.bool true) ∧ Ext w w' := by
  by_cases hf : s + a - P < -4294967296 ∨ 4294967296 ≤ s + a - P
  · by_cases h4 : (s + a) % 8 = 0
    · exact law64_far kind s a p ra rb P w hk k0 k1 hs ha hp a0 a1 b0 b1 hP P0 P1 P2 hf h4
    · exact law64_both kind s a p ra rb P w hk k0 k1 hs ha hp a0 a1 b0 b1 hP P0 P1 P2 hf h4
  · by_cases h4 : (s + a) % 8 = 0
    · exact law64_in kind s a p ra rb P w hk k0 k1 hs ha hp a0 a1 b0 b1 hP P0 P1 P2 (by omega) (by omega) h4
    · exact law64_odd kind s a p ra rb P w hk k0 k1 hs ha hp a0 a1 b0 b1 hP P0 P1 P2 (by omega) (by omega) h4
theorem law_shut (kind s a p ra rb : Int) (w : World) (hn : ¬ (sx 42 s = s ∧ sx 42 a = a ∧ sx 42 p = p)) :
    Calls Try.prog 11 #[.int .u8 kind, .int .i64 s, .int .i64 a, .int .i64 p, .int .u32 ra, .int .u32 rb] w fun e w' => e = .returned (.bool true) ∧ Ext w w' := by
  have n1 := fun W => near3 s a p false W (by simpa using hn)
  clear hn
  go_enter Try.func11, Try.ntmps11
  go_wp2_with (go_at_call 12; ((with_reducible refine (n1 _).mono ?_); rintro e w' ⟨rfl, rfl⟩))
  go_ret
  exact ⟨rfl, by repeat (first | exact Ext.refl _ | apply Ext.drewN | apply Ext.alloc)⟩
theorem walkFnArm64Load (a0 a1 a2 a3 a4 a5 : Int) (w : World) (w0 : (Lit.int .u8 a0).wf = true) (w1 : (Lit.int .i64 a1).wf = true) (w2 : (Lit.int .i64 a2).wf = true) (w3 : (Lit.int .i64 a3).wf = true) (w4 : (Lit.int .u32 a4).wf = true) (w5 : (Lit.int .u32 a5).wf = true) :
    Calls Try.prog 11 #[.int .u8 a0, .int .i64 a1, .int .i64 a2, .int .i64 a3, .int .u32 a4, .int .u32 a5] w fun e w' => e = .returned (.bool true) ∧ Ext w w' := by
  have b := wf_u32 w4
  have d := wf_u32 w5
  have k := wf_u8 w0
  by_cases hn : sx 42 a1 = a1 ∧ sx 42 a2 = a2 ∧ sx 42 a3 = a3
  · obtain ⟨hP, P0, P1, P2⟩ := page_in a3 (sx42 hn.2.2)
    have hk : a0 % 4 = 0 ∨ a0 % 4 = 1 ∨ a0 % 4 = 2 ∨ a0 % 4 = 3 := by omega
    rcases hk with hk | hk | hk | hk
    · exact law8 a0 a1 a2 a3 a4 a5 _ w hk k.1 k.2 hn.1 hn.2.1 hn.2.2 b.1 b.2 d.1 d.2 hP P0 P1 P2
    · exact law16 a0 a1 a2 a3 a4 a5 _ w hk k.1 k.2 hn.1 hn.2.1 hn.2.2 b.1 b.2 d.1 d.2 hP P0 P1 P2
    · exact law32 a0 a1 a2 a3 a4 a5 _ w hk k.1 k.2 hn.1 hn.2.1 hn.2.2 b.1 b.2 d.1 d.2 hP P0 P1 P2
    · exact law64 a0 a1 a2 a3 a4 a5 _ w hk k.1 k.2 hn.1 hn.2.1 hn.2.2 b.1 b.2 d.1 d.2 hP P0 P1 P2
  · exact law_shut a0 a1 a2 a3 a4 a5 w hn
end Go.Proofs.Ytcchhdjpmnhfmaa.Wk
