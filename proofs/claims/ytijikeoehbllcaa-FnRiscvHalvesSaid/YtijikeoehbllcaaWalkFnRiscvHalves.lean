/- The law FnRiscvHalves returns true: an upper number that stands alone and a lower one that does go together, modulo 2^32, to the symbol with the addend: for numbers of 42 bits with their sign whose distance has 32 bits with its sign (the statement's own guard), and every two instructions of 32 bits. -/
import Derived.Test.YtijikeoehbllcaaRvPair
namespace Go.Proofs.Ytijikeoehbllcaa.Wk
set_option linter.unusedVariables false
open Go.RowKit Go.Proofs.Ytijikeoehbllcaa.Aid
theorem X_in (s a p A : Int) : 0 ≤ A % 4096 + eU (hi (s + a - p)) % 4294967296 ∧ A % 4096 + eU (hi (s + a - p)) % 4294967296 < 4294967296 := by have m := hi_in (s + a - p); rw [uU _ m.1 m.2]; omega
theorem YI_in (s a p B : Int) : 0 ≤ B % 1048576 + eI (lo (s + a - p)) % 4294967296 ∧ B % 1048576 + eI (lo (s + a - p)) % 4294967296 < 4294967296 := by have l := lo_in (s + a - p); rw [uI _ l.1 l.2]; omega
set_option maxRecDepth 100000 in
set_option maxHeartbeats 1600000 in
theorem goI_in (s a p A B X Y : Int) (w : World) (hs : sx 42 s = s) (ha : sx 42 a = a) (hp : sx 42 p = p)
    (A0 : 0 ≤ A) (A1 : A ≤ 4294967295) (B0 : 0 ≤ B) (B1 : B ≤ 4294967295) (t1 : -2147483648 ≤ s + a - p) (t2 : s + a - p ≤ 2147483647)
    (c : ∀ W : World, Calls Try.prog 14 #[.int .i64 57, .int .i64 s, .int .i64 a, .int .i64 p, .int .i64 A] W fun e w' => e = .returned (.tuple #[.int .i64 X, .int .i64 0, .bool true]) ∧ Ext W w')
    (d : ∀ W : World, Calls Try.prog 14 #[.int .i64 59, .int .i64 s, .int .i64 a, .int .i64 p, .int .i64 B] W fun e w' => e = .returned (.tuple #[.int .i64 Y, .int .i64 0, .bool true]) ∧ Ext W w')
    (X0 : 0 ≤ X) (X1 : X < 4294967296) (Y0 : 0 ≤ Y) (Y1 : Y < 4294967296)
    (hU : rU X = hi (s + a - p)) (hL : rI Y = lo (s + a - p)) (hA : (bits .and .u32 X 4095 == bits .and .u32 A 4095) = true) :
    Calls Try.prog 7 #[.bool false, .int .i64 s, .int .i64 a, .int .i64 p, .int .u32 A, .int .u32 B] w fun e w' => e = .returned (.bool true) ∧ Ext w w' := by
  have n1 := fun W => near3 s a p true W (by simp [hs, ha, hp])
  obtain ⟨hs1, hs2⟩ := sx42 hs
  obtain ⟨ha1, ha2⟩ := sx42 ha
  obtain ⟨hp1, hp2⟩ := sx42 hp
  have F := Lib.hid (show (sx 32 (s + a - p) == (s + a - p)) = true by rw [beq_iff_eq]; simp only [sx]; omega)
  have n3 := fun W => fits_as (s + a - p) 32 true W (by decide) (by decide) F.out
  have r := fun W => rvI Y W Y0 Y1
  rw [hL] at r
  have u := fun W => rvU X W X0 X1
  rw [hU] at u
  obtain ⟨l1, l2⟩ := lo_in (s + a - p)
  obtain ⟨m1, m2⟩ := hi_in (s + a - p)
  have T := together (s + a - p) t1 t2
  clear hs ha hp hU hL
  go_enter Try.func7, Try.ntmps7
  go_wp2_with (first | (go_at_call 12; ((with_reducible refine (n1 _).mono ?_); rintro e w' ⟨rfl, rfl⟩)) | (go_at_call 14; ((with_reducible refine (c _).mono ?_); rintro e w' ⟨rfl, hy⟩)) | (go_at_call 14; ((with_reducible refine (d _).mono ?_); rintro e w' ⟨rfl, hz⟩)) | (go_at_call 15; ((with_reducible refine (n3 _).mono ?_); rintro e w' ⟨rfl, rfl⟩)) | (go_at_call 17; ((with_reducible refine (r _).mono ?_); rintro e w' ⟨rfl, nq, rfl⟩)) | (go_at_call 19; ((with_reducible refine (u _).mono ?_); rintro e w' ⟨rfl, nq, rfl⟩)))
  go_ret
  exact ⟨rfl, by repeat (first | exact Ext.trans (Ext.trans ((Ext.refl _).alloc _) hy) hz | apply Ext.drewN)⟩
theorem lawI_in (s a p A B : Int) (w : World) (hs : sx 42 s = s) (ha : sx 42 a = a) (hp : sx 42 p = p)
    (A0 : 0 ≤ A) (A1 : A ≤ 4294967295) (B0 : 0 ≤ B) (B1 : B ≤ 4294967295) (t1 : -2147483648 ≤ s + a - p) (t2 : s + a - p ≤ 2147483647) :
    Calls Try.prog 7 #[.bool false, .int .i64 s, .int .i64 a, .int .i64 p, .int .u32 A, .int .u32 B] w fun e w' => e = .returned (.bool true) ∧ Ext w w' := by
  have x := X_in s a p A
  have y := YI_in s a p B
  obtain ⟨l1, l2⟩ := lo_in (s + a - p)
  obtain ⟨m1, m2⟩ := hi_in (s + a - p)
  exact goI_in s a p A B _ _ w hs ha hp A0 A1 B0 B1 t1 t2
    (fun W => impRv (hi20_in s a p A _ W (sx42 hs) (sx42 ha) (sx42 hp) A0 (by omega) t1 t2 (putU A (hi (s + a - p)) A0 (by omega) m1 m2)))
    (fun W => impRv (lo12I_in s a p B _ W (sx42 hs) (sx42 ha) (sx42 hp) B0 (by omega) t1 t2 (putI B (lo (s + a - p)) B0 (by omega) l1 l2)))
    x.1 x.2 y.1 y.2 (backU A _ m1 m2) (backI B (lo (s + a - p)) l1 l2) (stay12 A _ (by rw [uU _ m1 m2]; omega))
theorem YS_in (s a p B : Int) : 0 ≤ kB B + eS (lo (s + a - p)) % 4294967296 ∧ kB B + eS (lo (s + a - p)) % 4294967296 < 4294967296 := by have l := lo_in (s + a - p); rw [uS _ l.1 l.2]; unfold kB; omega
set_option maxRecDepth 100000 in
set_option maxHeartbeats 1600000 in
theorem goS_in (s a p A B X Y : Int) (w : World) (hs : sx 42 s = s) (ha : sx 42 a = a) (hp : sx 42 p = p)
    (A0 : 0 ≤ A) (A1 : A ≤ 4294967295) (B0 : 0 ≤ B) (B1 : B ≤ 4294967295) (t1 : -2147483648 ≤ s + a - p) (t2 : s + a - p ≤ 2147483647)
    (c : ∀ W : World, Calls Try.prog 14 #[.int .i64 57, .int .i64 s, .int .i64 a, .int .i64 p, .int .i64 A] W fun e w' => e = .returned (.tuple #[.int .i64 X, .int .i64 0, .bool true]) ∧ Ext W w')
    (d : ∀ W : World, Calls Try.prog 14 #[.int .i64 60, .int .i64 s, .int .i64 a, .int .i64 p, .int .i64 B] W fun e w' => e = .returned (.tuple #[.int .i64 Y, .int .i64 0, .bool true]) ∧ Ext W w')
    (X0 : 0 ≤ X) (X1 : X < 4294967296) (Y0 : 0 ≤ Y) (Y1 : Y < 4294967296)
    (hU : rU X = hi (s + a - p)) (hL : rS Y = lo (s + a - p)) (hA : (bits .and .u32 X 4095 == bits .and .u32 A 4095) = true) :
    Calls Try.prog 7 #[.bool true, .int .i64 s, .int .i64 a, .int .i64 p, .int .u32 A, .int .u32 B] w fun e w' => e = .returned (.bool true) ∧ Ext w w' := by
  have n1 := fun W => near3 s a p true W (by simp [hs, ha, hp])
  obtain ⟨hs1, hs2⟩ := sx42 hs
  obtain ⟨ha1, ha2⟩ := sx42 ha
  obtain ⟨hp1, hp2⟩ := sx42 hp
  have F := Lib.hid (show (sx 32 (s + a - p) == (s + a - p)) = true by rw [beq_iff_eq]; simp only [sx]; omega)
  have n3 := fun W => fits_as (s + a - p) 32 true W (by decide) (by decide) F.out
  have r := fun W => rvS Y W Y0 Y1
  rw [hL] at r
  have r0 := fun W => rvI Y W Y0 Y1
  have u := fun W => rvU X W X0 X1
  rw [hU] at u
  obtain ⟨l1, l2⟩ := lo_in (s + a - p)
  obtain ⟨m1, m2⟩ := hi_in (s + a - p)
  have T := together (s + a - p) t1 t2
  clear hs ha hp hU hL
  go_enter Try.func7, Try.ntmps7
  go_wp2_with (first | (go_at_call 12; ((with_reducible refine (n1 _).mono ?_); rintro e w' ⟨rfl, rfl⟩)) | (go_at_call 14; ((with_reducible refine (c _).mono ?_); rintro e w' ⟨rfl, hy⟩)) | (go_at_call 14; ((with_reducible refine (d _).mono ?_); rintro e w' ⟨rfl, hz⟩)) | (go_at_call 15; ((with_reducible refine (n3 _).mono ?_); rintro e w' ⟨rfl, rfl⟩)) | (go_at_call 18; ((with_reducible refine (r _).mono ?_); rintro e w' ⟨rfl, nq, rfl⟩)) | (go_at_call 19; ((with_reducible refine (u _).mono ?_); rintro e w' ⟨rfl, nq, rfl⟩)) | (go_at_call 17; ((with_reducible refine (r0 _).mono ?_); rintro e w' ⟨rfl, nq, rfl⟩)))
  go_ret
  exact ⟨rfl, by repeat (first | exact Ext.trans (Ext.trans ((Ext.refl _).alloc _) hy) hz | apply Ext.drewN)⟩
theorem lawS_in (s a p A B : Int) (w : World) (hs : sx 42 s = s) (ha : sx 42 a = a) (hp : sx 42 p = p)
    (A0 : 0 ≤ A) (A1 : A ≤ 4294967295) (B0 : 0 ≤ B) (B1 : B ≤ 4294967295) (t1 : -2147483648 ≤ s + a - p) (t2 : s + a - p ≤ 2147483647) :
    Calls Try.prog 7 #[.bool true, .int .i64 s, .int .i64 a, .int .i64 p, .int .u32 A, .int .u32 B] w fun e w' => e = .returned (.bool true) ∧ Ext w w' := by
  have x := X_in s a p A
  have y := YS_in s a p B
  obtain ⟨l1, l2⟩ := lo_in (s + a - p)
  obtain ⟨m1, m2⟩ := hi_in (s + a - p)
  exact goS_in s a p A B _ _ w hs ha hp A0 A1 B0 B1 t1 t2
    (fun W => impRv (hi20_in s a p A _ W (sx42 hs) (sx42 ha) (sx42 hp) A0 (by omega) t1 t2 (putU A (hi (s + a - p)) A0 (by omega) m1 m2)))
    (fun W => impRv (lo12S_in s a p B _ W (sx42 hs) (sx42 ha) (sx42 hp) B0 (by omega) t1 t2 (putS B (lo (s + a - p)) B0 (by omega) l1 l2)))
    x.1 x.2 y.1 y.2 (backU A _ m1 m2) (backS B (lo (s + a - p)) l1 l2) (stay12 A _ (by rw [uU _ m1 m2]; omega))
theorem law_shut (j : Bool) (s a p A B : Int) (w : World) (hn : ¬ (sx 42 s = s ∧ sx 42 a = a ∧ sx 42 p = p)) :
    Calls Try.prog 7 #[.bool j, .int .i64 s, .int .i64 a, .int .i64 p, .int .u32 A, .int .u32 B] w fun e w' => e = .returned (.bool true) ∧ Ext w w' := by
  have n1 := fun W => near3 s a p false W (by simpa using hn)
  clear hn
  go_enter Try.func7, Try.ntmps7
  go_wp2_with (go_at_call 12; ((with_reducible refine (n1 _).mono ?_); rintro e w' ⟨rfl, rfl⟩))
  go_ret
  exact ⟨rfl, (Ext.refl _).alloc _⟩
theorem law_far (j : Bool) (s a p A B : Int) (w : World) (hs : sx 42 s = s) (ha : sx 42 a = a) (hp : sx 42 p = p) (ht : s + a - p < -2147483648 ∨ 2147483647 < s + a - p) :
    Calls Try.prog 7 #[.bool j, .int .i64 s, .int .i64 a, .int .i64 p, .int .u32 A, .int .u32 B] w fun e w' => e = .returned (.bool true) ∧ Ext w w' := by
  have n1 := fun W => near3 s a p true W (by simp [hs, ha, hp])
  obtain ⟨hs1, hs2⟩ := sx42 hs
  obtain ⟨ha1, ha2⟩ := sx42 ha
  obtain ⟨hp1, hp2⟩ := sx42 hp
  have F := Lib.hid (show (sx 32 (s + a - p) == (s + a - p)) = false by rw [beq_eq_false_iff_ne]; simp only [sx]; omega)
  have n3 := fun W => fits_as (s + a - p) 32 false W (by decide) (by decide) F.out
  clear hs ha hp ht
  go_enter Try.func7, Try.ntmps7
  go_wp2_with (first | (go_at_call 12; ((with_reducible refine (n1 _).mono ?_); rintro e w' ⟨rfl, rfl⟩)) | (go_at_call 15; ((with_reducible refine (n3 _).mono ?_); rintro e w' ⟨rfl, rfl⟩)))
  go_ret
  exact ⟨rfl, (Ext.refl _).alloc _⟩
theorem walkFnRiscvHalves (a0 : Bool) (a1 a2 a3 a4 a5 : Int) (w : World) (w1 : (Lit.int .i64 a1).wf = true) (w2 : (Lit.int .i64 a2).wf = true) (w3 : (Lit.int .i64 a3).wf = true) (w4 : (Lit.int .u32 a4).wf = true) (w5 : (Lit.int .u32 a5).wf = true) :
    Calls Try.prog 7 #[.bool a0, .int .i64 a1, .int .i64 a2, .int .i64 a3, .int .u32 a4, .int .u32 a5] w fun e w' => e = .returned (.bool true) ∧ Ext w w' := by
  have b := wf_u32 w4
  have d := wf_u32 w5
  by_cases hn : sx 42 a1 = a1 ∧ sx 42 a2 = a2 ∧ sx 42 a3 = a3
  · by_cases hf : a1 + a2 - a3 < -2147483648 ∨ 2147483647 < a1 + a2 - a3
    · exact law_far a0 a1 a2 a3 a4 a5 w hn.1 hn.2.1 hn.2.2 hf
    · cases a0 with
      | false => exact lawI_in a1 a2 a3 a4 a5 w hn.1 hn.2.1 hn.2.2 b.1 b.2 d.1 d.2 (by omega) (by omega)
      | true => exact lawS_in a1 a2 a3 a4 a5 w hn.1 hn.2.1 hn.2.2 b.1 b.2 d.1 d.2 (by omega) (by omega)
  · exact law_shut a0 a1 a2 a3 a4 a5 w hn
end Go.Proofs.Ytijikeoehbllcaa.Wk
