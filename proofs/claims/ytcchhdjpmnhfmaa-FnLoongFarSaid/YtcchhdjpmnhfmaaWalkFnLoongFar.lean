/- The law FnLoongFar returns true: a call by two instructions of LoongArch, of 20 and 16 bits, goes from the place of the first one to the symbol with the addend: for numbers of 42 bits with their sign whose distance is a multiple of 4 from -131072 to 2^37 - 2^18 - 4 (the statement's own guard). -/
import Derived.Test.YtcchhdjpmnhfmaaLoongImp
namespace Go.Proofs.Ytcchhdjpmnhfmaa.Wk
set_option linter.unusedVariables false
open Go.RowKit Go.Proofs.Ytcchhdjpmnhfmaa.Aid
set_option maxRecDepth 100000 in
set_option maxHeartbeats 1600000 in
theorem rel_in (s a p v A B X Y o : Int) (w : World) (hs : -2199023255552 ≤ s ∧ s < 2199023255552) (ha : -2199023255552 ≤ a ∧ a < 2199023255552) (hp : -2199023255552 ≤ p ∧ p < 2199023255552)
    (t1 : -131072 ≤ s + a - p) (t2 : s + a - p < 137438691328) (hA : bits .and .i64 v 4261412895 = A) (hB : bits .and .i64 (v / 4294967296) 4227859455 = B)
    (b0 : 0 ≤ bits .and .i64 ((s + a - p) / 4) 65535) (b1 : bits .and .i64 ((s + a - p) / 4) 65535 ≤ 65535)
    (hX : bits .or .i64 A (((s + a - p) / 4 + 32768) / 65536 * 32) = X) (hY : bits .or .i64 B (bits .and .i64 ((s + a - p) / 4) 65535 * 1024) = Y) (Y0 : 0 ≤ Y) (Y1 : Y < 2147483648)
    (hO : bits .or .i64 X (Y * 4294967296) = o) :
    Calls Try.prog 30 #[.int .i64 39, .int .i64 s, .int .i64 a, .int .i64 p, .int .i64 v] w fun e w' => e = .returned (.tuple #[.int .i64 o, .int .i64 0, .bool true]) ∧ w = w' := by
  obtain ⟨hs1, hs2⟩ := hs
  obtain ⟨ha1, ha2⟩ := ha
  obtain ⟨hp1, hp2⟩ := hp
  go_enter Try.func30, Try.ntmps30
  go_wp2
  go_ret3
  exact ⟨rfl, rfl⟩
theorem putX (u : Int) (h0 : 0 ≤ u) (h1 : u < 524288) : bits .or .i64 503316481 (u * 32) = 503316481 + u * 32 := by
  rw [or_mid .i64 5 25 (by decide) (by omega) (by omega) (by omega) (by decide) (by decide), wrap_i64, w64 (by omega) (by omega)]
theorem putY (u : Int) : bits .or .i64 1275068449 (bits .and .i64 u 65535 * 1024) = 1275068449 + u % 65536 * 1024 := by
  rw [seg64 16 _ _ (by decide) (by decide), show (2 : Int) ^ 16 = 65536 from rfl, or_mid .i64 10 26 (by decide) (by omega) (by omega) (by omega) (by decide) (by decide), wrap_i64, w64 (by omega) (by omega)]
theorem putO (X Y : Int) (x0 : 0 ≤ X) (x1 : X < 4294967296) (y0 : 0 ≤ Y) (y1 : Y < 2147483648) : bits .or .i64 X (Y * 4294967296) = Y * 4294967296 + X := by
  rw [or_mid' .i64 0 32 (by omega) (by omega) (by omega) (by omega) (by decide) (by decide), wrap_i64, w64 (by omega) (by omega)]
  omega
theorem cut_high (X Y : Int) (x0 : 0 ≤ X) (x1 : X < 4294967296) (y0 : 0 ≤ Y) (y1 : Y < 4294967296) : IntKind.u64.wrap (Y * 4294967296 + X) / 4294967296 % 4294967296 = Y := by rw [wrap_u64]; omega
theorem stayX (u : Int) (h0 : 0 ≤ u) (h1 : u < 524288) : (bits .andNot .u32 (503316481 + u * 32) 33554400 == 503316481) = true := by
  rw [andNot_eq, and_seg .u32 5 20 (m := 33554400) _ (by decide) (by decide) (by decide), wrap_u32, beq_iff_eq]; omega
theorem stayY (u : Int) : (bits .andNot .u32 (1275068449 + u % 65536 * 1024) 67107840 == 1275068449) = true := by
  rw [andNot_eq, and_seg .u32 10 16 (m := 67107840) _ (by decide) (by decide) (by decide), wrap_u32, beq_iff_eq]; omega
set_option maxHeartbeats 1600000 in
theorem law_in (s a p X Y o R Q : Int) (w : World) (hs : sx 42 s = s) (ha : sx 42 a = a) (hp : sx 42 p = p) (t1 : -131072 ≤ s + a - p) (t2 : s + a - p < 137438691328) (t3 : (s + a - p) % 4 = 0)
    (c : ∀ W : World, Calls Try.prog 14 #[.int .i64 39, .int .i64 s, .int .i64 a, .int .i64 p, .int .i64 5476377289119760385] W fun e w' => e = .returned (.tuple #[.int .i64 o, .int .i64 0, .bool true]) ∧ W = w')
    (X0 : 0 ≤ X) (X1 : X < 4294967296) (Y0 : 0 ≤ Y) (Y1 : Y < 4294967296) (hx : o % 4294967296 = X) (hy : IntKind.u64.wrap o / 4294967296 % 4294967296 = Y)
    (hR : sx 20 (X / 32 % 1048576) = R) (hQ : sx 16 (Y / 1024 % 65536) = Q) (R0 : -524288 ≤ R) (R1 : R < 524288) (Q0 : -32768 ≤ Q) (Q1 : Q < 32768)
    (X5 : (R * 262144 + Q * 4 == s + a - p) = true) (X6 : (bits .andNot .u32 X 33554400 == 503316481) = true) (X7 : (bits .andNot .u32 Y 67107840 == 1275068449) = true) :
    Calls Try.prog 4 #[.int .i64 s, .int .i64 a, .int .i64 p] w fun e w' => e = .returned (.bool true) ∧ Ext w w' := by
  have n1 := fun W => near3 s a p true W (by simp [hs, ha, hp])
  obtain ⟨hs1, hs2⟩ := sx42 hs
  obtain ⟨ha1, ha2⟩ := sx42 ha
  obtain ⟨hp1, hp2⟩ := sx42 hp
  have X4 := tmod_yes _ t3
  have r := fun W => rdLoong20 X R W X0 X1 hR
  have q := fun W => rdLoong16 Y Q W Y0 Y1 hQ
  clear hs ha hp t3 hR hQ
  go_enter Try.func4, Try.ntmps4
  go_wp2_with (first | (go_at_call 12; ((with_reducible refine (n1 _).mono ?_); rintro e w' ⟨rfl, rfl⟩)) | (go_at_call 14; ((with_reducible refine (c _).mono ?_); rintro e w' ⟨rfl, rfl⟩)) | (go_at_call 19; ((with_reducible refine (r _).mono ?_); rintro e w' ⟨rfl, nq, rfl⟩)) | (go_at_call 18; ((with_reducible refine (q _).mono ?_); rintro e w' ⟨rfl, nq, rfl⟩)))
  go_ret
  exact ⟨rfl, by repeat (first | exact Ext.refl _ | apply Ext.drewN | apply Ext.alloc)⟩
theorem law_fine (s a p : Int) (w : World) (hs : sx 42 s = s) (ha : sx 42 a = a) (hp : sx 42 p = p) (t1 : -131072 ≤ s + a - p) (t2 : s + a - p < 137438691328) (t3 : (s + a - p) % 4 = 0) :
    Calls Try.prog 4 #[.int .i64 s, .int .i64 a, .int .i64 p] w fun e w' => e = .returned (.bool true) ∧ Ext w w' := by
  have q := seg64 16 ((s + a - p) / 4) 65535 (by decide) (by decide)
  have g := sx42 hs
  have g' := sx42 ha
  have g'' := sx42 hp
  have u0 : 0 ≤ ((s + a - p) / 4 + 32768) / 65536 := by omega
  have u1 : ((s + a - p) / 4 + 32768) / 65536 < 524288 := by omega
  have c := fun W => impLoong (rel_in s a p 5476377289119760385 503316481 1275068449 _ _ _ W g g' g'' t1 t2 (by decide +kernel) (by decide +kernel) (by omega) (by omega) (putX _ u0 u1) (putY ((s + a - p) / 4)) (by omega) (by omega) (putO _ _ (by omega) (by omega) (by omega) (by omega)))
  refine law_in s a p (503316481 + ((s + a - p) / 4 + 32768) / 65536 * 32) (1275068449 + (s + a - p) / 4 % 65536 * 1024) _ (((s + a - p) / 4 + 32768) / 65536) (sx 16 ((s + a - p) / 4)) w hs ha hp t1 t2 t3 c (by omega) (by omega) (by omega) (by omega) ?_ ?_ ?_ ?_ (by omega) (by omega) (by simp only [sx]; omega) (by simp only [sx]; omega) ?_ (stayX _ u0 u1) (stayY _)
  · omega
  · exact cut_high _ _ (by omega) (by omega) (by omega) (by omega)
  · simp only [sx]; omega
  · simp only [sx]; omega
  · rw [beq_iff_eq]; simp only [sx]; omega
theorem law_off (s a p : Int) (w : World) (hs : sx 42 s = s) (ha : sx 42 a = a) (hp : sx 42 p = p) (ht : s + a - p < -131072 ∨ 137438691328 ≤ s + a - p) (t3 : (s + a - p) % 4 = 0) :
    Calls Try.prog 4 #[.int .i64 s, .int .i64 a, .int .i64 p] w fun e w' => e = .returned (.bool true) ∧ Ext w w' := by
  have n1 := fun W => near3 s a p true W (by simp [hs, ha, hp])
  obtain ⟨hs1, hs2⟩ := sx42 hs
  obtain ⟨ha1, ha2⟩ := sx42 ha
  obtain ⟨hp1, hp2⟩ := sx42 hp
  have X4 := tmod_yes _ t3
  clear hs ha hp t3
  rcases ht with ht | ht
  all_goals
    go_enter Try.func4, Try.ntmps4
    go_wp2_with (go_at_call 12; ((with_reducible refine (n1 _).mono ?_); rintro e w' ⟨rfl, rfl⟩))
    all_goals
      go_ret
      exact ⟨rfl, by repeat (first | exact Ext.refl _ | apply Ext.drewN | apply Ext.alloc)⟩
theorem law_odd (s a p : Int) (w : World) (hs : sx 42 s = s) (ha : sx 42 a = a) (hp : sx 42 p = p) (t3 : (s + a - p) % 4 ≠ 0) :
    Calls Try.prog 4 #[.int .i64 s, .int .i64 a, .int .i64 p] w fun e w' => e = .returned (.bool true) ∧ Ext w w' := by
  have n1 := fun W => near3 s a p true W (by simp [hs, ha, hp])
  obtain ⟨hs1, hs2⟩ := sx42 hs
  obtain ⟨ha1, ha2⟩ := sx42 ha
  obtain ⟨hp1, hp2⟩ := sx42 hp
  have X4 := tmod_no _ t3
  clear hs ha hp t3
  go_enter Try.func4, Try.ntmps4
  go_wp2_with (go_at_call 12; ((with_reducible refine (n1 _).mono ?_); rintro e w' ⟨rfl, rfl⟩))
  go_ret
  exact ⟨rfl, by repeat (first | exact Ext.refl _ | apply Ext.drewN | apply Ext.alloc)⟩
theorem law_shut (s a p : Int) (w : World) (hn : ¬ (sx 42 s = s ∧ sx 42 a = a ∧ sx 42 p = p)) :
    Calls Try.prog 4 #[.int .i64 s, .int .i64 a, .int .i64 p] w fun e w' => e = .returned (.bool true) ∧ Ext w w' := by
  have n1 := fun W => near3 s a p false W (by simpa using hn)
  clear hn
  go_enter Try.func4, Try.ntmps4
  go_wp2_with (go_at_call 12; ((with_reducible refine (n1 _).mono ?_); rintro e w' ⟨rfl, rfl⟩))
  go_ret
  exact ⟨rfl, by repeat (first | exact Ext.refl _ | apply Ext.drewN | apply Ext.alloc)⟩
theorem walkFnLoongFar (a0 a1 a2 : Int) (w : World) (w0 : (Lit.int .i64 a0).wf = true) (w1 : (Lit.int .i64 a1).wf = true) (w2 : (Lit.int .i64 a2).wf = true) :
    Calls Try.prog 4 #[.int .i64 a0, .int .i64 a1, .int .i64 a2] w fun e w' => e = .returned (.bool true) ∧ Ext w w' := by
  by_cases hn : sx 42 a0 = a0 ∧ sx 42 a1 = a1 ∧ sx 42 a2 = a2
  · by_cases h3 : (a0 + a1 - a2) % 4 = 0
    · by_cases h1 : a0 + a1 - a2 < -131072 ∨ 137438691328 ≤ a0 + a1 - a2
      · exact law_off a0 a1 a2 w hn.1 hn.2.1 hn.2.2 h1 h3
      · exact law_fine a0 a1 a2 w hn.1 hn.2.1 hn.2.2 (by omega) (by omega) h3
    · exact law_odd a0 a1 a2 w hn.1 hn.2.1 hn.2.2 h3
  · exact law_shut a0 a1 a2 w hn
end Go.Proofs.Ytcchhdjpmnhfmaa.Wk
