/- The law FnLoongPage returns true: the number of pages and the low part, with its sign, are together the symbol with the addend, from the page of the place on: for numbers of 42 bits with their sign whose distance is from -2^31 + 2^13 to 2^31 - 2^13 - 1 (the statement's own guard). -/
import Derived.Test.YtcchhdjpmnhfmaaLoongImp
namespace Go.Proofs.Ytcchhdjpmnhfmaa.Wk
set_option linter.unusedVariables false
open Go.RowKit Go.Proofs.Ytcchhdjpmnhfmaa.Aid
theorem low12 (x : Int) : bits .and .i64 x 4095 = x % 4096 := seg64 12 _ _ (by decide) (by decide)
theorem low20 (x : Int) : bits .and .i64 x 1048575 = x % 1048576 := seg64 20 _ _ (by decide) (by decide)
theorem cut12 (x : Int) (h : -9223372036854775808 ≤ x ∧ x ≤ 9223372036854775807) : bits .andNot .i64 x 4095 = x - x % 4096 := by
  rw [andNot_eq, low12, wrap_i64, w64 (by omega) (by omega)]
theorem page (x : Int) (h : -9223372036854775808 ≤ x ∧ x ≤ 9223372036854775807) : bits .and .i64 x (-4096) = x - x % 4096 := by
  rw [and_neg .i64 12 x (by decide)]
  exact cut12 x h
theorem pcLo (t p L : Int) (w : World) (hL : bits .and .i64 t 4095 = L) :
    Calls Try.prog 37 #[.int .i64 37, .int .i64 t, .int .i64 p] w fun e w' => e = .returned (.int .i64 L) ∧ w = w' := by
  go_enter Try.func37, Try.ntmps37
  go_wp2
  go_ret
  exact ⟨rfl, rfl⟩
theorem pcHi (t p L T P r : Int) (w : World) (ht : -8796093022208 ≤ t ∧ t ≤ 8796093022208) (hp : -8796093022208 ≤ p ∧ p ≤ 8796093022208) (hL : bits .and .i64 t 4095 = L) (hT : bits .and .i64 t (-4096) = T) (hP : bits .and .i64 p (-4096) = P)
    (T0 : -17592186044416 ≤ T) (T1 : T ≤ 17592186044416) (P0 : -17592186044416 ≤ P) (P1 : P ≤ 17592186044416)
    (hr : (if 2048 ≤ L then bits .and .i64 ((T - P + 4096) / 4096) 1048575 else bits .and .i64 ((T - P) / 4096) 1048575) = r) :
    Calls Try.prog 37 #[.int .i64 36, .int .i64 t, .int .i64 p] w fun e w' => e = .returned (.int .i64 r) ∧ w = w' := by
  obtain ⟨t0, t1⟩ := ht
  obtain ⟨p0, p1⟩ := hp
  by_cases h : 2048 ≤ L
  · rw [if_pos h] at hr
    go_enter Try.func37, Try.ntmps37
    go_wp2
    go_ret
    exact ⟨rfl, rfl⟩
  · rw [if_neg h] at hr
    have h' : L < 2048 := by omega
    clear h
    go_enter Try.func37, Try.ntmps37
    go_wp2
    go_ret
    exact ⟨rfl, rfl⟩
set_option maxRecDepth 100000 in
set_option maxHeartbeats 1600000 in
theorem relHi (s a p v A r o : Int) (w : World) (hs : -2199023255552 ≤ s ∧ s < 2199023255552) (ha : -2199023255552 ≤ a ∧ a < 2199023255552) (hp : -2199023255552 ≤ p ∧ p < 2199023255552)
    (c : Calls Try.prog 37 #[.int .i64 36, .int .i64 (s + a), .int .i64 p] w fun e w' => e = .returned (.int .i64 r) ∧ w = w')
    (hA : bits .and .i64 v 4261412895 = A) (r0 : 0 ≤ r) (r1 : r < 1048576) (hO : bits .or .i64 A (r * 32) = o) :
    Calls Try.prog 30 #[.int .i64 36, .int .i64 s, .int .i64 a, .int .i64 p, .int .i64 v] w fun e w' => e = .returned (.tuple #[.int .i64 o, .int .i64 0, .bool true]) ∧ w = w' := by
  obtain ⟨hs1, hs2⟩ := hs
  obtain ⟨ha1, ha2⟩ := ha
  obtain ⟨hp1, hp2⟩ := hp
  go_enter Try.func30, Try.ntmps30
  go_wp2_with (go_at_call 37; ((with_reducible refine c.mono ?_); rintro e w' ⟨rfl, rfl⟩))
  go_ret3
  exact ⟨rfl, rfl⟩
set_option maxRecDepth 100000 in
set_option maxHeartbeats 1600000 in
theorem relLo (s a p v A r o : Int) (w : World) (hs : -2199023255552 ≤ s ∧ s < 2199023255552) (ha : -2199023255552 ≤ a ∧ a < 2199023255552) (hp : -2199023255552 ≤ p ∧ p < 2199023255552)
    (c : Calls Try.prog 37 #[.int .i64 37, .int .i64 (s + a), .int .i64 p] w fun e w' => e = .returned (.int .i64 r) ∧ w = w')
    (hA : bits .and .i64 v 4290774015 = A) (r0 : 0 ≤ r) (r1 : r < 4096) (hO : bits .or .i64 A (r * 1024) = o) :
    Calls Try.prog 30 #[.int .i64 37, .int .i64 s, .int .i64 a, .int .i64 p, .int .i64 v] w fun e w' => e = .returned (.tuple #[.int .i64 o, .int .i64 0, .bool true]) ∧ w = w' := by
  obtain ⟨hs1, hs2⟩ := hs
  obtain ⟨ha1, ha2⟩ := ha
  obtain ⟨hp1, hp2⟩ := hp
  go_enter Try.func30, Try.ntmps30
  go_wp2_with (go_at_call 37; ((with_reducible refine c.mono ?_); rintro e w' ⟨rfl, rfl⟩))
  go_ret3
  exact ⟨rfl, rfl⟩
set_option maxHeartbeats 1600000 in
theorem law_in (s a p X Y R Q P : Int) (w : World) (hs : sx 42 s = s) (ha : sx 42 a = a) (hp : sx 42 p = p) (t1 : -2147475456 ≤ s + a - p) (t2 : s + a - p < 2147475456)
    (c : ∀ W : World, Calls Try.prog 14 #[.int .i64 36, .int .i64 s, .int .i64 a, .int .i64 p, .int .i64 436207616] W fun e w' => e = .returned (.tuple #[.int .i64 X, .int .i64 0, .bool true]) ∧ W = w')
    (d : ∀ W : World, Calls Try.prog 14 #[.int .i64 37, .int .i64 s, .int .i64 a, .int .i64 p, .int .i64 46137344] W fun e w' => e = .returned (.tuple #[.int .i64 Y, .int .i64 0, .bool true]) ∧ W = w')
    (X0 : 0 ≤ X) (X1 : X < 4294967296) (Y0 : 0 ≤ Y) (Y1 : Y < 4294967296) (hP : bits .andNot .i64 p 4095 = P) (P0 : -17592186044416 ≤ P) (P1 : P ≤ 17592186044416)
    (hR : sx 20 (X / 32 % 1048576) = R) (hQ : sx 12 (Y / 1024 % 4096) = Q) (R0 : -524288 ≤ R) (R1 : R < 524288) (Q0 : -2048 ≤ Q) (Q1 : Q < 2048)
    (X5 : (P + R * 4096 + Q == s + a) = true) (X6 : (bits .andNot .u32 X 33554400 == 436207616) = true) (X7 : (bits .andNot .u32 Y 4193280 == 46137344) = true) :
    Calls Try.prog 6 #[.int .i64 s, .int .i64 a, .int .i64 p] w fun e w' => e = .returned (.bool true) ∧ Ext w w' := by
  have n1 := fun W => near3 s a p true W (by simp [hs, ha, hp])
  obtain ⟨hs1, hs2⟩ := sx42 hs
  obtain ⟨ha1, ha2⟩ := sx42 ha
  obtain ⟨hp1, hp2⟩ := sx42 hp
  have r := fun W => rdLoong20 X R W X0 X1 hR
  have q := fun W => rdLoong12 Y Q W Y0 Y1 hQ
  clear hs ha hp hR hQ
  go_enter Try.func6, Try.ntmps6
  go_wp2_with (first | (go_at_call 12; ((with_reducible refine (n1 _).mono ?_); rintro e w' ⟨rfl, rfl⟩)) | (go_at_call 14; ((with_reducible refine (c _).mono ?_); rintro e w' ⟨rfl, rfl⟩)) | (go_at_call 14; ((with_reducible refine (d _).mono ?_); rintro e w' ⟨rfl, rfl⟩)) | (go_at_call 19; ((with_reducible refine (r _).mono ?_); rintro e w' ⟨rfl, nq, rfl⟩)) | (go_at_call 20; ((with_reducible refine (q _).mono ?_); rintro e w' ⟨rfl, nq, rfl⟩)))
  go_ret
  exact ⟨rfl, by repeat (first | exact Ext.refl _ | apply Ext.drewN | apply Ext.alloc)⟩
theorem putHi (r : Int) (r0 : 0 ≤ r) (r1 : r < 1048576) : bits .or .i64 436207616 (r * 32) = 436207616 + r * 32 := by
  rw [or_mid .i64 5 25 (by decide) (by omega) (by omega) (by omega) (by decide) (by decide), wrap_i64, w64 (by omega) (by omega)]
theorem putLo (r : Int) (r0 : 0 ≤ r) (r1 : r < 4096) : bits .or .i64 46137344 (r * 1024) = 46137344 + r * 1024 := by
  rw [or_mid .i64 10 22 (by decide) (by omega) (by omega) (by omega) (by decide) (by decide), wrap_i64, w64 (by omega) (by omega)]
theorem stayHi (r : Int) (r0 : 0 ≤ r) (r1 : r < 1048576) : (bits .andNot .u32 (436207616 + r * 32) 33554400 == 436207616) = true := by
  rw [andNot_eq, and_seg .u32 5 20 (m := 33554400) _ (by decide) (by decide) (by decide), wrap_u32, beq_iff_eq]; omega
theorem stayLo (r : Int) (r0 : 0 ≤ r) (r1 : r < 4096) : (bits .andNot .u32 (46137344 + r * 1024) 4193280 == 46137344) = true := by
  rw [andNot_eq, and_seg .u32 10 12 (m := 4193280) _ (by decide) (by decide) (by decide), wrap_u32, beq_iff_eq]; omega
/-- The number of pages that is told. -/
def pages (t p : Int) : Int := if 2048 ≤ t % 4096 then (t - t % 4096 - (p - p % 4096) + 4096) / 4096 % 1048576 else (t - t % 4096 - (p - p % 4096)) / 4096 % 1048576
theorem pages_in (t p : Int) : 0 ≤ pages t p ∧ pages t p < 1048576 := by unfold pages; split <;> omega
theorem pages_eq (t p : Int) (h1 : -2147475456 ≤ t - p) (h2 : t - p < 2147475456) : p - p % 4096 + sx 20 (pages t p) * 4096 + sx 12 (t % 4096) = t := by
  unfold pages
  split
  · simp only [sx]; omega
  · simp only [sx]; omega
theorem law_fine (s a p : Int) (w : World) (hs : sx 42 s = s) (ha : sx 42 a = a) (hp : sx 42 p = p) (t1 : -2147475456 ≤ s + a - p) (t2 : s + a - p < 2147475456) :
    Calls Try.prog 6 #[.int .i64 s, .int .i64 a, .int .i64 p] w fun e w' => e = .returned (.bool true) ∧ Ext w w' := by
  have g := sx42 hs
  have g' := sx42 ha
  have g'' := sx42 hp
  have b := pages_in (s + a) p
  have hr : (if 2048 ≤ (s + a) % 4096 then bits .and .i64 (((s + a) - (s + a) % 4096 - (p - p % 4096) + 4096) / 4096) 1048575 else bits .and .i64 (((s + a) - (s + a) % 4096 - (p - p % 4096)) / 4096) 1048575) = pages (s + a) p := by
    rw [low20, low20]; rfl
  have c := fun W => impLoong (relHi s a p 436207616 436207616 _ _ W g g' g'' (pcHi (s + a) p _ _ _ _ W (by omega) (by omega) (low12 _) (page _ (by omega)) (page _ (by omega)) (by omega) (by omega) (by omega) (by omega) hr) (by decide +kernel) b.1 b.2 (putHi _ b.1 b.2))
  have d := fun W => impLoong (relLo s a p 46137344 46137344 _ _ W g g' g'' (pcLo (s + a) p _ W (low12 _)) (by decide +kernel) (by omega) (by omega) (putLo ((s + a) % 4096) (by omega) (by omega)))
  refine law_in s a p _ _ (sx 20 (pages (s + a) p)) (sx 12 ((s + a) % 4096)) (p - p % 4096) w hs ha hp t1 t2 c d (by omega) (by omega) (by omega) (by omega) (cut12 _ (by omega)) (by omega) (by omega) ?_ ?_ (by simp only [sx]; omega) (by simp only [sx]; omega) (by simp only [sx]; omega) (by simp only [sx]; omega) ?_ (stayHi _ b.1 b.2) (stayLo _ (by omega) (by omega))
  · congr 1; omega
  · congr 1; omega
  · rw [beq_iff_eq]; exact pages_eq (s + a) p t1 t2
theorem law_off (s a p : Int) (w : World) (hs : sx 42 s = s) (ha : sx 42 a = a) (hp : sx 42 p = p) (ht : s + a - p < -2147475456 ∨ 2147475456 ≤ s + a - p) :
    Calls Try.prog 6 #[.int .i64 s, .int .i64 a, .int .i64 p] w fun e w' => e = .returned (.bool true) ∧ Ext w w' := by
  have n1 := fun W => near3 s a p true W (by simp [hs, ha, hp])
  obtain ⟨hs1, hs2⟩ := sx42 hs
  obtain ⟨ha1, ha2⟩ := sx42 ha
  obtain ⟨hp1, hp2⟩ := sx42 hp
  clear hs ha hp
  rcases ht with ht | ht
  all_goals
    go_enter Try.func6, Try.ntmps6
    go_wp2_with (go_at_call 12; ((with_reducible refine (n1 _).mono ?_); rintro e w' ⟨rfl, rfl⟩))
    all_goals
      go_ret
      exact ⟨rfl, by repeat (first | exact Ext.refl _ | apply Ext.drewN | apply Ext.alloc)⟩
theorem law_shut (s a p : Int) (w : World) (hn : ¬ (sx 42 s = s ∧ sx 42 a = a ∧ sx 42 p = p)) :
    Calls Try.prog 6 #[.int .i64 s, .int .i64 a, .int .i64 p] w fun e w' => e = .returned (.bool true) ∧ Ext w w' := by
  have n1 := fun W => near3 s a p false W (by simpa using hn)
  clear hn
  go_enter Try.func6, Try.ntmps6
  go_wp2_with (go_at_call 12; ((with_reducible refine (n1 _).mono ?_); rintro e w' ⟨rfl, rfl⟩))
  go_ret
  exact ⟨rfl, by repeat (first | exact Ext.refl _ | apply Ext.drewN | apply Ext.alloc)⟩
theorem walkFnLoongPage (a0 a1 a2 : Int) (w : World) (w0 : (Lit.int .i64 a0).wf = true) (w1 : (Lit.int .i64 a1).wf = true) (w2 : (Lit.int .i64 a2).wf = true) :
    Calls Try.prog 6 #[.int .i64 a0, .int .i64 a1, .int .i64 a2] w fun e w' => e = .returned (.bool true) ∧ Ext w w' := by
  by_cases hn : sx 42 a0 = a0 ∧ sx 42 a1 = a1 ∧ sx 42 a2 = a2
  · by_cases h1 : a0 + a1 - a2 < -2147475456 ∨ 2147475456 ≤ a0 + a1 - a2
    · exact law_off a0 a1 a2 w hn.1 hn.2.1 hn.2.2 h1
    · exact law_fine a0 a1 a2 w hn.1 hn.2.1 hn.2.2 (by omega) (by omega)
  · exact law_shut a0 a1 a2 w hn
end Go.Proofs.Ytcchhdjpmnhfmaa.Wk
