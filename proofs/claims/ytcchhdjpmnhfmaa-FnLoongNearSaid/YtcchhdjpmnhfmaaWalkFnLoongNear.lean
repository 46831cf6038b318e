/- The law FnLoongNear returns true: a number of 20 bits, each 4 bytes, goes from the place to the symbol with the addend if that is near enough, else an error is told: for numbers of 42 bits with their sign whose distance is a multiple of 4 and less than 2^21 bytes or more than 2^23 (the statement's own guard). -/
import Derived.Test.YtcchhdjpmnhfmaaLoongImp
namespace Go.Proofs.Ytcchhdjpmnhfmaa.Wk
set_option linter.unusedVariables false
open Go.RowKit Go.Proofs.Ytcchhdjpmnhfmaa.Aid
set_option maxRecDepth 100000 in
set_option maxHeartbeats 1600000 in
theorem rel_in (s a p v A o : Int) (w : World) (hs : -2199023255552 ≤ s ∧ s < 2199023255552) (ha : -2199023255552 ≤ a ∧ a < 2199023255552) (hp : -2199023255552 ≤ p ∧ p < 2199023255552)
    (t1 : -2097152 ≤ (s + a - p) / 4) (t2 : (s + a - p) / 4 < 2097152) (hA : bits .and .i64 v 4261412895 = A) (b0 : 0 ≤ bits .and .i64 ((s + a - p) / 4) 1048575) (b1 : bits .and .i64 ((s + a - p) / 4) 1048575 ≤ 1048575)
    (hO : bits .or .i64 A (bits .and .i64 ((s + a - p) / 4) 1048575 * 32) = o) :
    Calls Try.prog 30 #[.int .i64 38, .int .i64 s, .int .i64 a, .int .i64 p, .int .i64 v] w fun e w' => e = .returned (.tuple #[.int .i64 o, .int .i64 0, .bool true]) ∧ w = w' := by
  obtain ⟨hs1, hs2⟩ := hs
  obtain ⟨ha1, ha2⟩ := ha
  obtain ⟨hp1, hp2⟩ := hp
  go_enter Try.func30, Try.ntmps30
  go_wp2
  go_ret3
  exact ⟨rfl, rfl⟩
set_option maxRecDepth 100000 in
set_option maxHeartbeats 1600000 in
theorem rel_bad (s a p v : Int) (w : World) (hs : -2199023255552 ≤ s ∧ s < 2199023255552) (ha : -2199023255552 ≤ a ∧ a < 2199023255552) (hp : -2199023255552 ≤ p ∧ p < 2199023255552)
    (ht : (s + a - p) / 4 < -2097152 ∨ 2097152 ≤ (s + a - p) / 4) :
    Calls Try.prog 30 #[.int .i64 38, .int .i64 s, .int .i64 a, .int .i64 p, .int .i64 v] w fun e w' => (∃ o, e = .returned (.tuple #[.int .i64 o, .int .i64 1, .bool true])) ∧ w = w' := by
  obtain ⟨hs1, hs2⟩ := hs
  obtain ⟨ha1, ha2⟩ := ha
  obtain ⟨hp1, hp2⟩ := hp
  rcases ht with ht | ht
  all_goals
    go_enter Try.func30, Try.ntmps30
    go_wp2
    go_ret3
    exact ⟨⟨_, rfl⟩, rfl⟩
theorem put (t : Int) : bits .or .i64 402653184 (bits .and .i64 t 1048575 * 32) = 402653184 + t % 1048576 * 32 := by
  rw [seg64 20 _ _ (by decide) (by decide), show (2 : Int) ^ 20 = 1048576 from rfl, or_mid .i64 5 25 (by decide) (by omega) (by omega) (by omega) (by decide) (by decide), wrap_i64, w64 (by omega) (by omega)]
theorem stay (t : Int) : (bits .andNot .u32 (402653184 + t % 1048576 * 32) 33554400 == 402653184) = true := by
  rw [andNot_eq, and_seg .u32 5 20 (m := 33554400) _ (by decide) (by decide) (by decide), wrap_u32, beq_iff_eq]; omega
set_option maxHeartbeats 1600000 in
theorem law_in (s a p o : Int) (w : World) (hs : sx 42 s = s) (ha : sx 42 a = a) (hp : sx 42 p = p) (t1 : -2097152 ≤ s + a - p) (t2 : s + a - p < 2097152) (t3 : (s + a - p) % 4 = 0)
    (ho : o = 402653184 + (s + a - p) / 4 % 1048576 * 32) :
    Calls Try.prog 5 #[.int .i64 s, .int .i64 a, .int .i64 p] w fun e w' => e = .returned (.bool true) ∧ Ext w w' := by
  have n1 := fun W => near3 s a p true W (by simp [hs, ha, hp])
  have q := seg64 20 ((s + a - p) / 4) 1048575 (by decide) (by decide)
  have c := fun W => impLoong (rel_in s a p 402653184 402653184 o W (sx42 hs) (sx42 ha) (sx42 hp) (by omega) (by omega) (by decide +kernel) (by omega) (by omega) (by rw [ho]; exact put _))
  obtain ⟨hs1, hs2⟩ := sx42 hs
  obtain ⟨ha1, ha2⟩ := sx42 ha
  obtain ⟨hp1, hp2⟩ := sx42 hp
  have n3 := fun W => fits_as (s + a - p) 22 true W (by decide) (by decide) (fits_yes 22 _ (by omega) (by decide))
  have X4 := tmod_yes _ t3
  have o0 : 0 ≤ o := by omega
  have o1 : o < 4294967296 := by omega
  have r := fun W => rdLoong20 o ((s + a - p) / 4) W o0 o1 (by rw [ho]; simp only [sx]; omega)
  have X5 : ((s + a - p) / 4 * 4 == s + a - p) = true := by rw [beq_iff_eq]; omega
  have X7 : (bits .andNot .u32 o 33554400 == 402653184) = true := by rw [ho]; exact stay _
  clear hs ha hp t3 ho q
  go_enter Try.func5, Try.ntmps5
  go_wp2_with (first | (go_at_call 12; ((with_reducible refine (n1 _).mono ?_); rintro e w' ⟨rfl, rfl⟩)) | (go_at_call 14; ((with_reducible refine (c _).mono ?_); rintro e w' ⟨rfl, rfl⟩)) | (go_at_call 15; ((with_reducible refine (n3 _).mono ?_); rintro e w' ⟨rfl, rfl⟩)) | (go_at_call 19; ((with_reducible refine (r _).mono ?_); rintro e w' ⟨rfl, nq, rfl⟩)))
  go_ret
  exact ⟨rfl, by repeat (first | exact Ext.refl _ | apply Ext.drewN | apply Ext.alloc)⟩
set_option maxHeartbeats 1600000 in
theorem law_far (s a p : Int) (w : World) (hs : sx 42 s = s) (ha : sx 42 a = a) (hp : sx 42 p = p) (ht : s + a - p < -8388608 ∨ 8388608 ≤ s + a - p) (t3 : (s + a - p) % 4 = 0) :
    Calls Try.prog 5 #[.int .i64 s, .int .i64 a, .int .i64 p] w fun e w' => e = .returned (.bool true) ∧ Ext w w' := by
  have n1 := fun W => near3 s a p true W (by simp [hs, ha, hp])
  have c := fun W => impLoong_bad (rel_bad s a p 402653184 W (sx42 hs) (sx42 ha) (sx42 hp) (by omega))
  obtain ⟨hs1, hs2⟩ := sx42 hs
  obtain ⟨ha1, ha2⟩ := sx42 ha
  obtain ⟨hp1, hp2⟩ := sx42 hp
  have n3 := fun W => fits_as (s + a - p) 22 false W (by decide) (by decide) (fits_no 22 _ (by omega))
  have n4 := fun W => fits_as (s + a - p) 24 false W (by decide) (by decide) (fits_no 24 _ (by omega))
  have X4 := tmod_yes _ t3
  clear hs ha hp t3 ht
  go_enter Try.func5, Try.ntmps5
  go_wp2_with (first | (go_at_call 12; ((with_reducible refine (n1 _).mono ?_); rintro e w' ⟨rfl, rfl⟩)) | (go_at_call 14; ((with_reducible refine (c _).mono ?_); rintro e w' ⟨⟨o, rfl⟩, rfl⟩)) | (go_at_call 15; ((with_reducible refine (n3 _).mono ?_); rintro e w' ⟨rfl, rfl⟩)) | (go_at_call 15; ((with_reducible refine (n4 _).mono ?_); rintro e w' ⟨rfl, rfl⟩)))
  go_ret
  exact ⟨rfl, by repeat (first | exact Ext.refl _ | apply Ext.drewN | apply Ext.alloc)⟩
theorem law_mid (s a p : Int) (w : World) (hs : sx 42 s = s) (ha : sx 42 a = a) (hp : sx 42 p = p) (h1 : s + a - p < -2097152 ∨ 2097152 ≤ s + a - p) (h2 : -8388608 ≤ s + a - p ∧ s + a - p < 8388608) (t3 : (s + a - p) % 4 = 0) :
    Calls Try.prog 5 #[.int .i64 s, .int .i64 a, .int .i64 p] w fun e w' => e = .returned (.bool true) ∧ Ext w w' := by
  have n1 := fun W => near3 s a p true W (by simp [hs, ha, hp])
  obtain ⟨hs1, hs2⟩ := sx42 hs
  obtain ⟨ha1, ha2⟩ := sx42 ha
  obtain ⟨hp1, hp2⟩ := sx42 hp
  have n3 := fun W => fits_as (s + a - p) 22 false W (by decide) (by decide) (fits_no 22 _ (by omega))
  have n4 := fun W => fits_as (s + a - p) 24 true W (by decide) (by decide) (fits_yes 24 _ (by omega) (by decide))
  have X4 := tmod_yes _ t3
  clear hs ha hp t3 h1 h2
  go_enter Try.func5, Try.ntmps5
  go_wp2_with (first | (go_at_call 12; ((with_reducible refine (n1 _).mono ?_); rintro e w' ⟨rfl, rfl⟩)) | (go_at_call 15; ((with_reducible refine (n3 _).mono ?_); rintro e w' ⟨rfl, rfl⟩)) | (go_at_call 15; ((with_reducible refine (n4 _).mono ?_); rintro e w' ⟨rfl, rfl⟩)))
  go_ret
  exact ⟨rfl, by repeat (first | exact Ext.refl _ | apply Ext.drewN | apply Ext.alloc)⟩
theorem law_odd (s a p : Int) (w : World) (hs : sx 42 s = s) (ha : sx 42 a = a) (hp : sx 42 p = p) (t3 : (s + a - p) % 4 ≠ 0) :
    Calls Try.prog 5 #[.int .i64 s, .int .i64 a, .int .i64 p] w fun e w' => e = .returned (.bool true) ∧ Ext w w' := by
  have n1 := fun W => near3 s a p true W (by simp [hs, ha, hp])
  obtain ⟨hs1, hs2⟩ := sx42 hs
  obtain ⟨ha1, ha2⟩ := sx42 ha
  obtain ⟨hp1, hp2⟩ := sx42 hp
  have X4 := tmod_no _ t3
  clear hs ha hp t3
  go_enter Try.func5, Try.ntmps5
  go_wp2_with (go_at_call 12; ((with_reducible refine (n1 _).mono ?_); rintro e w' ⟨rfl, rfl⟩))
  go_ret
  exact ⟨rfl, by repeat (first | exact Ext.refl _ | apply Ext.drewN | apply Ext.alloc)⟩
theorem law_shut (s a p : Int) (w : World) (hn : ¬ (sx 42 s = s ∧ sx 42 a = a ∧ sx 42 p = p)) :
    Calls Try.prog 5 #[.int .i64 s, .int .i64 a, .int .i64 p] w fun e w' => e = .returned (.bool true) ∧ Ext w w' := by
  have n1 := fun W => near3 s a p false W (by simpa using hn)
  clear hn
  go_enter Try.func5, Try.ntmps5
  go_wp2_with (go_at_call 12; ((with_reducible refine (n1 _).mono ?_); rintro e w' ⟨rfl, rfl⟩))
  go_ret
  exact ⟨rfl, by repeat (first | exact Ext.refl _ | apply Ext.drewN | apply Ext.alloc)⟩
theorem walkFnLoongNear (a0 a1 a2 : Int) (w : World) (w0 : (Lit.int .i64 a0).wf = true) (w1 : (Lit.int .i64 a1).wf = true) (w2 : (Lit.int .i64 a2).wf = true) :
    Calls Try.prog 5 #[.int .i64 a0, .int .i64 a1, .int .i64 a2] w fun e w' => e = .returned (.bool true) ∧ Ext w w' := by
  by_cases hn : sx 42 a0 = a0 ∧ sx 42 a1 = a1 ∧ sx 42 a2 = a2
  · by_cases h3 : (a0 + a1 - a2) % 4 = 0
    · by_cases h1 : a0 + a1 - a2 < -2097152 ∨ 2097152 ≤ a0 + a1 - a2
      · by_cases h2 : a0 + a1 - a2 < -8388608 ∨ 8388608 ≤ a0 + a1 - a2
        · exact law_far a0 a1 a2 w hn.1 hn.2.1 hn.2.2 h2 h3
        · exact law_mid a0 a1 a2 w hn.1 hn.2.1 hn.2.2 h1 (by omega) h3
      · exact law_in a0 a1 a2 _ w hn.1 hn.2.1 hn.2.2 (by omega) (by omega) h3 rfl
    · exact law_odd a0 a1 a2 w hn.1 hn.2.1 hn.2.2 h3
  · exact law_shut a0 a1 a2 w hn
end Go.Proofs.Ytcchhdjpmnhfmaa.Wk
