/- The law FnRiscvBranch returns true: a branch of RISC-V goes from its own place to the symbol with the addend if that is an even number of 13 bits with its sign, else an error is told: for numbers of 42 bits with their sign and an instruction of 32 bits (the statement's own guard). -/
import Derived.Test.YtijikeoehbllcaaRvImp
namespace Go.Proofs.Ytijikeoehbllcaa.Wk
set_option linter.unusedVariables false
open Go.RowKit Go.Proofs.Ytijikeoehbllcaa.Aid
set_option maxRecDepth 100000 in
set_option maxHeartbeats 1600000 in
theorem rel_in (s a p v : Int) (w : World) (hs : -2199023255552 ≤ s ∧ s < 2199023255552) (ha : -2199023255552 ≤ a ∧ a < 2199023255552) (hp : -2199023255552 ≤ p ∧ p < 2199023255552)
    (h0 : 0 ≤ v) (h1 : v < 4294967296) (ht : -4096 ≤ s + a - p ∧ s + a - p ≤ 4095 ∧ (s + a - p) % 2 = 0) :
    Calls Try.prog 31 #[.int .i64 52, .int .i64 s, .int .i64 a, .int .i64 p, .int .i64 v] w fun e w' => e = .returned (.tuple #[.int .i64 (kB v + eB (s + a - p)), .int .i64 0, .bool true]) ∧ Ext w w' := by
  obtain ⟨hs1, hs2⟩ := hs
  obtain ⟨ha1, ha2⟩ := ha
  obtain ⟨hp1, hp2⟩ := hp
  obtain ⟨t1, t2, t3⟩ := ht
  have c := encB_in (s + a - p) w t1 t2 t3
  have H := Lib.hid (putB v (s + a - p) h0 h1)
  obtain ⟨g1, g2⟩ := eB_in (s + a - p)
  clear t3
  go_enter Try.func31, Try.ntmps31
  go_wp2_with (go_at_call 42; ((with_reducible refine c.mono ?_); rintro e w' ⟨rfl, rfl⟩))
  go_ret3
  exact ⟨by rw [← H.out]; rfl, Ext.refl _⟩
set_option maxRecDepth 100000 in
set_option maxHeartbeats 1600000 in
theorem rel_bad (s a p v : Int) (w : World) (hs : -2199023255552 ≤ s ∧ s < 2199023255552) (ha : -2199023255552 ≤ a ∧ a < 2199023255552) (hp : -2199023255552 ≤ p ∧ p < 2199023255552)
    (h0 : 0 ≤ v) (h1 : v < 4294967296) (ht : ¬ (-4096 ≤ s + a - p ∧ s + a - p ≤ 4095 ∧ (s + a - p) % 2 = 0)) :
    Calls Try.prog 31 #[.int .i64 52, .int .i64 s, .int .i64 a, .int .i64 p, .int .i64 v] w fun e w' => (∃ o, e = .returned (.tuple #[.int .i64 o, .int .i64 1, .bool true])) ∧ Ext w w' := by
  obtain ⟨hs1, hs2⟩ := hs
  obtain ⟨ha1, ha2⟩ := ha
  obtain ⟨hp1, hp2⟩ := hp
  have c := encB_bad (s + a - p) w ht
  clear ht
  go_enter Try.func31, Try.ntmps31
  go_wp2_with (go_at_call 42; ((with_reducible refine c.mono ?_); rintro e w' ⟨⟨y, ⟨b, rfl⟩, rfl⟩, hx⟩))
  go_ret3
  exact ⟨⟨_, rfl⟩, hx⟩
set_option maxRecDepth 100000 in
set_option maxHeartbeats 1600000 in
theorem law_in (s a p v : Int) (w : World) (hs : sx 42 s = s) (ha : sx 42 a = a) (hp : sx 42 p = p)
    (h0 : 0 ≤ v) (h1 : v < 4294967296) (ht : -4096 ≤ s + a - p ∧ s + a - p ≤ 4095 ∧ (s + a - p) % 2 = 0) :
    Calls Try.prog 6 #[.int .i64 s, .int .i64 a, .int .i64 p, .int .i64 v] w fun e w' => e = .returned (.bool true) ∧ Ext w w' := by
  have n1 := fun W => near3 s a p true W (by simp [hs, ha, hp])
  have n2 := fun W => word_yes v 0 W h0 h1 (and0 v)
  have c := fun W => impRv (rel_in s a p v W (sx42 hs) (sx42 ha) (sx42 hp) h0 h1 ht)
  obtain ⟨hs1, hs2⟩ := sx42 hs
  obtain ⟨ha1, ha2⟩ := sx42 ha
  obtain ⟨hp1, hp2⟩ := sx42 hp
  obtain ⟨t1, t2, t3⟩ := ht
  have F := Lib.hid (show (sx 13 (s + a - p) == (s + a - p)) = true by rw [beq_iff_eq]; simp only [sx]; omega)
  have n3 := fun W => fits_as (s + a - p) 13 true W (by decide) (by decide) F.out
  have X4 : (Int.tmod (s + a - p) 2 != 0) = false := by rw [bne_eq_false_iff_eq, ← Int.dvd_iff_tmod_eq_zero]; omega
  obtain ⟨g1, g2⟩ := eB_in (s + a - p)
  obtain ⟨k1, k2⟩ := kB_in v
  have o2 : kB v + eB (s + a - p) < 4294967296 := by
    have := eB_room v (s + a - p); omega
  have r := fun W => rvB (kB v + eB (s + a - p)) W (by omega) o2
  rw [backB v _ t1 t2 t3] at r
  have X5 := stayB v (s + a - p)
  clear hs ha hp t3
  go_enter Try.func6, Try.ntmps6
  go_wp2_with (first | (go_at_call 12; ((with_reducible refine (n1 _).mono ?_); rintro e w' ⟨rfl, rfl⟩)) | (go_at_call 13; ((with_reducible refine (n2 _).mono ?_); rintro e w' ⟨rfl, rfl⟩)) | (go_at_call 14; ((with_reducible refine (c _).mono ?_); rintro e w' ⟨rfl, hx⟩)) | (go_at_call 15; ((with_reducible refine (n3 _).mono ?_); rintro e w' ⟨rfl, rfl⟩)) | (go_at_call 22; ((with_reducible refine (r _).mono ?_); rintro e w' ⟨rfl, nq, rfl⟩)))
  go_ret
  exact ⟨rfl, (Ext.trans ((Ext.refl _).alloc _) hx).drewN _⟩
set_option maxRecDepth 100000 in
set_option maxHeartbeats 1600000 in
theorem law_odd (s a p v : Int) (w : World) (hs : sx 42 s = s) (ha : sx 42 a = a) (hp : sx 42 p = p)
    (h0 : 0 ≤ v) (h1 : v < 4294967296) (ht : -4096 ≤ s + a - p ∧ s + a - p ≤ 4095) (ho : (s + a - p) % 2 = 1) :
    Calls Try.prog 6 #[.int .i64 s, .int .i64 a, .int .i64 p, .int .i64 v] w fun e w' => e = .returned (.bool true) ∧ Ext w w' := by
  have n1 := fun W => near3 s a p true W (by simp [hs, ha, hp])
  have n2 := fun W => word_yes v 0 W h0 h1 (and0 v)
  have c := fun W => impRv_bad (rel_bad s a p v W (sx42 hs) (sx42 ha) (sx42 hp) h0 h1 (by omega))
  obtain ⟨hs1, hs2⟩ := sx42 hs
  obtain ⟨ha1, ha2⟩ := sx42 ha
  obtain ⟨hp1, hp2⟩ := sx42 hp
  have F := Lib.hid (show (sx 13 (s + a - p) == (s + a - p)) = true by rw [beq_iff_eq]; simp only [sx]; omega)
  have n3 := fun W => fits_as (s + a - p) 13 true W (by decide) (by decide) F.out
  have X4 : (Int.tmod (s + a - p) 2 != 0) = true := by rw [bne_iff_ne]; intro h; rw [← Int.dvd_iff_tmod_eq_zero] at h; omega
  obtain ⟨t1, t2⟩ := ht
  clear hs ha hp ho
  go_enter Try.func6, Try.ntmps6
  go_wp2_with (first | (go_at_call 12; ((with_reducible refine (n1 _).mono ?_); rintro e w' ⟨rfl, rfl⟩)) | (go_at_call 13; ((with_reducible refine (n2 _).mono ?_); rintro e w' ⟨rfl, rfl⟩)) | (go_at_call 14; ((with_reducible refine (c _).mono ?_); rintro e w' ⟨⟨o, rfl⟩, hx⟩)) | (go_at_call 15; ((with_reducible refine (n3 _).mono ?_); rintro e w' ⟨rfl, rfl⟩)))
  go_ret
  exact ⟨rfl, Ext.trans ((Ext.refl _).alloc _) hx⟩
set_option maxRecDepth 100000 in
set_option maxHeartbeats 1600000 in
theorem law_far (s a p v : Int) (w : World) (hs : sx 42 s = s) (ha : sx 42 a = a) (hp : sx 42 p = p)
    (h0 : 0 ≤ v) (h1 : v < 4294967296) (ht : s + a - p < -4096 ∨ 4095 < s + a - p) :
    Calls Try.prog 6 #[.int .i64 s, .int .i64 a, .int .i64 p, .int .i64 v] w fun e w' => e = .returned (.bool true) ∧ Ext w w' := by
  have n1 := fun W => near3 s a p true W (by simp [hs, ha, hp])
  have n2 := fun W => word_yes v 0 W h0 h1 (and0 v)
  have c := fun W => impRv_bad (rel_bad s a p v W (sx42 hs) (sx42 ha) (sx42 hp) h0 h1 (by omega))
  obtain ⟨hs1, hs2⟩ := sx42 hs
  obtain ⟨ha1, ha2⟩ := sx42 ha
  obtain ⟨hp1, hp2⟩ := sx42 hp
  have F := Lib.hid (show (sx 13 (s + a - p) == (s + a - p)) = false by rw [beq_eq_false_iff_ne]; simp only [sx]; omega)
  have n3 := fun W => fits_as (s + a - p) 13 false W (by decide) (by decide) F.out
  clear hs ha hp ht
  go_enter Try.func6, Try.ntmps6
  go_wp2_with (first | (go_at_call 12; ((with_reducible refine (n1 _).mono ?_); rintro e w' ⟨rfl, rfl⟩)) | (go_at_call 13; ((with_reducible refine (n2 _).mono ?_); rintro e w' ⟨rfl, rfl⟩)) | (go_at_call 14; ((with_reducible refine (c _).mono ?_); rintro e w' ⟨⟨o, rfl⟩, hx⟩)) | (go_at_call 15; ((with_reducible refine (n3 _).mono ?_); rintro e w' ⟨rfl, rfl⟩)))
  go_ret
  exact ⟨rfl, Ext.trans ((Ext.refl _).alloc _) hx⟩
theorem law_shut (s a p v : Int) (w : World) (hn : ¬ (sx 42 s = s ∧ sx 42 a = a ∧ sx 42 p = p)) :
    Calls Try.prog 6 #[.int .i64 s, .int .i64 a, .int .i64 p, .int .i64 v] w fun e w' => e = .returned (.bool true) ∧ Ext w w' := by
  have n1 := fun W => near3 s a p false W (by simpa using hn)
  clear hn
  go_enter Try.func6, Try.ntmps6
  go_wp2_with (go_at_call 12; ((with_reducible refine (n1 _).mono ?_); rintro e w' ⟨rfl, rfl⟩))
  go_ret
  exact ⟨rfl, (Ext.refl _).alloc _⟩
theorem law_wide (s a p v : Int) (w : World) (hn : sx 42 s = s ∧ sx 42 a = a ∧ sx 42 p = p) (hv : v < 0 ∨ 4294967296 ≤ v) :
    Calls Try.prog 6 #[.int .i64 s, .int .i64 a, .int .i64 p, .int .i64 v] w fun e w' => e = .returned (.bool true) ∧ Ext w w' := by
  have n1 := fun W => near3 s a p true W (by simpa using hn)
  have n2 := fun W => word_far v 0 W hv
  clear hn hv
  go_enter Try.func6, Try.ntmps6
  go_wp2_with (first | (go_at_call 12; ((with_reducible refine (n1 _).mono ?_); rintro e w' ⟨rfl, rfl⟩)) | (go_at_call 13; ((with_reducible refine (n2 _).mono ?_); rintro e w' ⟨rfl, rfl⟩)))
  go_ret
  exact ⟨rfl, (Ext.refl _).alloc _⟩
theorem walkFnRiscvBranch (a0 a1 a2 a3 : Int) (w : World) (w0 : (Lit.int .i64 a0).wf = true) (w1 : (Lit.int .i64 a1).wf = true) (w2 : (Lit.int .i64 a2).wf = true) (w3 : (Lit.int .i64 a3).wf = true) :
    Calls Try.prog 6 #[.int .i64 a0, .int .i64 a1, .int .i64 a2, .int .i64 a3] w fun e w' => e = .returned (.bool true) ∧ Ext w w' := by
  by_cases hn : sx 42 a0 = a0 ∧ sx 42 a1 = a1 ∧ sx 42 a2 = a2
  · by_cases hv : a3 < 0 ∨ 4294967296 ≤ a3
    · exact law_wide a0 a1 a2 a3 w hn hv
    · by_cases hf : a0 + a1 - a2 < -4096 ∨ 4095 < a0 + a1 - a2
      · exact law_far a0 a1 a2 a3 w hn.1 hn.2.1 hn.2.2 (by omega) (by omega) hf
      · by_cases ho : (a0 + a1 - a2) % 2 = 1
        · exact law_odd a0 a1 a2 a3 w hn.1 hn.2.1 hn.2.2 (by omega) (by omega) (by omega) ho
        · exact law_in a0 a1 a2 a3 w hn.1 hn.2.1 hn.2.2 (by omega) (by omega) (by omega)
  · exact law_shut a0 a1 a2 a3 w hn
end Go.Proofs.Ytijikeoehbllcaa.Wk
