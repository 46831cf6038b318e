/- The law FnArm64Call returns true: a call of AArch64 goes from its own place to the symbol with the addend if that is less than 2^27 bytes away, else an error is told: for numbers of 42 bits with their sign whose distance is a multiple of 4 and an instruction of 32 bits whose field is nought (the statement's own guard). -/
import Derived.Test.YtcchhdjpmnhfmaaSpecM
import Derived.Test.YtcchhdjpmnhfmaaNear
import Derived.OwnWalk
namespace Go.Proofs.Ytcchhdjpmnhfmaa.FnArm64CallWk
set_option linter.unusedVariables false
open Go.RowKit Go.Proofs.Ytcchhdjpmnhfmaa.Aid Go.Proofs.Ytcchhdjpmnhfmaa.Wk
theorem put (v t : Int) (q : Int) (q0 : 0 ≤ q) (q1 : q < 64) (hv : v = q * 67108864) : bits .or .i64 v (bits .and .i64 (t / 4) 67108863) = v + t / 4 % 67108864 := by
  rw [seg64 26 _ _ (by decide) (by decide), or_mid .i64 0 26 (by omega) (by omega) (by omega) (by omega) (by decide) (by decide), wrap_i64, w64 (by omega) (by omega)]
  omega
theorem word_q (v : Int) (h0 : 0 ≤ v) (h1 : v < 4294967296) (h : bits .and .u32 v 67108863 = 0) : v = v / 67108864 * 67108864 := by
  rw [segu 26 _ _ (by decide) (by decide)] at h; omega
theorem back (v t : Int) (h0 : 0 ≤ v) (h1 : v < 4294967296) (hq : v = v / 67108864 * 67108864) (ht : -134217728 ≤ t ∧ t ≤ 134217727 ∧ t % 4 = 0) : sx 26 ((v + t / 4 % 67108864) % 67108864) = t / 4 := by
  simp only [sx]; omega
theorem stay (v t : Int) (h0 : 0 ≤ v) (h1 : v < 4294967296) (hq : v = v / 67108864 * 67108864) : (bits .andNot .i64 (v + t / 4 % 67108864) 67108863 == v) = true := by
  rw [andNot_eq, seg64 26 _ _ (by decide) (by decide), wrap_i64, w64 (by omega) (by omega), beq_iff_eq]; omega
set_option maxRecDepth 100000 in
set_option maxHeartbeats 1600000 in
theorem rel_in (s a p v : Int) (w : World) (hs : -2199023255552 ≤ s ∧ s < 2199023255552) (ha : -2199023255552 ≤ a ∧ a < 2199023255552) (hp : -2199023255552 ≤ p ∧ p < 2199023255552)
    (h0 : 0 ≤ v) (h1 : v < 4294967296) (h : bits .and .u32 v 67108863 = 0) (ht : -134217728 ≤ s + a - p ∧ s + a - p ≤ 134217727 ∧ (s + a - p) % 4 = 0) :
    Calls Try.prog 36 #[.int .i64 26, .bool false, .bool false, .bool false, .int .i64 s, .int .i64 a, .int .i64 p, .int .i64 v] w fun e w' => e = .returned (.tuple #[.int .i64 (v + (s + a - p) / 4 % 67108864), .int .i64 0, .bool true]) ∧ w = w' := by
  obtain ⟨hs1, hs2⟩ := hs
  obtain ⟨ha1, ha2⟩ := ha
  obtain ⟨hp1, hp2⟩ := hp
  obtain ⟨t1, t2, t3⟩ := ht
  have hq := word_q v h0 h1 h
  have H := Lib.hid (put v (s + a - p) (v / 67108864) (by omega) (by omega) hq)
  clear t3 h hq
  go_enter Try.func36, Try.ntmps36
  go_wp2
  go_ret3
  exact ⟨by rw [← H.out]; rfl, rfl⟩
set_option maxRecDepth 100000 in
set_option maxHeartbeats 1600000 in
theorem rel_bad (s a p v : Int) (w : World) (hs : -2199023255552 ≤ s ∧ s < 2199023255552) (ha : -2199023255552 ≤ a ∧ a < 2199023255552) (hp : -2199023255552 ≤ p ∧ p < 2199023255552)
    (h0 : 0 ≤ v) (h1 : v < 4294967296) (ht : s + a - p < -134217728 ∨ 134217727 < s + a - p) (t3 : (s + a - p) % 4 = 0) :
    Calls Try.prog 36 #[.int .i64 26, .bool false, .bool false, .bool false, .int .i64 s, .int .i64 a, .int .i64 p, .int .i64 v] w fun e w' => (∃ o, e = .returned (.tuple #[.int .i64 o, .int .i64 1, .bool true])) ∧ w = w' := by
  obtain ⟨hs1, hs2⟩ := hs
  obtain ⟨ha1, ha2⟩ := ha
  obtain ⟨hp1, hp2⟩ := hp
  rcases ht with ht | ht
  all_goals
    go_enter Try.func36, Try.ntmps36
    go_wp2
    go_ret3
    exact ⟨⟨_, rfl⟩, rfl⟩
theorem imp_in (s a p v o : Int) (w : World) (c : Calls Try.prog 36 #[.int .i64 26, .bool false, .bool false, .bool false, .int .i64 s, .int .i64 a, .int .i64 p, .int .i64 v] w fun e w' => e = .returned (.tuple #[.int .i64 o, .int .i64 0, .bool true]) ∧ w = w') :
    Calls Try.prog 26 #[.int .i64 26, .bool false, .bool false, .bool false, .int .i64 s, .int .i64 a, .int .i64 p, .int .i64 v] w fun e w' => e = .returned (.tuple #[.int .i64 o, .int .i64 0, .bool true]) ∧ w = w' := by
  go_enter Try.func26, Try.ntmps26
  go_wp2_with (go_at_call 36; ((with_reducible refine c.mono ?_); rintro e w' ⟨rfl, rfl⟩))
  go_ret3
  exact ⟨rfl, rfl⟩
theorem imp_bad (s a p v : Int) (w : World) (c : Calls Try.prog 36 #[.int .i64 26, .bool false, .bool false, .bool false, .int .i64 s, .int .i64 a, .int .i64 p, .int .i64 v] w fun e w' => (∃ o, e = .returned (.tuple #[.int .i64 o, .int .i64 1, .bool true])) ∧ w = w') :
    Calls Try.prog 26 #[.int .i64 26, .bool false, .bool false, .bool false, .int .i64 s, .int .i64 a, .int .i64 p, .int .i64 v] w fun e w' => (∃ o, e = .returned (.tuple #[.int .i64 o, .int .i64 1, .bool true])) ∧ w = w' := by
  go_enter Try.func26, Try.ntmps26
  go_wp2_with (go_at_call 36; ((with_reducible refine c.mono ?_); rintro e w' ⟨⟨o, rfl⟩, rfl⟩))
  go_ret3
  exact ⟨⟨_, rfl⟩, rfl⟩
set_option maxHeartbeats 1600000 in
theorem law_in (s a p v : Int) (w : World) (hs : sx 42 s = s) (ha : sx 42 a = a) (hp : sx 42 p = p)
    (h0 : 0 ≤ v) (h1 : v < 4294967296) (h : bits .and .u32 v 67108863 = 0) (ht : -134217728 ≤ s + a - p ∧ s + a - p ≤ 134217727 ∧ (s + a - p) % 4 = 0) :
    Calls Try.prog 9 #[.int .i64 s, .int .i64 a, .int .i64 p, .int .i64 v] w fun e w' => e = .returned (.bool true) ∧ Ext w w' := by
  have n1 := fun W => near3 s a p true W (by simp [hs, ha, hp])
  have n2 := fun W => word_yes v 67108863 W h0 h1 h
  have c := fun W => imp_in s a p v _ W (rel_in s a p v W (sx42 hs) (sx42 ha) (sx42 hp) h0 h1 h ht)
  obtain ⟨hs1, hs2⟩ := sx42 hs
  obtain ⟨ha1, ha2⟩ := sx42 ha
  obtain ⟨hp1, hp2⟩ := sx42 hp
  have hq := word_q v h0 h1 h
  have F := Lib.hid (show (sx 28 (s + a - p) == (s + a - p)) = true by rw [beq_iff_eq]; simp only [sx]; omega)
  have n3 := fun W => fits_as (s + a - p) 28 true W (by decide) (by decide) F.out
  have X4 : (Int.tmod (s + a - p) 4 != 0) = false := by rw [bne_eq_false_iff_eq, ← Int.dvd_iff_tmod_eq_zero]; omega
  have o0 : 0 ≤ v + (s + a - p) / 4 % 67108864 := by omega
  have o1 : v + (s + a - p) / 4 % 67108864 < 4294967296 := by omega
  have r := fun W => rdArmBranch (v + (s + a - p) / 4 % 67108864) ((s + a - p) / 4) W o0 o1 (back v _ h0 h1 hq ht)
  have X5 : ((s + a - p) / 4 * 4 == s + a - p) = true := by rw [beq_iff_eq]; omega
  have X6 : ((v + (s + a - p) / 4 % 67108864) / 4294967296 == 0) = true := by rw [beq_iff_eq]; omega
  have X7 := stay v (s + a - p) h0 h1 hq
  obtain ⟨t1, t2, t3⟩ := ht
  clear hs ha hp t3 hq h
  go_enter Try.func9, Try.ntmps9
  go_wp2_with (first | (go_at_call 12; ((with_reducible refine (n1 _).mono ?_); rintro e w' ⟨rfl, rfl⟩)) | (go_at_call 13; ((with_reducible refine (n2 _).mono ?_); rintro e w' ⟨rfl, rfl⟩)) | (go_at_call 26; ((with_reducible refine (c _).mono ?_); rintro e w' ⟨rfl, rfl⟩)) | (go_at_call 15; ((with_reducible refine (n3 _).mono ?_); rintro e w' ⟨rfl, rfl⟩)) | (go_at_call 27; ((with_reducible refine (r _).mono ?_); rintro e w' ⟨rfl, nq, rfl⟩)))
  go_ret
  exact ⟨rfl, by repeat (first | exact Ext.refl _ | apply Ext.drewN | apply Ext.alloc)⟩
set_option maxHeartbeats 1600000 in
theorem law_far (s a p v : Int) (w : World) (hs : sx 42 s = s) (ha : sx 42 a = a) (hp : sx 42 p = p)
    (h0 : 0 ≤ v) (h1 : v < 4294967296) (h : bits .and .u32 v 67108863 = 0) (ht : s + a - p < -134217728 ∨ 134217727 < s + a - p) (t3 : (s + a - p) % 4 = 0) :
    Calls Try.prog 9 #[.int .i64 s, .int .i64 a, .int .i64 p, .int .i64 v] w fun e w' => e = .returned (.bool true) ∧ Ext w w' := by
  have n1 := fun W => near3 s a p true W (by simp [hs, ha, hp])
  have n2 := fun W => word_yes v 67108863 W h0 h1 h
  have c := fun W => imp_bad s a p v W (rel_bad s a p v W (sx42 hs) (sx42 ha) (sx42 hp) h0 h1 ht t3)
  obtain ⟨hs1, hs2⟩ := sx42 hs
  obtain ⟨ha1, ha2⟩ := sx42 ha
  obtain ⟨hp1, hp2⟩ := sx42 hp
  have F := Lib.hid (show (sx 28 (s + a - p) == (s + a - p)) = false by rw [beq_eq_false_iff_ne]; simp only [sx]; omega)
  have n3 := fun W => fits_as (s + a - p) 28 false W (by decide) (by decide) F.out
  have X4 : (Int.tmod (s + a - p) 4 != 0) = false := by rw [bne_eq_false_iff_eq, ← Int.dvd_iff_tmod_eq_zero]; omega
  clear hs ha hp t3 h ht
  go_enter Try.func9, Try.ntmps9
  go_wp2_with (first | (go_at_call 12; ((with_reducible refine (n1 _).mono ?_); rintro e w' ⟨rfl, rfl⟩)) | (go_at_call 13; ((with_reducible refine (n2 _).mono ?_); rintro e w' ⟨rfl, rfl⟩)) | (go_at_call 26; ((with_reducible refine (c _).mono ?_); rintro e w' ⟨⟨o, rfl⟩, rfl⟩)) | (go_at_call 15; ((with_reducible refine (n3 _).mono ?_); rintro e w' ⟨rfl, rfl⟩)))
  go_ret
  exact ⟨rfl, by repeat (first | exact Ext.refl _ | apply Ext.drewN | apply Ext.alloc)⟩
theorem law_odd (s a p v : Int) (w : World) (hs : sx 42 s = s) (ha : sx 42 a = a) (hp : sx 42 p = p)
    (h0 : 0 ≤ v) (h1 : v < 4294967296) (h : bits .and .u32 v 67108863 = 0) (t3 : (s + a - p) % 4 ≠ 0) :
    Calls Try.prog 9 #[.int .i64 s, .int .i64 a, .int .i64 p, .int .i64 v] w fun e w' => e = .returned (.bool true) ∧ Ext w w' := by
  have n1 := fun W => near3 s a p true W (by simp [hs, ha, hp])
  have n2 := fun W => word_yes v 67108863 W h0 h1 h
  obtain ⟨hs1, hs2⟩ := sx42 hs
  obtain ⟨ha1, ha2⟩ := sx42 ha
  obtain ⟨hp1, hp2⟩ := sx42 hp
  have X4 : (Int.tmod (s + a - p) 4 != 0) = true := by rw [bne_iff_ne]; intro h; rw [← Int.dvd_iff_tmod_eq_zero] at h; omega
  clear hs ha hp t3 h
  go_enter Try.func9, Try.ntmps9
  go_wp2_with (first | (go_at_call 12; ((with_reducible refine (n1 _).mono ?_); rintro e w' ⟨rfl, rfl⟩)) | (go_at_call 13; ((with_reducible refine (n2 _).mono ?_); rintro e w' ⟨rfl, rfl⟩)))
  go_ret
  exact ⟨rfl, by repeat (first | exact Ext.refl _ | apply Ext.drewN | apply Ext.alloc)⟩
theorem law_word (s a p v : Int) (w : World) (hn : sx 42 s = s ∧ sx 42 a = a ∧ sx 42 p = p) (h : ¬ (0 ≤ v ∧ v < 4294967296 ∧ bits .and .u32 v 67108863 = 0)) :
    Calls Try.prog 9 #[.int .i64 s, .int .i64 a, .int .i64 p, .int .i64 v] w fun e w' => e = .returned (.bool true) ∧ Ext w w' := by
  have n1 := fun W => near3 s a p true W (by simpa using hn)
  have n2 := fun W => word_no v 67108863 W h
  clear hn h
  go_enter Try.func9, Try.ntmps9
  go_wp2_with (first | (go_at_call 12; ((with_reducible refine (n1 _).mono ?_); rintro e w' ⟨rfl, rfl⟩)) | (go_at_call 13; ((with_reducible refine (n2 _).mono ?_); rintro e w' ⟨rfl, rfl⟩)))
  go_ret
  exact ⟨rfl, by repeat (first | exact Ext.refl _ | apply Ext.drewN | apply Ext.alloc)⟩
theorem law_shut (s a p v : Int) (w : World) (hn : ¬ (sx 42 s = s ∧ sx 42 a = a ∧ sx 42 p = p)) :
    Calls Try.prog 9 #[.int .i64 s, .int .i64 a, .int .i64 p, .int .i64 v] w fun e w' => e = .returned (.bool true) ∧ Ext w w' := by
  have n1 := fun W => near3 s a p false W (by simpa using hn)
  clear hn
  go_enter Try.func9, Try.ntmps9
  go_wp2_with (go_at_call 12; ((with_reducible refine (n1 _).mono ?_); rintro e w' ⟨rfl, rfl⟩))
  go_ret
  exact ⟨rfl, by repeat (first | exact Ext.refl _ | apply Ext.drewN | apply Ext.alloc)⟩
end Go.Proofs.Ytcchhdjpmnhfmaa.FnArm64CallWk
namespace Go.Proofs.Ytcchhdjpmnhfmaa.Wk
open Go.RowKit Go.Proofs.Ytcchhdjpmnhfmaa.Aid
open Go.Proofs.Ytcchhdjpmnhfmaa.FnArm64CallWk
theorem walkFnArm64Call (a0 a1 a2 a3 : Int) (w : World) (_w0 : (Lit.int .i64 a0).wf = true) (_w1 : (Lit.int .i64 a1).wf = true) (_w2 : (Lit.int .i64 a2).wf = true) (_w3 : (Lit.int .i64 a3).wf = true) :
    Calls Try.prog 9 #[.int .i64 a0, .int .i64 a1, .int .i64 a2, .int .i64 a3] w fun e w' => e = .returned (.bool true) ∧ Ext w w' := by
  by_cases hn : sx 42 a0 = a0 ∧ sx 42 a1 = a1 ∧ sx 42 a2 = a2
  · by_cases hv : 0 ≤ a3 ∧ a3 < 4294967296 ∧ bits .and .u32 a3 67108863 = 0
    · by_cases ho : (a0 + a1 - a2) % 4 = 0
      · by_cases hf : a0 + a1 - a2 < -134217728 ∨ 134217727 < a0 + a1 - a2
        · exact law_far a0 a1 a2 a3 w hn.1 hn.2.1 hn.2.2 hv.1 hv.2.1 hv.2.2 hf ho
        · exact law_in a0 a1 a2 a3 w hn.1 hn.2.1 hn.2.2 hv.1 hv.2.1 hv.2.2 ⟨by omega, by omega, ho⟩
      · exact law_odd a0 a1 a2 a3 w hn.1 hn.2.1 hn.2.2 hv.1 hv.2.1 hv.2.2 ho
    · exact law_word a0 a1 a2 a3 w hn hv
  · exact law_shut a0 a1 a2 a3 w hn
end Go.Proofs.Ytcchhdjpmnhfmaa.Wk
