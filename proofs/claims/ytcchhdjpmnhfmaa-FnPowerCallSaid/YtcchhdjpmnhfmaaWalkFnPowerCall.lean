/- The law FnPowerCall returns true: a branch of POWER goes from its own place to the symbol with the addend if that is less than 2^25 bytes away, else an error is told: for numbers of 42 bits with their sign whose distance is a multiple of 4 and an instruction of 32 bits whose field is nought (the statement's own guard). -/
import Derived.Test.YtcchhdjpmnhfmaaSpecM
import Derived.Test.YtcchhdjpmnhfmaaNear
import Derived.OwnWalk
namespace Go.Proofs.Ytcchhdjpmnhfmaa.FnPowerCallWk
set_option linter.unusedVariables false
open Go.RowKit Go.Proofs.Ytcchhdjpmnhfmaa.Aid Go.Proofs.Ytcchhdjpmnhfmaa.Wk
theorem low2 (t : Int) (h : t % 4 = 0) : (bits .and .i64 t 3 != 0) = false := by
  rw [seg64 2 _ _ (by decide) (by decide), bne_eq_false_iff_eq]; omega
theorem cutP (t : Int) (h : t % 4 = 0) : bits .andNot .u32 (t % 4294967296) 4227858435 = t % 67108864 := by
  rw [andNot_eq, show (4227858435 : Int) = 4227858432 + 3 from rfl, and_split .u32 2 _ (by decide) (by decide) (by decide) (by decide) (by decide), segu 2 _ 3 (by decide) (by decide), and_seg .u32 26 6 (m := 4227858432) _ (by decide) (by decide) (by decide), wrap_u32]
  omega
theorem put (v t : Int) (h0 : 0 ≤ v) (h1 : v < 4294967296) (hq : v = v / 67108864 * 67108864 + v % 4) (h : t % 4 = 0) : bits .or .i64 v (wrap64 (bits .andNot .u32 (t % 4294967296) 4227858435)) = v + t % 67108864 := by
  rw [cutP t h, w64 (x := t % 67108864) (by omega) (by omega), or_mid .i64 2 26 (by omega) (by omega) (by omega) (by omega) (by decide) (by decide), wrap_i64, w64 (by omega) (by omega)]
theorem word_q (v : Int) (h0 : 0 ≤ v) (h1 : v < 4294967296) (h : bits .and .u32 v 67108860 = 0) : v = v / 67108864 * 67108864 + v % 4 := by
  rw [and_seg .u32 2 24 (m := 67108860) _ (by decide) (by decide) (by decide)] at h; omega
theorem mid (v t : Int) (h0 : 0 ≤ v) (h1 : v < 4294967296) (hq : v = v / 67108864 * 67108864 + v % 4) (h : t % 4 = 0) : (v + t % 67108864) / 4 % 16777216 * 4 = t % 67108864 := by
  obtain ⟨q, l, q0, q1, l0, l1, rfl⟩ : ∃ q l : Int, 0 ≤ q ∧ q < 64 ∧ 0 ≤ l ∧ l < 4 ∧ v = q * 67108864 + l := ⟨v / 67108864, v % 4, by omega, by omega, by omega, by omega, hq⟩
  clear hq h0 h1
  obtain ⟨u, rfl⟩ : ∃ u : Int, t = 4 * u := ⟨t / 4, by omega⟩
  have e : 4 * u % 67108864 = 4 * (u % 16777216) := by omega
  rw [e]
  have k : 0 ≤ u % 16777216 ∧ u % 16777216 < 16777216 := by omega
  generalize u % 16777216 = x at *
  omega
theorem back (v t : Int) (h0 : 0 ≤ v) (h1 : v < 4294967296) (hq : v = v / 67108864 * 67108864 + v % 4) (ht : -33554432 ≤ t ∧ t ≤ 33554431 ∧ t % 4 = 0) : sx 26 (bits .and .i64 (v + t % 67108864) 67108860) = t := by
  rw [and_seg .i64 2 24 (m := 67108860) _ (by decide) (by decide) (by decide), show (v + t % 67108864) / 2 ^ 2 % 2 ^ 24 * 2 ^ 2 = t % 67108864 from mid v t h0 h1 hq ht.2.2]
  simp only [sx]; omega
theorem stay (v t : Int) (h0 : 0 ≤ v) (h1 : v < 4294967296) (hq : v = v / 67108864 * 67108864 + v % 4) (h : t % 4 = 0) : (bits .andNot .u32 (v + t % 67108864) 67108860 == v) = true := by
  rw [andNot_eq, and_seg .u32 2 24 (m := 67108860) _ (by decide) (by decide) (by decide), show (v + t % 67108864) / 2 ^ 2 % 2 ^ 24 * 2 ^ 2 = t % 67108864 from mid v t h0 h1 hq h, wrap_u32, beq_iff_eq]
  omega
set_option maxRecDepth 100000 in
set_option maxHeartbeats 1600000 in
theorem rel_in (s a p v : Int) (w : World) (hs : -2199023255552 ≤ s ∧ s < 2199023255552) (ha : -2199023255552 ≤ a ∧ a < 2199023255552) (hp : -2199023255552 ≤ p ∧ p < 2199023255552)
    (h0 : 0 ≤ v) (h1 : v < 4294967296) (h : bits .and .u32 v 67108860 = 0) (ht : -33554432 ≤ s + a - p ∧ s + a - p ≤ 33554431 ∧ (s + a - p) % 4 = 0) :
    Calls Try.prog 33 #[.int .i64 29, .bool false, .bool false, .int .i64 s, .int .i64 a, .int .i64 p, .int .i64 0, .int .i64 v] w fun e w' => e = .returned (.tuple #[.int .i64 (v + (s + a - p) % 67108864), .int .i64 0, .bool true]) ∧ w = w' := by
  obtain ⟨hs1, hs2⟩ := hs
  obtain ⟨ha1, ha2⟩ := ha
  obtain ⟨hp1, hp2⟩ := hp
  obtain ⟨t1, t2, t3⟩ := ht
  have hq := word_q v h0 h1 h
  have H := Lib.hid (put v (s + a - p) h0 h1 hq t3)
  have X1 := low2 (s + a - p) t3
  have X2 : (wrap64 (wrap32 ((s + a - p) * 64) / 64) != s + a - p) = false := by rw [bne_eq_false_iff_eq]; unfold wrap64 wrap32; omega
  clear t3 h hq
  go_enter Try.func33, Try.ntmps33
  go_wp2
  go_ret3
  exact ⟨by rw [← H.out]; rfl, rfl⟩
set_option maxRecDepth 100000 in
set_option maxHeartbeats 1600000 in
theorem rel_bad (s a p v : Int) (w : World) (hs : -2199023255552 ≤ s ∧ s < 2199023255552) (ha : -2199023255552 ≤ a ∧ a < 2199023255552) (hp : -2199023255552 ≤ p ∧ p < 2199023255552)
    (h0 : 0 ≤ v) (h1 : v < 4294967296) (ht : s + a - p < -33554432 ∨ 33554431 < s + a - p) (t3 : (s + a - p) % 4 = 0) :
    Calls Try.prog 33 #[.int .i64 29, .bool false, .bool false, .int .i64 s, .int .i64 a, .int .i64 p, .int .i64 0, .int .i64 v] w fun e w' => (∃ o, e = .returned (.tuple #[.int .i64 o, .int .i64 1, .bool true])) ∧ w = w' := by
  obtain ⟨hs1, hs2⟩ := hs
  obtain ⟨ha1, ha2⟩ := ha
  obtain ⟨hp1, hp2⟩ := hp
  have X1 := low2 (s + a - p) t3
  have X2 : (wrap64 (wrap32 ((s + a - p) * 64) / 64) != s + a - p) = true := by rw [bne_iff_ne]; unfold wrap64 wrap32; omega
  clear ht t3
  go_enter Try.func33, Try.ntmps33
  go_wp2
  go_ret3
  exact ⟨⟨_, rfl⟩, rfl⟩
theorem imp_in (s a p v o : Int) (w : World) (c : Calls Try.prog 33 #[.int .i64 29, .bool false, .bool false, .int .i64 s, .int .i64 a, .int .i64 p, .int .i64 0, .int .i64 v] w fun e w' => e = .returned (.tuple #[.int .i64 o, .int .i64 0, .bool true]) ∧ w = w') :
    Calls Try.prog 21 #[.int .i64 29, .bool false, .bool false, .int .i64 s, .int .i64 a, .int .i64 p, .int .i64 0, .int .i64 v] w fun e w' => e = .returned (.tuple #[.int .i64 o, .int .i64 0, .bool true]) ∧ w = w' := by
  go_enter Try.func21, Try.ntmps21
  go_wp2_with (go_at_call 33; ((with_reducible refine c.mono ?_); rintro e w' ⟨rfl, rfl⟩))
  go_ret3
  exact ⟨rfl, rfl⟩
theorem imp_bad (s a p v : Int) (w : World) (c : Calls Try.prog 33 #[.int .i64 29, .bool false, .bool false, .int .i64 s, .int .i64 a, .int .i64 p, .int .i64 0, .int .i64 v] w fun e w' => (∃ o, e = .returned (.tuple #[.int .i64 o, .int .i64 1, .bool true])) ∧ w = w') :
    Calls Try.prog 21 #[.int .i64 29, .bool false, .bool false, .int .i64 s, .int .i64 a, .int .i64 p, .int .i64 0, .int .i64 v] w fun e w' => (∃ o, e = .returned (.tuple #[.int .i64 o, .int .i64 1, .bool true])) ∧ w = w' := by
  go_enter Try.func21, Try.ntmps21
  go_wp2_with (go_at_call 33; ((with_reducible refine c.mono ?_); rintro e w' ⟨⟨o, rfl⟩, rfl⟩))
  go_ret3
  exact ⟨⟨_, rfl⟩, rfl⟩
set_option maxHeartbeats 1600000 in
theorem law_in (s a p v : Int) (w : World) (hs : sx 42 s = s) (ha : sx 42 a = a) (hp : sx 42 p = p)
    (h0 : 0 ≤ v) (h1 : v < 4294967296) (h : bits .and .u32 v 67108860 = 0) (ht : -33554432 ≤ s + a - p ∧ s + a - p ≤ 33554431 ∧ (s + a - p) % 4 = 0) :
    Calls Try.prog 7 #[.int .i64 s, .int .i64 a, .int .i64 p, .int .i64 v] w fun e w' => e = .returned (.bool true) ∧ Ext w w' := by
  have n1 := fun W => near3 s a p true W (by simp [hs, ha, hp])
  have n2 := fun W => word_yes v 67108860 W h0 h1 h
  have c := fun W => imp_in s a p v _ W (rel_in s a p v W (sx42 hs) (sx42 ha) (sx42 hp) h0 h1 h ht)
  obtain ⟨hs1, hs2⟩ := sx42 hs
  obtain ⟨ha1, ha2⟩ := sx42 ha
  obtain ⟨hp1, hp2⟩ := sx42 hp
  have hq := word_q v h0 h1 h
  have F := Lib.hid (show (sx 26 (s + a - p) == (s + a - p)) = true by rw [beq_iff_eq]; simp only [sx]; omega)
  have n3 := fun W => fits_as (s + a - p) 26 true W (by decide) (by decide) F.out
  have X4 : (Int.tmod (s + a - p) 4 != 0) = false := by rw [bne_eq_false_iff_eq, ← Int.dvd_iff_tmod_eq_zero]; omega
  have o0 : 0 ≤ v + (s + a - p) % 67108864 := by omega
  have o1 : v + (s + a - p) % 67108864 < 4294967296 := by omega
  have r := fun W => rdPower (v + (s + a - p) % 67108864) (s + a - p) W o0 o1 (back v _ h0 h1 hq ht)
  have X7 := stay v (s + a - p) h0 h1 hq ht.2.2
  obtain ⟨t1, t2, t3⟩ := ht
  clear hs ha hp t3 hq h
  go_enter Try.func7, Try.ntmps7
  go_wp2_with (first | (go_at_call 12; ((with_reducible refine (n1 _).mono ?_); rintro e w' ⟨rfl, rfl⟩)) | (go_at_call 13; ((with_reducible refine (n2 _).mono ?_); rintro e w' ⟨rfl, rfl⟩)) | (go_at_call 21; ((with_reducible refine (c _).mono ?_); rintro e w' ⟨rfl, rfl⟩)) | (go_at_call 15; ((with_reducible refine (n3 _).mono ?_); rintro e w' ⟨rfl, rfl⟩)) | (go_at_call 22; ((with_reducible refine (r _).mono ?_); rintro e w' ⟨rfl, rfl⟩)))
  go_ret
  exact ⟨rfl, by repeat (first | exact Ext.refl _ | apply Ext.drewN | apply Ext.alloc)⟩
set_option maxHeartbeats 1600000 in
theorem law_far (s a p v : Int) (w : World) (hs : sx 42 s = s) (ha : sx 42 a = a) (hp : sx 42 p = p)
    (h0 : 0 ≤ v) (h1 : v < 4294967296) (h : bits .and .u32 v 67108860 = 0) (ht : s + a - p < -33554432 ∨ 33554431 < s + a - p) (t3 : (s + a - p) % 4 = 0) :
    Calls Try.prog 7 #[.int .i64 s, .int .i64 a, .int .i64 p, .int .i64 v] w fun e w' => e = .returned (.bool true) ∧ Ext w w' := by
  have n1 := fun W => near3 s a p true W (by simp [hs, ha, hp])
  have n2 := fun W => word_yes v 67108860 W h0 h1 h
  have c := fun W => imp_bad s a p v W (rel_bad s a p v W (sx42 hs) (sx42 ha) (sx42 hp) h0 h1 ht t3)
  obtain ⟨hs1, hs2⟩ := sx42 hs
  obtain ⟨ha1, ha2⟩ := sx42 ha
  obtain ⟨hp1, hp2⟩ := sx42 hp
  have F := Lib.hid (show (sx 26 (s + a - p) == (s + a - p)) = false by rw [beq_eq_false_iff_ne]; simp only [sx]; omega)
  have n3 := fun W => fits_as (s + a - p) 26 false W (by decide) (by decide) F.out
  have X4 : (Int.tmod (s + a - p) 4 != 0) = false := by rw [bne_eq_false_iff_eq, ← Int.dvd_iff_tmod_eq_zero]; omega
  clear hs ha hp t3 h ht
  go_enter Try.func7, Try.ntmps7
  go_wp2_with (first | (go_at_call 12; ((with_reducible refine (n1 _).mono ?_); rintro e w' ⟨rfl, rfl⟩)) | (go_at_call 13; ((with_reducible refine (n2 _).mono ?_); rintro e w' ⟨rfl, rfl⟩)) | (go_at_call 21; ((with_reducible refine (c _).mono ?_); rintro e w' ⟨⟨o, rfl⟩, rfl⟩)) | (go_at_call 15; ((with_reducible refine (n3 _).mono ?_); rintro e w' ⟨rfl, rfl⟩)))
  go_ret
  exact ⟨rfl, by repeat (first | exact Ext.refl _ | apply Ext.drewN | apply Ext.alloc)⟩
theorem law_odd (s a p v : Int) (w : World) (hs : sx 42 s = s) (ha : sx 42 a = a) (hp : sx 42 p = p)
    (h0 : 0 ≤ v) (h1 : v < 4294967296) (h : bits .and .u32 v 67108860 = 0) (t3 : (s + a - p) % 4 ≠ 0) :
    Calls Try.prog 7 #[.int .i64 s, .int .i64 a, .int .i64 p, .int .i64 v] w fun e w' => e = .returned (.bool true) ∧ Ext w w' := by
  have n1 := fun W => near3 s a p true W (by simp [hs, ha, hp])
  have n2 := fun W => word_yes v 67108860 W h0 h1 h
  obtain ⟨hs1, hs2⟩ := sx42 hs
  obtain ⟨ha1, ha2⟩ := sx42 ha
  obtain ⟨hp1, hp2⟩ := sx42 hp
  have X4 : (Int.tmod (s + a - p) 4 != 0) = true := by rw [bne_iff_ne]; intro h; rw [← Int.dvd_iff_tmod_eq_zero] at h; omega
  clear hs ha hp t3 h
  go_enter Try.func7, Try.ntmps7
  go_wp2_with (first | (go_at_call 12; ((with_reducible refine (n1 _).mono ?_); rintro e w' ⟨rfl, rfl⟩)) | (go_at_call 13; ((with_reducible refine (n2 _).mono ?_); rintro e w' ⟨rfl, rfl⟩)))
  go_ret
  exact ⟨rfl, by repeat (first | exact Ext.refl _ | apply Ext.drewN | apply Ext.alloc)⟩
theorem law_word (s a p v : Int) (w : World) (hn : sx 42 s = s ∧ sx 42 a = a ∧ sx 42 p = p) (h : ¬ (0 ≤ v ∧ v < 4294967296 ∧ bits .and .u32 v 67108860 = 0)) :
    Calls Try.prog 7 #[.int .i64 s, .int .i64 a, .int .i64 p, .int .i64 v] w fun e w' => e = .returned (.bool true) ∧ Ext w w' := by
  have n1 := fun W => near3 s a p true W (by simpa using hn)
  have n2 := fun W => word_no v 67108860 W h
  clear hn h
  go_enter Try.func7, Try.ntmps7
  go_wp2_with (first | (go_at_call 12; ((with_reducible refine (n1 _).mono ?_); rintro e w' ⟨rfl, rfl⟩)) | (go_at_call 13; ((with_reducible refine (n2 _).mono ?_); rintro e w' ⟨rfl, rfl⟩)))
  go_ret
  exact ⟨rfl, by repeat (first | exact Ext.refl _ | apply Ext.drewN | apply Ext.alloc)⟩
theorem law_shut (s a p v : Int) (w : World) (hn : ¬ (sx 42 s = s ∧ sx 42 a = a ∧ sx 42 p = p)) :
    Calls Try.prog 7 #[.int .i64 s, .int .i64 a, .int .i64 p, .int .i64 v] w fun e w' => e = .returned (.bool true) ∧ Ext w w' := by
  have n1 := fun W => near3 s a p false W (by simpa using hn)
  clear hn
  go_enter Try.func7, Try.ntmps7
  go_wp2_with (go_at_call 12; ((with_reducible refine (n1 _).mono ?_); rintro e w' ⟨rfl, rfl⟩))
  go_ret
  exact ⟨rfl, by repeat (first | exact Ext.refl _ | apply Ext.drewN | apply Ext.alloc)⟩
end Go.Proofs.Ytcchhdjpmnhfmaa.FnPowerCallWk
namespace Go.Proofs.Ytcchhdjpmnhfmaa.Wk
open Go.RowKit Go.Proofs.Ytcchhdjpmnhfmaa.Aid
open Go.Proofs.Ytcchhdjpmnhfmaa.FnPowerCallWk
theorem walkFnPowerCall (a0 a1 a2 a3 : Int) (w : World) (_w0 : (Lit.int .i64 a0).wf = true) (_w1 : (Lit.int .i64 a1).wf = true) (_w2 : (Lit.int .i64 a2).wf = true) (_w3 : (Lit.int .i64 a3).wf = true) :
    Calls Try.prog 7 #[.int .i64 a0, .int .i64 a1, .int .i64 a2, .int .i64 a3] w fun e w' => e = .returned (.bool true) ∧ Ext w w' := by
  by_cases hn : sx 42 a0 = a0 ∧ sx 42 a1 = a1 ∧ sx 42 a2 = a2
  · by_cases hv : 0 ≤ a3 ∧ a3 < 4294967296 ∧ bits .and .u32 a3 67108860 = 0
    · by_cases ho : (a0 + a1 - a2) % 4 = 0
      · by_cases hf : a0 + a1 - a2 < -33554432 ∨ 33554431 < a0 + a1 - a2
        · exact law_far a0 a1 a2 a3 w hn.1 hn.2.1 hn.2.2 hv.1 hv.2.1 hv.2.2 hf ho
        · exact law_in a0 a1 a2 a3 w hn.1 hn.2.1 hn.2.2 hv.1 hv.2.1 hv.2.2 ⟨by omega, by omega, ho⟩
      · exact law_odd a0 a1 a2 a3 w hn.1 hn.2.1 hn.2.2 hv.1 hv.2.1 hv.2.2 ho
    · exact law_word a0 a1 a2 a3 w hn hv
  · exact law_shut a0 a1 a2 a3 w hn
end Go.Proofs.Ytcchhdjpmnhfmaa.Wk
