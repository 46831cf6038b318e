/- A call of ARM keeps the upper byte of its addend and goes to the symbol and four times the lower 24 bits of the addend; else an error is told: for a symbol and a place of 42 bits with their sign whose distance is a multiple of 4 (the statement's own guard). -/
import Derived.Test.YtijikeoehbllcaaAid
import Derived.Test.YtijikeoehbllcaaPFnArmCallx1
namespace Go.Proofs.Ytijikeoehbllcaa.Pure
open Go.RowKit Go.Proofs.Ytijikeoehbllcaa.Aid Go.Proofs.Ytijikeoehbllcaa.PFnArmCall Go.Proofs.YtijikeoehbllcaaW.PrintWords Go.Proofs.YtijikeoehbllcaaW.PrintLast
theorem sext (n : Nat) (n' : Int) (x : Int) (hn : n' = n) (h1 : 1 ≤ n) (h2 : n ≤ 64) : spec_Sext.f x n' = some (sx n x) := by
  obtain ⟨s1, s2⟩ := sext_body n n' x hn h1 h2
  unfold spec_Sext.f shr shl
  rw [if_pos s1, s2]
theorem fits (n : Nat) (n' : Int) (x : Int) (hn : n' = n) (h1 : 1 ≤ n) (h2 : n ≤ 64) : spec_Fits.f x n' = some (sx n x == x) := by
  unfold spec_Fits.f
  rw [sext n n' x hn h1 h2, Option.bind_some]
theorem near2 (k : Nat) (a b : Int) : laws_near.f (k + 3) [a, b] = some (sx 42 a == a && sx 42 b == b) := by
  have fa := fits 42 42 a rfl (by decide) (by decide)
  have fb := fits 42 42 b rfl (by decide) (by decide)
  have r0 : rd [a, b] 0 = a := rfl
  have r1 : rd [a, b] 1 = b := rfl
  unfold laws_near.f
  simp only [laws_near.l0, List.length_cons, List.length_nil]
  cases ha : (sx 42 a == a) <;> cases hb : (sx 42 b == b) <;> simp [r0, r1, fa, fb, ha, hb, wrap64]
theorem low24 (x : Int) : bits .and .i64 x 16777215 = x % 16777216 := by
  simpa using and_seg .i64 0 24 x (m := 16777215) (by decide) (by decide) (by decide)
theorem low24u (x : Int) : bits .and .u32 x 16777215 = x % 16777216 := by
  simpa using and_seg .u32 0 24 x (m := 16777215) (by decide) (by decide) (by decide)
theorem top8 (x : Int) : bits .and .u32 x 4278190080 = x / 16777216 % 256 * 16777216 := by
  simpa using and_seg .u32 24 8 x (m := 4278190080) (by decide) (by decide) (by decide)
theorem tmod4 (x : Int) : (Int.tmod x 4 != 0) = (x % 4 != 0) := by
  have h : Int.tmod x 4 = 0 ↔ x % 4 = 0 := by
    rw [← Int.dvd_iff_tmod_eq_zero, ← Int.dvd_iff_emod_eq_zero]
  rw [Bool.eq_iff_iff]; simp [bne_iff_ne, h]
theorem tdiv4 (x : Int) (h : x % 4 = 0) : Int.tdiv x 4 = x / 4 := Int.tdiv_eq_ediv_of_dvd (Int.dvd_of_emod_eq_zero h)
/-- The code's answer where the distance is u words of four. -/
theorem code (s a p t u : Int) (ha : 0 ≤ a ∧ a ≤ 4294967295) (hs : -2199023255552 ≤ s ∧ s < 2199023255552) (hp : -2199023255552 ≤ p ∧ p < 2199023255552)
    (ht : t = s + 4 * sx 24 a - p) (hu : t = 4 * u) :
    linkreloc_Arm.f 25 s (wrap64 a) p 0 0 0 = some (wrap32 (a / 16777216 * 16777216 + u % 16777216), if 8388607 < u ∨ u < -8388608 then 1 else 0, true) := by
  unfold linkreloc_Arm.f
  rw [if_neg (by decide), if_neg (by decide), if_neg (by decide), if_pos rfl, w64 (x := a) (by omega) (by omega)]
  simp only [linkreloc_Signext24.f, Option.bind_some, low24]
  have e1 : wrap32 (wrap32 (a % 16777216) * 256) / 256 = sx 24 a := by simp only [wrap32, sx]; omega
  rw [e1]
  have b1 : -8388608 ≤ sx 24 a ∧ sx 24 a < 8388608 := by simp only [sx]; omega
  rw [w32 (x := sx 24 a * 4) (by omega) (by omega), w64 (x := sx 24 a * 4) (by omega) (by omega), w64 (x := s + sx 24 a * 4) (by omega) (by omega), w64 (x := s + sx 24 a * 4 - p) (by omega) (by omega)]
  rw [show s + sx 24 a * 4 - p = t by omega, tdiv4 t (by omega), show t / 4 = u by omega, w64 (x := u) (by omega) (by omega)]
  have e2 : linkreloc_braddoff.f (wrap32 (bits .and .u32 4278190080 (a % 4294967296))) (wrap32 (bits .and .i64 16777215 u)) = some (wrap32 (a / 16777216 * 16777216 + u % 16777216)) := by
    rw [and_comm' .u32, top8, and_comm' .i64, low24]
    unfold linkreloc_braddoff.f
    rw [and_comm' .u32 16777215, low24u, top8]
    rw [or_mid .u32 0 24 (by simp) (by simp) (by omega) (by omega) (by decide) (by decide), wrap_u32]
    simp only [wrap32, Option.some.injEq]
    omega
  simp only [e2, Option.bind_some]
  have e3 : wrap64 (wrap32 (a / 16777216 * 16777216 + u % 16777216)) = wrap32 (a / 16777216 * 16777216 + u % 16777216) := by unfold wrap32 wrap64; omega
  rw [e3]
  by_cases h1 : 8388607 < u
  · rw [if_pos h1, if_pos (.inl h1)]; rfl
  · rw [if_neg h1]
    by_cases h2 : u < -8388608
    · rw [if_pos h2, if_pos (.inr h2)]; rfl
    · rw [if_neg h2, if_neg (by omega)]
theorem FnArmCall : laws_FnArmCall.Pure := by
  intro s a p hs ha hp
  have hs := wf_i64 hs
  have ha := wf_u32 ha
  have hp := wf_i64 hp
  refine ⟨3, ?_⟩
  unfold laws_FnArmCall.f
  rw [sext 24 24 _ rfl (by decide) (by decide), Option.bind_some, near2 0 s p, Option.bind_some, w64 (x := a) (by omega) (by omega)]
  have b1 : -8388608 ≤ sx 24 a ∧ sx 24 a < 8388608 := by simp only [sx]; omega
  by_cases h1 : sx 42 s = s ∧ sx 42 p = p
  · have g := h1
    obtain ⟨g1, g2⟩ := g
    simp only [sx] at g1 g2
    rw [if_pos (by simp [h1.1, h1.2]), tmod4]
    rw [w64 (x := 4 * sx 24 a) (by omega) (by omega), w64 (x := s + 4 * sx 24 a) (by omega) (by omega), w64 (x := s + 4 * sx 24 a - p) (by omega) (by omega)]
    obtain ⟨t, ht⟩ : ∃ t, t = s + 4 * sx 24 a - p := ⟨_, rfl⟩
    rw [← ht]
    by_cases h2 : t % 4 = 0
    · obtain ⟨u, hu⟩ : ∃ u, t = 4 * u := ⟨t / 4, by omega⟩
      rw [show (t % 4 != 0) = false by simp [h2]]
      simp only [laws_FnArmCall.j0, Bool.false_eq_true, if_false]
      rw [impl_Arm.f, code s a p t u ha (by omega) (by omega) ht hu, Option.bind_some, Option.bind_some, fits 26 26 t rfl (by decide) (by decide), Option.bind_some]
      have hf : sx 26 t = t ↔ ¬ (8388607 < u ∨ u < -8388608) := by simp only [sx]; omega
      by_cases h3 : 8388607 < u ∨ u < -8388608
      · rw [if_neg (fun h => hf.mp (beq_iff_eq.mp h) h3), if_pos h3]; simp
      · rw [if_pos (beq_iff_eq.mpr (hf.mpr h3)), if_pos rfl, if_neg h3, if_pos rfl, sext 24 24 _ rfl (by decide) (by decide), Option.bind_some]
        have e1 : sx 24 (wrap32 (a / 16777216 * 16777216 + u % 16777216)) = u := by simp only [sx, wrap32]; omega
        have e2 : wrap32 (a / 16777216 * 16777216 + u % 16777216) % 4294967296 / 16777216 = a / 16777216 := by unfold wrap32; omega
        rw [e1, w64 (by omega) (by omega), if_pos (by omega)]
        simp only [Option.some.injEq, beq_iff_eq]
        rw [e2]
    · rw [show (t % 4 != 0) = true by simp [h2]]
      simp [laws_FnArmCall.j0]
  · rw [if_neg (by simpa using h1)]
    simp [laws_FnArmCall.j0]
end Go.Proofs.Ytijikeoehbllcaa.Pure
