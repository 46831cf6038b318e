/- The variants of POWER tell the lower half of a number, the upper one, the adjusted one, and the lower one with the two lowest bits of the instruction: for every number of 32 bits, without a check (of the last form the number is first made a multiple of 4, by the statement itself). -/
import Derived.Test.YtijikeoehbllcaaAid
import Derived.Test.YtijikeoehbllcaaPFnPowerVariantx2
namespace Go.Proofs.Ytijikeoehbllcaa.Pure
open Go.RowKit Go.Proofs.Ytijikeoehbllcaa.Aid Go.Proofs.Ytijikeoehbllcaa.PFnPowerVariant Go.Proofs.YtijikeoehbllcaaW.PrintWords Go.Proofs.YtijikeoehbllcaaW.PrintLast
theorem sext (n : Nat) (n' : Int) (x : Int) (hn : n' = n) (h1 : 1 ≤ n) (h2 : n ≤ 64) : spec_Sext.f x n' = some (sx n x) := by
  obtain ⟨s1, s2⟩ := sext_body n n' x hn h1 h2
  unfold spec_Sext.f shr shl
  rw [if_pos s1, s2]
theorem low2 (x : Int) : bits .and .i64 x 3 = x % 4 := by
  simpa using and_seg .i64 0 2 x (m := 3) (by decide) (by decide) (by decide)
theorem low2u (x : Int) : bits .and .u32 x 3 = x % 4 := by
  simpa using and_seg .u32 0 2 x (m := 3) (by decide) (by decide) (by decide)
theorem low2i (x : Int) : bits .and .i32 x 3 = x % 4 := by
  simpa using and_seg .i32 0 2 x (m := 3) (by decide) (by decide) (by decide)
theorem last : ∃ b, impl_ComputeLO.f 1 = some b ∧ (b == 1) = true := ⟨1, by unfold impl_ComputeLO.f linkreloc_ComputeLO.f; simp [wrap_u16], rfl⟩
theorem half (x : Int) : spec_Half.f x = some (sx 16 (wrap64 x)) := by
  unfold spec_Half.f
  rw [sext 16 16 _ rfl (by decide) (by decide), Option.bind_some]
theorem FnPowerVariant : laws_FnPowerVariant.Pure := by
  intro v t i hv ht hi
  have hv := wf_u8 hv
  have ht := wf_i32 ht
  have hi := wf_u32 hi
  refine ⟨5, ?_⟩
  unfold laws_FnPowerVariant.f
  obtain ⟨b, hb, hb1⟩ := last
  rw [Int.tmod_eq_emod_of_nonneg (by omega), w64 (x := v % 4) (by omega) (by omega)]
  have hk : v % 4 = 0 ∨ v % 4 = 1 ∨ v % 4 = 2 ∨ v % 4 = 3 := by omega
  rcases hk with hk | hk | hk | hk <;> rw [hk]
  · rw [if_neg (by decide)]
    simp only [laws_FnPowerVariant.j0]
    unfold impl_Ppc64Variant.f linkreloc_Ppc64Variant.f
    simp only [if_true, Bool.false_eq_true, if_false, Option.bind_some, half, w64 (x := t) (by omega) (by omega)]
    rw [if_neg (by decide), if_neg (by decide), if_neg (by decide), sext 16 16 _ rfl (by decide) (by decide), Option.bind_some, hb, if_pos]
    · rw [Option.bind_some, hb1]
    · simp only [wrap_i16, wrap64, sx]; omega
  · rw [if_neg (by decide)]
    simp only [laws_FnPowerVariant.j0]
    unfold impl_Ppc64Variant.f linkreloc_Ppc64Variant.f
    simp only [linkreloc_Ppc64Variant.j1, if_true, Bool.false_eq_true, if_false, half, w64 (x := t) (by omega) (by omega)]
    rw [if_neg (by decide), if_neg (by decide)]
    simp only [Option.bind_some, if_true]
    rw [sext 16 16 _ rfl (by decide) (by decide), Option.bind_some, hb, if_pos]
    · rw [Option.bind_some, hb1]
    · simp only [wrap_i16, wrap64, sx]; omega
  · rw [if_neg (by decide)]
    simp only [laws_FnPowerVariant.j0]
    unfold impl_Ppc64Variant.f linkreloc_Ppc64Variant.f
    simp only [linkreloc_Ppc64Variant.j1, if_true, Bool.false_eq_true, if_false, half, w64 (x := t) (by omega) (by omega)]
    rw [if_neg (by decide)]
    simp only [Option.bind_some, if_true]
    rw [if_neg (by decide), sext 16 16 _ rfl (by decide) (by decide), Option.bind_some, sext 16 16 _ rfl (by decide) (by decide), Option.bind_some, hb, if_pos]
    · rw [Option.bind_some, hb1]
    · simp only [wrap_i16, wrap64, sx]; omega
  · rw [if_pos rfl]
    have e : bits .andNot .i32 t 3 = t - t % 4 := by
      rw [andNot_eq, low2i, wrap_i32, w32 (by omega) (by omega)]
    rw [e]
    simp only [laws_FnPowerVariant.j0]
    unfold impl_Ppc64Variant.f linkreloc_Ppc64Variant.f
    simp only [low2, low2u, w64 (x := t - t % 4) (by omega) (by omega), w64 (x := i) (by omega) (by omega), w64 (x := i % 4) (by omega) (by omega)]
    rw [if_neg (by decide), if_neg (by decide), if_neg (by decide), if_pos trivial, if_pos (by omega)]
    simp only [Bool.false_eq_true, if_false, Option.bind_some, half]
    rw [if_neg (by decide), if_neg (by decide)]
    simp only [if_true, wrap_i16]
    have r1 : wrap64 ((t - t % 4 + 32768) % 65536 - 32768) = (t - t % 4 + 32768) % 65536 - 32768 := by unfold wrap64; omega
    have r2 : sx 16 (wrap64 ((t - t % 4) % 4294967296)) = (t - t % 4 + 32768) % 65536 - 32768 := by simp only [wrap64, sx]; omega
    rw [r1, r2, or_mid' .i64 0 2 (by omega) (by omega) (by omega) (by omega) (by decide) (by decide), or_mid .i64 0 2 (by omega) (by omega) (by omega) (by omega) (by decide) (by decide)]
    rw [wrap_i64, wrap_i64, sext 16 16 _ rfl (by decide) (by decide), Option.bind_some, hb, if_pos]
    · rw [Option.bind_some, hb1]
    · simp only [wrap64, sx]; omega
end Go.Proofs.Ytijikeoehbllcaa.Pure
