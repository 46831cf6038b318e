/- The number of pages, of 20 bits, and the low part, of 12 bits with its sign, are together the target, from the page of the place on: for a target and a place of 42 bits with their sign whose distance t is from -2^31 + 2^13 to 2^31 - 2^13 - 1 (the statement's own guard). -/
import Derived.Test.YtaekfekgoleolaaAid
import Derived.Test.YtaekfekgoleolaaPFnLoongBitsx1
namespace Go.Proofs.Ytaekfekgoleolaa.Pure
open Go.RowKit Go.Proofs.Ytaekfekgoleolaa.Aid Go.Proofs.Ytaekfekgoleolaa.PFnLoongBits Go.Proofs.YtaekfekgoleolaaW.PrintWords Go.Proofs.YtaekfekgoleolaaW.PrintLast
theorem sext (n : Nat) (n' : Int) (x : Int) (hn : n' = n) (h1 : 1 ≤ n) (h2 : n ≤ 64) : spec_Sext.f x n' = some (sx n x) := by
  obtain ⟨s1, s2⟩ := sext_body n n' x hn h1 h2
  unfold spec_Sext.f shr shl
  rw [if_pos s1, s2]
theorem fits (n : Nat) (n' : Int) (x : Int) (hn : n' = n) (h1 : 1 ≤ n) (h2 : n ≤ 64) : spec_Fits.f x n' = some (sx n x == x) := by
  unfold spec_Fits.f
  rw [sext n n' x hn h1 h2, Option.bind_some]
theorem near2 (k : Nat) (a b : Int) : laws_near.f (k + 3) [a, b] = some (sx 42 a == a && sx 42 b == b) := by
  have fa := fits 42 42 a rfl (by decide) (by decide)
  have fb := fits 42 42 b rfl (by decide) (by decide)
  have r0 : rd [a, b] 0 = a := rfl
  have r1 : rd [a, b] 1 = b := rfl
  unfold laws_near.f
  simp only [laws_near.l0, List.length_cons, List.length_nil]
  cases ha : (sx 42 a == a) <;> cases hb : (sx 42 b == b) <;> simp [r0, r1, fa, fb, ha, hb, wrap64]
theorem low12 (x : Int) : bits .and .i64 x 4095 = x % 4096 := by
  simpa using and_seg .i64 0 12 x (m := 4095) (by decide) (by decide) (by decide)
theorem low20 (x : Int) : bits .and .i64 x 1048575 = x % 1048576 := by
  simpa using and_seg .i64 0 20 x (m := 1048575) (by decide) (by decide) (by decide)
theorem cut12 (x : Int) (h : -9223372036854775808 ≤ x ∧ x ≤ 9223372036854775807) : bits .andNot .i64 x 4095 = x - x % 4096 := by
  rw [andNot_eq, low12, wrap_i64, w64 (by omega) (by omega)]
theorem page (x : Int) (h : -9223372036854775808 ≤ x ∧ x ≤ 9223372036854775807) : bits .and .i64 x (-4096) = x - x % 4096 := by
  rw [and_neg .i64 12 x (by decide)]
  exact cut12 x h
theorem FnLoongBits : laws_FnLoongBits.Pure := by
  intro t p ht hp
  have ht := wf_i64 ht
  have hp := wf_i64 hp
  refine ⟨3, ?_⟩
  unfold laws_FnLoongBits.f
  rw [near2 0 t p]
  simp only [Option.bind_some]
  by_cases h1 : sx 42 t = t ∧ sx 42 p = p
  · obtain ⟨h1, h2⟩ := h1
    have g1 := h1
    have g2 := h2
    simp only [sx] at h1 h2
    have e : wrap64 (t - p) = t - p := w64 (by omega) (by omega)
    rw [if_pos (by simp [g1, g2]), e]
    by_cases h3 : t - p ≥ 2147475456
    · rw [if_pos h3]; simp [laws_FnLoongBits.j0]
    · rw [if_neg h3]
      by_cases h4 : t - p < -2147475456
      · simp [laws_FnLoongBits.j0, h4]
      · simp only [laws_FnLoongBits.j0, h4, decide_false, Bool.false_eq_true, if_false]
        unfold impl_PC32RelocBits.f linkreloc_PC32RelocBits.f
        rw [if_neg (by decide), if_pos rfl]
        simp only [low12, page t ht, page p hp, cut12 p hp, low20]
        rw [w64 (x := t - t % 4096 - (p - p % 4096)) (by omega) (by omega)]
        by_cases h5 : t % 4096 ≥ 2048
        · rw [if_pos h5, w64 (x := t - t % 4096 - (p - p % 4096) + 4096) (by omega) (by omega)]
          simp only [Option.bind_some]
          rw [sext 20 20 _ rfl (by decide) (by decide), Option.bind_some, sext 12 12 _ rfl (by decide) (by decide), Option.bind_some]
          simp only [sx, Option.some.injEq, beq_iff_eq, wrap64]
          omega
        · rw [if_neg h5]
          simp only [Option.bind_some]
          rw [sext 20 20 _ rfl (by decide) (by decide), Option.bind_some, sext 12 12 _ rfl (by decide) (by decide), Option.bind_some]
          simp only [sx, Option.some.injEq, beq_iff_eq, wrap64]
          omega
  · rw [if_neg (by simpa using h1)]
    simp [laws_FnLoongBits.j0]
end Go.Proofs.Ytaekfekgoleolaa.Pure
