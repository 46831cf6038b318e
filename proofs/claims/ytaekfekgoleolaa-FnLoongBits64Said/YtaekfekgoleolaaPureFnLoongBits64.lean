/- The four parts of a distance of 64 bits are together the target, from the page of the place on, modulo 2^64: for every target and place; no condition. -/
import Derived.Test.YtaekfekgoleolaaAid
import Derived.Test.YtaekfekgoleolaaPFnLoongBits64x1
namespace Go.Proofs.Ytaekfekgoleolaa.Pure
open Go.RowKit Go.Proofs.Ytaekfekgoleolaa.Aid Go.Proofs.Ytaekfekgoleolaa.PFnLoongBits64 Go.Proofs.YtaekfekgoleolaaW.PrintWords Go.Proofs.YtaekfekgoleolaaW.PrintLast
theorem sext (n : Nat) (n' : Int) (x : Int) (hn : n' = n) (h1 : 1 ≤ n) (h2 : n ≤ 64) : spec_Sext.f x n' = some (sx n x) := by
  obtain ⟨s1, s2⟩ := sext_body n n' x hn h1 h2
  unfold spec_Sext.f shr shl
  rw [if_pos s1, s2]
theorem low12 (x : Int) : bits .and .i64 x 4095 = x % 4096 := by
  simpa using and_seg .i64 0 12 x (m := 4095) (by decide) (by decide) (by decide)
theorem low20 (x : Int) : bits .and .i64 x 1048575 = x % 1048576 := by
  simpa using and_seg .i64 0 20 x (m := 1048575) (by decide) (by decide) (by decide)
theorem bit31 (x : Int) : bits .and .i64 x 2147483648 = x / 2147483648 % 2 * 2147483648 := by
  simpa using and_seg .i64 31 1 x (m := 2147483648) (by decide) (by decide) (by decide)
theorem cut12 (x : Int) (h : -9223372036854775808 ≤ x ∧ x ≤ 9223372036854775807) : bits .andNot .i64 x 4095 = x - x % 4096 := by
  rw [andNot_eq, low12, wrap_i64, w64 (by omega) (by omega)]
theorem page (x : Int) (h : -9223372036854775808 ≤ x ∧ x ≤ 9223372036854775807) : bits .and .i64 x (-4096) = x - x % 4096 := by
  rw [and_neg .i64 12 x (by decide)]
  exact cut12 x h
/-- The two words of the upper half, of an offset that was rounded. -/
theorem j0_eq (k : Nat) (x : Int) (hx : -9223372036854775808 ≤ x ∧ x ≤ 9223372036854775807) : ∃ o q : Int, -9223372036854775808 ≤ o ∧ o ≤ 9223372036854775807 ∧ o = x + x / 2147483648 % 2 * 4294967296 + q * 18446744073709551616 ∧
    linkreloc_PC64RelocBits.j0 (k + 1) 35 x = some (o / 4294967296 % 1048576) ∧ linkreloc_PC64RelocBits.j0 (k + 1) 34 x = some (o / 4503599627370496 % 4096) := by
  by_cases h : x / 2147483648 % 2 = 0
  · refine ⟨x, 0, hx.1, hx.2, by omega, ?_, ?_⟩ <;> (simp only [linkreloc_PC64RelocBits.j0, bit31, low20, low12]; rw [if_pos (by omega)]; simp)
  · refine ⟨wrap64 (x + 4294967296), -((x + 4294967296 + 9223372036854775808) / 18446744073709551616), by unfold wrap64; omega, by unfold wrap64; omega, by unfold wrap64; omega, ?_, ?_⟩ <;> (simp only [linkreloc_PC64RelocBits.j0, bit31, low20, low12]; rw [if_neg (by omega)]; simp)
theorem w64_ex (x : Int) : ∃ c : Int, wrap64 x = x + c * 18446744073709551616 := ⟨-((x + 9223372036854775808) / 18446744073709551616), by unfold wrap64; omega⟩
theorem w64_in (x : Int) : -9223372036854775808 ≤ wrap64 x ∧ wrap64 x ≤ 9223372036854775807 := by unfold wrap64; omega
theorem w32_ex (x : Int) : ∃ c : Int, wrap32 x = x + c * 4294967296 ∧ -2147483648 ≤ wrap32 x ∧ wrap32 x ≤ 2147483647 := ⟨-((x + 2147483648) / 4294967296), by unfold wrap32; omega, by unfold wrap32; omega, by unfold wrap32; omega⟩
theorem halves (o : Int) : o / 4294967296 % 1048576 % 1048576 * 4294967296 + o / 4503599627370496 % 4096 * 4503599627370496 = o % 18446744073709551616 - o % 4294967296 := by
  have h1 : o / 4503599627370496 = o / 4294967296 / 1048576 := by omega
  have h2 : o / 18446744073709551616 = o / 4294967296 / 1048576 / 4096 := by omega
  have h3 : o % 18446744073709551616 = o - o / 18446744073709551616 * 18446744073709551616 := by omega
  rw [h3, h2, h1, Int.emod_emod_of_dvd _ (by decide)]
  omega
/-- The four parts of an offset e, put together. -/
theorem parts (e o q P l t : Int) (he : e % 4096 = 0) (ho : o = e + e / 2147483648 % 2 * 4294967296 + q * 18446744073709551616) (ht : -9223372036854775808 ≤ t ∧ t ≤ 9223372036854775807)
    (hs : ∃ c : Int, P + e + l = t + c * 18446744073709551616) :
    wrap64 (wrap64 (P + wrap64 (wrap32 (e / 4096 % 1048576 * 4096 % 4294967296))) + wrap64 (wrap64 (l + wrap64 (o / 4294967296 % 1048576 % 1048576 * 4294967296)) + wrap64 (o / 4503599627370496 % 4096 * 4503599627370496))) = t := by
  obtain ⟨c, hs⟩ := hs
  have k1 : wrap32 (e / 4096 % 1048576 * 4096 % 4294967296) = e % 4294967296 - e / 2147483648 % 2 * 4294967296 := by unfold wrap32; omega
  have k2 := halves o
  have k3 : o % 4294967296 = e % 4294967296 := by omega
  rw [k1]
  obtain ⟨c1, h1⟩ := w64_ex (e % 4294967296 - e / 2147483648 % 2 * 4294967296)
  rw [h1]
  obtain ⟨c2, h2⟩ := w64_ex (P + (e % 4294967296 - e / 2147483648 % 2 * 4294967296 + c1 * 18446744073709551616))
  rw [h2]
  obtain ⟨c3, h3⟩ := w64_ex (o / 4294967296 % 1048576 % 1048576 * 4294967296)
  rw [h3]
  obtain ⟨c4, h4⟩ := w64_ex (l + (o / 4294967296 % 1048576 % 1048576 * 4294967296 + c3 * 18446744073709551616))
  rw [h4]
  obtain ⟨c5, h5⟩ := w64_ex (o / 4503599627370496 % 4096 * 4503599627370496)
  rw [h5]
  generalize o / 4294967296 % 1048576 % 1048576 * 4294967296 = A at *
  generalize o / 4503599627370496 % 4096 * 4503599627370496 = B at *
  clear h1 h2 h3 h4 h5 k1
  generalize e / 2147483648 % 2 = b at *
  have hq : ∃ z : Int, o % 18446744073709551616 = o + z * 18446744073709551616 := ⟨-(o / 18446744073709551616), by omega⟩
  obtain ⟨z, hz⟩ := hq
  unfold wrap64
  omega
theorem FnLoongBits64 : laws_FnLoongBits64.Pure := by
  intro t p ht hp
  have ht := wf_i64 ht
  have hp := wf_i64 hp
  refine ⟨1, ?_⟩
  unfold laws_FnLoongBits64.f impl_PC32RelocBits.f linkreloc_PC32RelocBits.f impl_PC64RelocBits.f linkreloc_PC64RelocBits.f
  simp only [low12, page t ht, page p hp, cut12 p hp, low20]
  rw [if_neg (by decide)]
  obtain ⟨c, hc⟩ := w64_ex (t - t % 4096 - (p - p % 4096))
  have hr := w64_in (t - t % 4096 - (p - p % 4096))
  generalize wrap64 (t - t % 4096 - (p - p % 4096)) = D at *
  by_cases h5 : t % 4096 ≥ 2048
  · simp only [if_pos h5, if_true, Option.bind_some]
    obtain ⟨o, q, ho1, ho2, ho, hj1, hj2⟩ := j0_eq 0 (wrap64 (D + -4294963200)) (w64_in _)
    simp only [hj1, hj2, Option.bind_some]
    rw [sext 12 12 _ rfl (by decide) (by decide)]
    simp only [Option.bind_some, Option.some.injEq, beq_iff_eq]
    obtain ⟨c1, h1⟩ := w64_ex (D + -4294963200)
    obtain ⟨c2, h2⟩ := w64_ex (D + 4096)
    have e1 : wrap64 (wrap32 (wrap64 (D + 4096) / 4096 % 1048576 % 4294967296 * 4096 % 4294967296)) = wrap64 (wrap32 (wrap64 (D + -4294963200) / 4096 % 1048576 * 4096 % 4294967296)) := by
      rw [h1, h2]; congr 2; omega
    have e2 : sx 12 (t % 4096) % 4294967296 = t % 4096 - 4096 + 4294967296 := by simp only [sx]; omega
    rw [e1, e2]
    exact parts _ o q _ _ t (by omega) ho ht ⟨c + c1, by omega⟩
  · simp only [if_neg h5, if_true, Option.bind_some]
    obtain ⟨o, q, ho1, ho2, ho, hj1, hj2⟩ := j0_eq 0 D hr
    simp only [hj1, hj2, Option.bind_some]
    rw [sext 12 12 _ rfl (by decide) (by decide)]
    simp only [Option.bind_some, Option.some.injEq, beq_iff_eq]
    have e1 : wrap64 (wrap32 (D / 4096 % 1048576 % 4294967296 * 4096 % 4294967296)) = wrap64 (wrap32 (D / 4096 % 1048576 * 4096 % 4294967296)) := by
      congr 2; omega
    have e2 : sx 12 (t % 4096) % 4294967296 = t % 4096 := by simp only [sx]; omega
    rw [e1, e2]
    exact parts D o q _ _ t (by omega) ho ht ⟨c, by omega⟩
end Go.Proofs.Ytaekfekgoleolaa.Pure
