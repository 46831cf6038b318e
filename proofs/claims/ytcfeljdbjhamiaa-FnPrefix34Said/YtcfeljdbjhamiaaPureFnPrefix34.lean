/- The highest 18 of 34 bits are told as they stand, for every number; no condition. -/
import Derived.Test.YtcfeljdbjhamiaaAid
import Derived.Test.YtcfeljdbjhamiaaPFnPrefix34x1
namespace Go.Proofs.Ytcfeljdbjhamiaa.Pure
open Go.RowKit Go.Proofs.Ytcfeljdbjhamiaa.Aid Go.Proofs.Ytcfeljdbjhamiaa.PFnPrefix34 Go.Proofs.YtcfeljdbjhamiaaW.PrintWords Go.Proofs.YtcfeljdbjhamiaaW.PrintLast
theorem sext (n : Nat) (n' : Int) (x : Int) (hn : n' = n) (h1 : 1 ≤ n) (h2 : n ≤ 64) : spec_Sext.f x n' = some (sx n x) := by
  obtain ⟨s1, s2⟩ := sext_body n n' x hn h1 h2
  unfold spec_Sext.f shr shl
  rw [if_pos s1, s2]
theorem FnPrefix34 : laws_FnPrefix34.Pure := by
  intro x hx
  have h := wf_i64 hx
  have e : bits .and .i64 (x / 65536) 262143 = x / 65536 % 262144 := by
    have := and_seg .i64 0 18 (x / 65536) (m := 262143) (by decide) (by decide) (by decide)
    simpa using this
  have h1 : 0 ≤ x / 65536 % 262144 := by omega
  have h2 : x / 65536 % 262144 < 262144 := by omega
  have e2 : wrap64 (x / 65536 % 262144 % 4294967296) = x / 65536 % 262144 := by unfold wrap64; omega
  have e3 := sext 34 34 x rfl (by decide) (by decide)
  unfold laws_FnPrefix34.f spec_Fits.f impl_ComputePrefix34HI.f linkreloc_ComputePrefix34HI.f
  simp only [e, e2, e3, Option.bind_some]
  simp
end Go.Proofs.Ytcfeljdbjhamiaa.Pure
