/- The lowest 24 bits with the highest of them as the sign are told, for every number; no condition. -/
import Derived.Test.YtcfeljdbjhamiaaAid
import Derived.Test.YtcfeljdbjhamiaaPFnSignext24x1
namespace Go.Proofs.Ytcfeljdbjhamiaa.Pure
open Go.RowKit Go.Proofs.Ytcfeljdbjhamiaa.Aid Go.Proofs.Ytcfeljdbjhamiaa.PFnSignext24 Go.Proofs.YtcfeljdbjhamiaaW.PrintWords Go.Proofs.YtcfeljdbjhamiaaW.PrintLast
theorem sext (n : Nat) (n' : Int) (x : Int) (hn : n' = n) (h1 : 1 ≤ n) (h2 : n ≤ 64) : spec_Sext.f x n' = some (sx n x) := by
  obtain ⟨s1, s2⟩ := sext_body n n' x hn h1 h2
  unfold spec_Sext.f shr shl
  rw [if_pos s1, s2]
theorem FnSignext24 : laws_FnSignext24.Pure := by
  intro x hx
  have h := wf_i64 hx
  have e3 := sext 24 24 x rfl (by decide) (by decide)
  unfold laws_FnSignext24.f impl_Signext24.f linkreloc_Signext24.f
  simp only [e3, Option.bind_some]
  simp only [sx, wrap64, wrap32]
  simp; omega
end Go.Proofs.Ytcfeljdbjhamiaa.Pure
