/- The adjusted high half and the low half, with its sign, are together the number, and both have 16 bits: for every number; no condition. -/
import Derived.Test.YtaekfekgoleolaaAid
import Derived.Test.YtaekfekgoleolaaPFnHalvesx1
namespace Go.Proofs.Ytaekfekgoleolaa.Pure
open Go.RowKit Go.Proofs.Ytaekfekgoleolaa.Aid Go.Proofs.Ytaekfekgoleolaa.PFnHalves Go.Proofs.YtaekfekgoleolaaW.PrintWords Go.Proofs.YtaekfekgoleolaaW.PrintLast
theorem FnHalves : laws_FnHalves.Pure := by
  intro x hx
  have h := wf_i32 hx
  unfold laws_FnHalves.f impl_ComputeHA.f impl_ComputeLO.f linkreloc_ComputeHA.f linkreloc_ComputeLO.f
  simp only [Option.bind_some, wrap_u16, wrap_i16, wrap32]
  rw [if_pos (by omega), if_pos (by omega)]
  simp only [Option.some.injEq, beq_iff_eq]
  omega
end Go.Proofs.Ytaekfekgoleolaa.Pure
