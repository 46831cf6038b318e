/- Two instructions are packed into a number and unpacked as they were, the first one first in memory: for every two numbers of 32 bits, in either order; no condition. -/
import Derived.Test.YtaekfekgoleolaaAid
import Derived.Test.YtaekfekgoleolaaPFnPairx1
namespace Go.Proofs.Ytaekfekgoleolaa.Pure
open Go.RowKit Go.Proofs.Ytaekfekgoleolaa.Aid Go.Proofs.Ytaekfekgoleolaa.PFnPair Go.Proofs.YtaekfekgoleolaaW.PrintWords Go.Proofs.YtaekfekgoleolaaW.PrintLast
theorem pack64 (a b : Int) (ha : 0 ≤ a ∧ a ≤ 4294967295) (hb : 0 ≤ b ∧ b ≤ 4294967295) :
    bits .or .i64 (wrap64 (wrap64 a * 4294967296)) (wrap64 b) = wrap64 (a * 4294967296 + b) := by
  rw [w64 (x := b) (by omega) (by omega), w64 (x := a) (by omega) (by omega)]
  rw [or_mid .i64 0 32 (by unfold wrap64; simp; omega) (by simp) (by omega) (by simp; omega) (by decide) (by decide), wrap_i64]
  unfold wrap64; omega
theorem pack64' (a b : Int) (ha : 0 ≤ a ∧ a ≤ 4294967295) (hb : 0 ≤ b ∧ b ≤ 4294967295) :
    bits .or .i64 (wrap64 b) (wrap64 (wrap64 a * 4294967296)) = wrap64 (a * 4294967296 + b) := by rw [or_comm', pack64 a b ha hb]
theorem packU (a b : Int) (ha : 0 ≤ a ∧ a ≤ 4294967295) (hb : 0 ≤ b ∧ b ≤ 4294967295) :
    bits .or .u64 (IntKind.u64.wrap (IntKind.u64.wrap a * 4294967296)) (IntKind.u64.wrap b) = a * 4294967296 + b := by
  simp only [wrap_u64]
  rw [or_mid .u64 0 32 (by simp) (by simp) (by omega) (by simp; omega) (by decide) (by decide), wrap_u64]
  omega
theorem FnPair : laws_FnPair.Pure := by
  intro g a b ha hb
  have ha := wf_u32 ha
  have hb := wf_u32 hb
  unfold laws_FnPair.f impl_PackInstPair.f impl_UnpackInstPair.f linkreloc_PackInstPair.f linkreloc_UnpackInstPair.f
  cases g with
  | true =>
    simp only [Option.bind_some, if_true]
    rw [pack64 a b ha hb, packU a b ha hb, if_pos (by unfold wrap64; omega), if_pos (by unfold wrap64; omega)]
    simp only [Option.some.injEq, beq_iff_eq, wrap_u64, wrap64]
    omega
  | false =>
    simp only [Option.bind_some, Bool.false_eq_true, if_false]
    rw [pack64' b a hb ha, packU b a hb ha, if_pos (by unfold wrap64; omega), if_pos (by unfold wrap64; omega)]
    simp only [Option.some.injEq, beq_iff_eq, wrap_u64, wrap64]
    omega
end Go.Proofs.Ytaekfekgoleolaa.Pure
