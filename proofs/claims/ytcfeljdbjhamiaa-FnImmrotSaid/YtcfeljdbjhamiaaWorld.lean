/- Worlds that grow: a call leaves what was there as it was. Words for the walks; no condition. -/
import Derived.WalkKit
import Derived.Below
import Derived.Outline
import Derived.Lib.Hide
import Derived.Deep.QuietTactic
import Derived.BigQuiet
namespace Go.Proofs.Ytcfeljdbjhamiaa.Wk
open Go.RowKit
/-- Of what was there nothing has turned. -/
def Ext (w w' : World) : Prop := Below w.heap.size w w'
theorem Ext.refl (w : World) : Ext w w := Below.refl _ _
theorem Ext.trans {a b c : World} (h : Ext a b) (k : Ext b c) : Ext a c := Below.trans h (Below.mono k h.size)
theorem Ext.alloc {a w : World} (h : Ext a w) (o : Obj) : Ext a (w.alloc o) := Below.alloc h h.size o
theorem Ext.drewN {a w : World} (h : Ext a w) (n : Nat) : Ext a (w.drewN n) := ⟨h.os, h.tape, h.output, h.size, h.block⟩
theorem Ext.drew {a w : World} (h : Ext a w) : Ext a w.drew := ⟨h.os, h.tape, h.output, h.size, h.block⟩
theorem Ext.setCell {a w : World} (h : Ext a w) {p : Addr} (hp : a.heap.size ≤ p.block) (v : Value) : Ext a (w.setCell p v) := Below.setCell h hp v
theorem Ext.below {a w : World} (h : Ext a w) : Below a.heap.size a w := h
/-- An integer that a call tells, spelled otherwise. -/
theorem ret_int {k : IntKind} {a b : Int} (h : a = b) : Ending.returned (.int k a) = .returned (.int k b) := by rw [h]
end Go.Proofs.Ytcfeljdbjhamiaa.Wk
