/-
  No cell of these rows narrows 'for every input' (looked for: loops, veiled, ifaces, maps, wideKeys, modest, calm, conditions, laid).
  DERIVED. THE GIVEN ROWS OF THIS SEAT. 12 by the template 'for every input the law returns true; each argument reads behind the call as it read before'; 0 by the template 'total and deterministic' (their statements: YtaekfekgoleolaaTotals.lean).
  GIVEN WITH THE SEED: the statements are not yours to turn. If you find one false, say at which input.
  Laid BY PROGRAM, IN A SANDBOX (cutbox-rows.mjs): the forced cells as the released guide's own fill.sh prints them over the translation be9f9f124fc076ab… (all of the seat's roots in one cut). By AI agents, Wed Nov 11 2026. No macro, syntax, notation, axiom, sorry.
-/
import Derived.Test.YtaekfekgoleolaaChecked
import GoSem.Claim
import GoSem.ClaimJoined
import GoSem.ClaimMapViews
import Derived.JoinedTies
import Derived.KernelRfl
namespace Go.Proofs.Ytaekfekgoleolaa
/- THE CELL 'sum', in the pinned program and in every row, IS THE sha256 OF THE DUMP (.gsa) THAT YtaekfekgoleolaaProg.lean LOADS. Nothing in Lean hashes anything: it is a label: what it is worth is what the hold of that sum in a sandbox is worth. -/
noncomputable def Try.pinned : Pinned := { name := "ytaekfekgoleolaa", sum := "be9f9f124fc076ab5f9f404e69a2800af9952f687d11fbe9c95e629ab074e2b7", checked := Try.checked }
namespace Rows
def none {H : Type} : Left H := { results := [], args := [] }

/-- 'laws.FnHalves': WHATEVER THE INPUT: true; the input reads as it did. -/
def fnHalvesSpec : ChangeSpec := { name := "fnHalves", fn := fun _ => fun
  | [d] => { results := [.lit (.bool true)], args := [d] }
  | _ => none }
def fnHalvesRow : OpenClaim := { program := "ytaekfekgoleolaa", sum := "be9f9f124fc076ab5f9f404e69a2800af9952f687d11fbe9c95e629ab074e2b7", func := "loop.example/pub-g03245/laws.FnHalves", spec := "fnHalves", apart := false }
def FnHalvesSaid : Prop := fnHalvesRow.holds Try.pinned (OpenSpec.ofChange fnHalvesSpec)

/-- ITS FALSE NEIGHBOUR: 'it returns false'. Refute it at one input. -/
def fnHalvesWrong : ChangeSpec := { name := "fnHalves", fn := fun _ => fun
  | [d] => { results := [.lit (.bool false)], args := [d] }
  | _ => none }
def FnHalvesWrongFalsely : Prop := fnHalvesRow.holds Try.pinned (OpenSpec.ofChange fnHalvesWrong)

/-- 'laws.FnPair': WHATEVER THE INPUT: true; the input reads as it did. -/
def fnPairSpec : ChangeSpec := { name := "fnPair", fn := fun _ => fun
  | [d1, d2, d3] => { results := [.lit (.bool true)], args := [d1, d2, d3] }
  | _ => none }
def fnPairRow : OpenClaim := { program := "ytaekfekgoleolaa", sum := "be9f9f124fc076ab5f9f404e69a2800af9952f687d11fbe9c95e629ab074e2b7", func := "loop.example/pub-g03245/laws.FnPair", spec := "fnPair", apart := false }
def FnPairSaid : Prop := fnPairRow.holds Try.pinned (OpenSpec.ofChange fnPairSpec)

/-- ITS FALSE NEIGHBOUR: 'it returns false'. Refute it at one input. -/
def fnPairWrong : ChangeSpec := { name := "fnPair", fn := fun _ => fun
  | [d1, d2, d3] => { results := [.lit (.bool false)], args := [d1, d2, d3] }
  | _ => none }
def FnPairWrongFalsely : Prop := fnPairRow.holds Try.pinned (OpenSpec.ofChange fnPairWrong)

/-- 'laws.FnEncodeI': WHATEVER THE INPUT: true; the input reads as it did. -/
def fnEncodeISpec : ChangeSpec := { name := "fnEncodeI", fn := fun _ => fun
  | [d] => { results := [.lit (.bool true)], args := [d] }
  | _ => none }
def fnEncodeIRow : OpenClaim := { program := "ytaekfekgoleolaa", sum := "be9f9f124fc076ab5f9f404e69a2800af9952f687d11fbe9c95e629ab074e2b7", func := "loop.example/pub-g03245/laws.FnEncodeI", spec := "fnEncodeI", apart := false }
def FnEncodeISaid : Prop := fnEncodeIRow.holds Try.pinned (OpenSpec.ofChange fnEncodeISpec)

/-- ITS FALSE NEIGHBOUR: 'it returns false'. Refute it at one input. -/
def fnEncodeIWrong : ChangeSpec := { name := "fnEncodeI", fn := fun _ => fun
  | [d] => { results := [.lit (.bool false)], args := [d] }
  | _ => none }
def FnEncodeIWrongFalsely : Prop := fnEncodeIRow.holds Try.pinned (OpenSpec.ofChange fnEncodeIWrong)

/-- 'laws.FnEncodeS': WHATEVER THE INPUT: true; the input reads as it did. -/
def fnEncodeSSpec : ChangeSpec := { name := "fnEncodeS", fn := fun _ => fun
  | [d] => { results := [.lit (.bool true)], args := [d] }
  | _ => none }
def fnEncodeSRow : OpenClaim := { program := "ytaekfekgoleolaa", sum := "be9f9f124fc076ab5f9f404e69a2800af9952f687d11fbe9c95e629ab074e2b7", func := "loop.example/pub-g03245/laws.FnEncodeS", spec := "fnEncodeS", apart := false }
def FnEncodeSSaid : Prop := fnEncodeSRow.holds Try.pinned (OpenSpec.ofChange fnEncodeSSpec)

/-- ITS FALSE NEIGHBOUR: 'it returns false'. Refute it at one input. -/
def fnEncodeSWrong : ChangeSpec := { name := "fnEncodeS", fn := fun _ => fun
  | [d] => { results := [.lit (.bool false)], args := [d] }
  | _ => none }
def FnEncodeSWrongFalsely : Prop := fnEncodeSRow.holds Try.pinned (OpenSpec.ofChange fnEncodeSWrong)

/-- 'laws.FnEncodeU': WHATEVER THE INPUT: true; the input reads as it did. -/
def fnEncodeUSpec : ChangeSpec := { name := "fnEncodeU", fn := fun _ => fun
  | [d] => { results := [.lit (.bool true)], args := [d] }
  | _ => none }
def fnEncodeURow : OpenClaim := { program := "ytaekfekgoleolaa", sum := "be9f9f124fc076ab5f9f404e69a2800af9952f687d11fbe9c95e629ab074e2b7", func := "loop.example/pub-g03245/laws.FnEncodeU", spec := "fnEncodeU", apart := false }
def FnEncodeUSaid : Prop := fnEncodeURow.holds Try.pinned (OpenSpec.ofChange fnEncodeUSpec)

/-- ITS FALSE NEIGHBOUR: 'it returns false'. Refute it at one input. -/
def fnEncodeUWrong : ChangeSpec := { name := "fnEncodeU", fn := fun _ => fun
  | [d] => { results := [.lit (.bool false)], args := [d] }
  | _ => none }
def FnEncodeUWrongFalsely : Prop := fnEncodeURow.holds Try.pinned (OpenSpec.ofChange fnEncodeUWrong)

/-- 'laws.FnEncodeB': WHATEVER THE INPUT: true; the input reads as it did. -/
def fnEncodeBSpec : ChangeSpec := { name := "fnEncodeB", fn := fun _ => fun
  | [d] => { results := [.lit (.bool true)], args := [d] }
  | _ => none }
def fnEncodeBRow : OpenClaim := { program := "ytaekfekgoleolaa", sum := "be9f9f124fc076ab5f9f404e69a2800af9952f687d11fbe9c95e629ab074e2b7", func := "loop.example/pub-g03245/laws.FnEncodeB", spec := "fnEncodeB", apart := false }
def FnEncodeBSaid : Prop := fnEncodeBRow.holds Try.pinned (OpenSpec.ofChange fnEncodeBSpec)

/-- ITS FALSE NEIGHBOUR: 'it returns false'. Refute it at one input. -/
def fnEncodeBWrong : ChangeSpec := { name := "fnEncodeB", fn := fun _ => fun
  | [d] => { results := [.lit (.bool false)], args := [d] }
  | _ => none }
def FnEncodeBWrongFalsely : Prop := fnEncodeBRow.holds Try.pinned (OpenSpec.ofChange fnEncodeBWrong)

/-- 'laws.FnEncodeJ': WHATEVER THE INPUT: true; the input reads as it did. -/
def fnEncodeJSpec : ChangeSpec := { name := "fnEncodeJ", fn := fun _ => fun
  | [d] => { results := [.lit (.bool true)], args := [d] }
  | _ => none }
def fnEncodeJRow : OpenClaim := { program := "ytaekfekgoleolaa", sum := "be9f9f124fc076ab5f9f404e69a2800af9952f687d11fbe9c95e629ab074e2b7", func := "loop.example/pub-g03245/laws.FnEncodeJ", spec := "fnEncodeJ", apart := false }
def FnEncodeJSaid : Prop := fnEncodeJRow.holds Try.pinned (OpenSpec.ofChange fnEncodeJSpec)

/-- ITS FALSE NEIGHBOUR: 'it returns false'. Refute it at one input. -/
def fnEncodeJWrong : ChangeSpec := { name := "fnEncodeJ", fn := fun _ => fun
  | [d] => { results := [.lit (.bool false)], args := [d] }
  | _ => none }
def FnEncodeJWrongFalsely : Prop := fnEncodeJRow.holds Try.pinned (OpenSpec.ofChange fnEncodeJWrong)

/-- 'laws.FnEncodeCB': WHATEVER THE INPUT: true; the input reads as it did. -/
def fnEncodeCBSpec : ChangeSpec := { name := "fnEncodeCB", fn := fun _ => fun
  | [d] => { results := [.lit (.bool true)], args := [d] }
  | _ => none }
def fnEncodeCBRow : OpenClaim := { program := "ytaekfekgoleolaa", sum := "be9f9f124fc076ab5f9f404e69a2800af9952f687d11fbe9c95e629ab074e2b7", func := "loop.example/pub-g03245/laws.FnEncodeCB", spec := "fnEncodeCB", apart := false }
def FnEncodeCBSaid : Prop := fnEncodeCBRow.holds Try.pinned (OpenSpec.ofChange fnEncodeCBSpec)

/-- ITS FALSE NEIGHBOUR: 'it returns false'. Refute it at one input. -/
def fnEncodeCBWrong : ChangeSpec := { name := "fnEncodeCB", fn := fun _ => fun
  | [d] => { results := [.lit (.bool false)], args := [d] }
  | _ => none }
def FnEncodeCBWrongFalsely : Prop := fnEncodeCBRow.holds Try.pinned (OpenSpec.ofChange fnEncodeCBWrong)

/-- 'laws.FnEncodeCJ': WHATEVER THE INPUT: true; the input reads as it did. -/
def fnEncodeCJSpec : ChangeSpec := { name := "fnEncodeCJ", fn := fun _ => fun
  | [d] => { results := [.lit (.bool true)], args := [d] }
  | _ => none }
def fnEncodeCJRow : OpenClaim := { program := "ytaekfekgoleolaa", sum := "be9f9f124fc076ab5f9f404e69a2800af9952f687d11fbe9c95e629ab074e2b7", func := "loop.example/pub-g03245/laws.FnEncodeCJ", spec := "fnEncodeCJ", apart := false }
def FnEncodeCJSaid : Prop := fnEncodeCJRow.holds Try.pinned (OpenSpec.ofChange fnEncodeCJSpec)

/-- ITS FALSE NEIGHBOUR: 'it returns false'. Refute it at one input. -/
def fnEncodeCJWrong : ChangeSpec := { name := "fnEncodeCJ", fn := fun _ => fun
  | [d] => { results := [.lit (.bool false)], args := [d] }
  | _ => none }
def FnEncodeCJWrongFalsely : Prop := fnEncodeCJRow.holds Try.pinned (OpenSpec.ofChange fnEncodeCJWrong)

/-- 'laws.FnSplit32': WHATEVER THE INPUT: true; the input reads as it did. -/
def fnSplit32Spec : ChangeSpec := { name := "fnSplit32", fn := fun _ => fun
  | [d] => { results := [.lit (.bool true)], args := [d] }
  | _ => none }
def fnSplit32Row : OpenClaim := { program := "ytaekfekgoleolaa", sum := "be9f9f124fc076ab5f9f404e69a2800af9952f687d11fbe9c95e629ab074e2b7", func := "loop.example/pub-g03245/laws.FnSplit32", spec := "fnSplit32", apart := false }
def FnSplit32Said : Prop := fnSplit32Row.holds Try.pinned (OpenSpec.ofChange fnSplit32Spec)

/-- ITS FALSE NEIGHBOUR: 'it returns false'. Refute it at one input. -/
def fnSplit32Wrong : ChangeSpec := { name := "fnSplit32", fn := fun _ => fun
  | [d] => { results := [.lit (.bool false)], args := [d] }
  | _ => none }
def FnSplit32WrongFalsely : Prop := fnSplit32Row.holds Try.pinned (OpenSpec.ofChange fnSplit32Wrong)

/-- 'laws.FnLoongBits': WHATEVER THE INPUT: true; the input reads as it did. -/
def fnLoongBitsSpec : ChangeSpec := { name := "fnLoongBits", fn := fun _ => fun
  | [d1, d2] => { results := [.lit (.bool true)], args := [d1, d2] }
  | _ => none }
def fnLoongBitsRow : OpenClaim := { program := "ytaekfekgoleolaa", sum := "be9f9f124fc076ab5f9f404e69a2800af9952f687d11fbe9c95e629ab074e2b7", func := "loop.example/pub-g03245/laws.FnLoongBits", spec := "fnLoongBits", apart := false }
def FnLoongBitsSaid : Prop := fnLoongBitsRow.holds Try.pinned (OpenSpec.ofChange fnLoongBitsSpec)

/-- ITS FALSE NEIGHBOUR: 'it returns false'. Refute it at one input. -/
def fnLoongBitsWrong : ChangeSpec := { name := "fnLoongBits", fn := fun _ => fun
  | [d1, d2] => { results := [.lit (.bool false)], args := [d1, d2] }
  | _ => none }
def FnLoongBitsWrongFalsely : Prop := fnLoongBitsRow.holds Try.pinned (OpenSpec.ofChange fnLoongBitsWrong)

/-- 'laws.FnLoongBits64': WHATEVER THE INPUT: true; the input reads as it did. -/
def fnLoongBits64Spec : ChangeSpec := { name := "fnLoongBits64", fn := fun _ => fun
  | [d1, d2] => { results := [.lit (.bool true)], args := [d1, d2] }
  | _ => none }
def fnLoongBits64Row : OpenClaim := { program := "ytaekfekgoleolaa", sum := "be9f9f124fc076ab5f9f404e69a2800af9952f687d11fbe9c95e629ab074e2b7", func := "loop.example/pub-g03245/laws.FnLoongBits64", spec := "fnLoongBits64", apart := false }
def FnLoongBits64Said : Prop := fnLoongBits64Row.holds Try.pinned (OpenSpec.ofChange fnLoongBits64Spec)

/-- ITS FALSE NEIGHBOUR: 'it returns false'. Refute it at one input. -/
def fnLoongBits64Wrong : ChangeSpec := { name := "fnLoongBits64", fn := fun _ => fun
  | [d1, d2] => { results := [.lit (.bool false)], args := [d1, d2] }
  | _ => none }
def FnLoongBits64WrongFalsely : Prop := fnLoongBits64Row.holds Try.pinned (OpenSpec.ofChange fnLoongBits64Wrong)

/- THE SECOND FORM. 'bulk': how many values and letters a reading holds, each counted each time it is reached (what is shared counts as often as it is met; a slice's spare places count too). A statement '..UptoSaid' is the law's where the arguments, and the package variables that the reading takes, are together of bulk at most 1048576: NARROWER than '..Said'. Prove '..Said' where nothing that the law and all that it calls make is longer than what came in: it says more and counts as full. Else prove '..UptoSaid'. A law counts once. -/
mutual
def uptoBulk {H : Type} : DataW H → Nat
  | .lit (.string bytes) => bytes.length + 1
  | .lit _ => 1
  | .nil => 1
  | .ptr d => uptoBulk d + 1
  | .slice elems spare => uptoBulkAll elems + uptoBulkAll spare + 1
  | .agg parts => uptoBulkAll parts + 1
  | .iface _ d => uptoBulk d + 1
  | .map entries => uptoBulkEntries entries + 1
  | .held _ => 1
def uptoBulkAll {H : Type} : List (DataW H) → Nat
  | [] => 0
  | d :: r => uptoBulk d + uptoBulkAll r
def uptoBulkEntries {H : Type} : List (Lit × DataW H) → Nat
  | [] => 0
  | x :: r => uptoBulkEntry x + uptoBulkEntries r
def uptoBulkEntry {H : Type} : Lit × DataW H → Nat
  | (.string bytes, d) => bytes.length + uptoBulk d + 1
  | (_, d) => uptoBulk d + 1
 end
def uptoSmall : (H : Type) → List (DataW H) → Bool := fun _ ds => decide (uptoBulkAll ds ≤ 1048576)
def OpenSpec.upto (s : _root_.Go.ChangeSpec) : _root_.Go.OpenSpec := { _root_.Go.OpenSpec.ofChange s with cond := some uptoSmall }

/-- 'laws.FnHalves', WHERE WHAT IT READS IS OF BULK AT MOST 1048576: true; the input reads as it did. -/
def fnHalvesUptoRow : OpenClaim := { program := "ytaekfekgoleolaa", sum := "be9f9f124fc076ab5f9f404e69a2800af9952f687d11fbe9c95e629ab074e2b7", func := "loop.example/pub-g03245/laws.FnHalves", spec := "fnHalves", apart := false, narrowed := true }
def FnHalvesUptoSaid : Prop := fnHalvesUptoRow.holds Try.pinned (OpenSpec.upto fnHalvesSpec)

/-- 'laws.FnPair', WHERE WHAT IT READS IS OF BULK AT MOST 1048576: true; the input reads as it did. -/
def fnPairUptoRow : OpenClaim := { program := "ytaekfekgoleolaa", sum := "be9f9f124fc076ab5f9f404e69a2800af9952f687d11fbe9c95e629ab074e2b7", func := "loop.example/pub-g03245/laws.FnPair", spec := "fnPair", apart := false, narrowed := true }
def FnPairUptoSaid : Prop := fnPairUptoRow.holds Try.pinned (OpenSpec.upto fnPairSpec)

/-- 'laws.FnEncodeI', WHERE WHAT IT READS IS OF BULK AT MOST 1048576: true; the input reads as it did. -/
def fnEncodeIUptoRow : OpenClaim := { program := "ytaekfekgoleolaa", sum := "be9f9f124fc076ab5f9f404e69a2800af9952f687d11fbe9c95e629ab074e2b7", func := "loop.example/pub-g03245/laws.FnEncodeI", spec := "fnEncodeI", apart := false, narrowed := true }
def FnEncodeIUptoSaid : Prop := fnEncodeIUptoRow.holds Try.pinned (OpenSpec.upto fnEncodeISpec)

/-- 'laws.FnEncodeS', WHERE WHAT IT READS IS OF BULK AT MOST 1048576: true; the input reads as it did. -/
def fnEncodeSUptoRow : OpenClaim := { program := "ytaekfekgoleolaa", sum := "be9f9f124fc076ab5f9f404e69a2800af9952f687d11fbe9c95e629ab074e2b7", func := "loop.example/pub-g03245/laws.FnEncodeS", spec := "fnEncodeS", apart := false, narrowed := true }
def FnEncodeSUptoSaid : Prop := fnEncodeSUptoRow.holds Try.pinned (OpenSpec.upto fnEncodeSSpec)

/-- 'laws.FnEncodeU', WHERE WHAT IT READS IS OF BULK AT MOST 1048576: true; the input reads as it did. -/
def fnEncodeUUptoRow : OpenClaim := { program := "ytaekfekgoleolaa", sum := "be9f9f124fc076ab5f9f404e69a2800af9952f687d11fbe9c95e629ab074e2b7", func := "loop.example/pub-g03245/laws.FnEncodeU", spec := "fnEncodeU", apart := false, narrowed := true }
def FnEncodeUUptoSaid : Prop := fnEncodeUUptoRow.holds Try.pinned (OpenSpec.upto fnEncodeUSpec)

/-- 'laws.FnEncodeB', WHERE WHAT IT READS IS OF BULK AT MOST 1048576: true; the input reads as it did. -/
def fnEncodeBUptoRow : OpenClaim := { program := "ytaekfekgoleolaa", sum := "be9f9f124fc076ab5f9f404e69a2800af9952f687d11fbe9c95e629ab074e2b7", func := "loop.example/pub-g03245/laws.FnEncodeB", spec := "fnEncodeB", apart := false, narrowed := true }
def FnEncodeBUptoSaid : Prop := fnEncodeBUptoRow.holds Try.pinned (OpenSpec.upto fnEncodeBSpec)

/-- 'laws.FnEncodeJ', WHERE WHAT IT READS IS OF BULK AT MOST 1048576: true; the input reads as it did. -/
def fnEncodeJUptoRow : OpenClaim := { program := "ytaekfekgoleolaa", sum := "be9f9f124fc076ab5f9f404e69a2800af9952f687d11fbe9c95e629ab074e2b7", func := "loop.example/pub-g03245/laws.FnEncodeJ", spec := "fnEncodeJ", apart := false, narrowed := true }
def FnEncodeJUptoSaid : Prop := fnEncodeJUptoRow.holds Try.pinned (OpenSpec.upto fnEncodeJSpec)

/-- 'laws.FnEncodeCB', WHERE WHAT IT READS IS OF BULK AT MOST 1048576: true; the input reads as it did. -/
def fnEncodeCBUptoRow : OpenClaim := { program := "ytaekfekgoleolaa", sum := "be9f9f124fc076ab5f9f404e69a2800af9952f687d11fbe9c95e629ab074e2b7", func := "loop.example/pub-g03245/laws.FnEncodeCB", spec := "fnEncodeCB", apart := false, narrowed := true }
def FnEncodeCBUptoSaid : Prop := fnEncodeCBUptoRow.holds Try.pinned (OpenSpec.upto fnEncodeCBSpec)

/-- 'laws.FnEncodeCJ', WHERE WHAT IT READS IS OF BULK AT MOST 1048576: true; the input reads as it did. -/
def fnEncodeCJUptoRow : OpenClaim := { program := "ytaekfekgoleolaa", sum := "be9f9f124fc076ab5f9f404e69a2800af9952f687d11fbe9c95e629ab074e2b7", func := "loop.example/pub-g03245/laws.FnEncodeCJ", spec := "fnEncodeCJ", apart := false, narrowed := true }
def FnEncodeCJUptoSaid : Prop := fnEncodeCJUptoRow.holds Try.pinned (OpenSpec.upto fnEncodeCJSpec)

/-- 'laws.FnSplit32', WHERE WHAT IT READS IS OF BULK AT MOST 1048576: true; the input reads as it did. -/
def fnSplit32UptoRow : OpenClaim := { program := "ytaekfekgoleolaa", sum := "be9f9f124fc076ab5f9f404e69a2800af9952f687d11fbe9c95e629ab074e2b7", func := "loop.example/pub-g03245/laws.FnSplit32", spec := "fnSplit32", apart := false, narrowed := true }
def FnSplit32UptoSaid : Prop := fnSplit32UptoRow.holds Try.pinned (OpenSpec.upto fnSplit32Spec)

/-- 'laws.FnLoongBits', WHERE WHAT IT READS IS OF BULK AT MOST 1048576: true; the input reads as it did. -/
def fnLoongBitsUptoRow : OpenClaim := { program := "ytaekfekgoleolaa", sum := "be9f9f124fc076ab5f9f404e69a2800af9952f687d11fbe9c95e629ab074e2b7", func := "loop.example/pub-g03245/laws.FnLoongBits", spec := "fnLoongBits", apart := false, narrowed := true }
def FnLoongBitsUptoSaid : Prop := fnLoongBitsUptoRow.holds Try.pinned (OpenSpec.upto fnLoongBitsSpec)

/-- 'laws.FnLoongBits64', WHERE WHAT IT READS IS OF BULK AT MOST 1048576: true; the input reads as it did. -/
def fnLoongBits64UptoRow : OpenClaim := { program := "ytaekfekgoleolaa", sum := "be9f9f124fc076ab5f9f404e69a2800af9952f687d11fbe9c95e629ab074e2b7", func := "loop.example/pub-g03245/laws.FnLoongBits64", spec := "fnLoongBits64", apart := false, narrowed := true }
def FnLoongBits64UptoSaid : Prop := fnLoongBits64UptoRow.holds Try.pinned (OpenSpec.upto fnLoongBits64Spec)

end Rows
end Go.Proofs.Ytaekfekgoleolaa
