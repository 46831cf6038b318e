/-
  No cell of these rows narrows 'for every input' (looked for: loops, veiled, ifaces, maps, wideKeys, modest, calm, conditions, laid).
  DERIVED. THE GIVEN ROWS OF THIS SEAT. 9 by the template 'for every input the law returns true; each argument reads behind the call as it read before'; 0 by the template 'total and deterministic' (their statements: YtijikeoehbllcaaTotals.lean).
  GIVEN WITH THE SEED: the statements are not yours to turn. If you find one false, say at which input.
  Laid BY PROGRAM, IN A SANDBOX (cutbox-rows.mjs): the forced cells as the released guide's own fill.sh prints them over the translation b2234c9df2a72851… (all of the seat's roots in one cut). By AI agents, Wed Nov 11 2026. No macro, syntax, notation, axiom, sorry.
-/
import Derived.Test.YtijikeoehbllcaaChecked
import GoSem.Claim
import GoSem.ClaimJoined
import GoSem.ClaimMapViews
import Derived.JoinedTies
import Derived.KernelRfl
namespace Go.Proofs.Ytijikeoehbllcaa
/- THE CELL 'sum', in the pinned program and in every row, IS THE sha256 OF THE DUMP (.gsa) THAT YtijikeoehbllcaaProg.lean LOADS. Nothing in Lean hashes anything: it is a label: what it is worth is what the hold of that sum in a sandbox is worth. -/
noncomputable def Try.pinned : Pinned := { name := "ytijikeoehbllcaa", sum := "b2234c9df2a728519c7c74898ff25913e6d45c2673477fe86c941c6dfab10037", checked := Try.checked }
namespace Rows
def none {H : Type} : Left H := { results := [], args := [] }

/-- 'laws.FnRiscvJump': WHATEVER THE INPUT: true; the input reads as it did. -/
def fnRiscvJumpSpec : ChangeSpec := { name := "fnRiscvJump", fn := fun _ => fun
  | [d1, d2, d3, d4] => { results := [.lit (.bool true)], args := [d1, d2, d3, d4] }
  | _ => none }
def fnRiscvJumpRow : OpenClaim := { program := "ytijikeoehbllcaa", sum := "b2234c9df2a728519c7c74898ff25913e6d45c2673477fe86c941c6dfab10037", func := "loop.example/pub-g03245/laws.FnRiscvJump", spec := "fnRiscvJump", apart := false }
def FnRiscvJumpSaid : Prop := fnRiscvJumpRow.holds Try.pinned (OpenSpec.ofChange fnRiscvJumpSpec)

/-- ITS FALSE NEIGHBOUR: 'it returns false'. Refute it at one input. -/
def fnRiscvJumpWrong : ChangeSpec := { name := "fnRiscvJump", fn := fun _ => fun
  | [d1, d2, d3, d4] => { results := [.lit (.bool false)], args := [d1, d2, d3, d4] }
  | _ => none }
def FnRiscvJumpWrongFalsely : Prop := fnRiscvJumpRow.holds Try.pinned (OpenSpec.ofChange fnRiscvJumpWrong)

/-- 'laws.FnRiscvPair': WHATEVER THE INPUT: true; the input reads as it did. -/
def fnRiscvPairSpec : ChangeSpec := { name := "fnRiscvPair", fn := fun _ => fun
  | [d1, d2, d3, d4, d5, d6] => { results := [.lit (.bool true)], args := [d1, d2, d3, d4, d5, d6] }
  | _ => none }
def fnRiscvPairRow : OpenClaim := { program := "ytijikeoehbllcaa", sum := "b2234c9df2a728519c7c74898ff25913e6d45c2673477fe86c941c6dfab10037", func := "loop.example/pub-g03245/laws.FnRiscvPair", spec := "fnRiscvPair", apart := false }
def FnRiscvPairSaid : Prop := fnRiscvPairRow.holds Try.pinned (OpenSpec.ofChange fnRiscvPairSpec)

/-- ITS FALSE NEIGHBOUR: 'it returns false'. Refute it at one input. -/
def fnRiscvPairWrong : ChangeSpec := { name := "fnRiscvPair", fn := fun _ => fun
  | [d1, d2, d3, d4, d5, d6] => { results := [.lit (.bool false)], args := [d1, d2, d3, d4, d5, d6] }
  | _ => none }
def FnRiscvPairWrongFalsely : Prop := fnRiscvPairRow.holds Try.pinned (OpenSpec.ofChange fnRiscvPairWrong)

/-- 'laws.FnRiscvShort': WHATEVER THE INPUT: true; the input reads as it did. -/
def fnRiscvShortSpec : ChangeSpec := { name := "fnRiscvShort", fn := fun _ => fun
  | [d1, d2, d3, d4, d5] => { results := [.lit (.bool true)], args := [d1, d2, d3, d4, d5] }
  | _ => none }
def fnRiscvShortRow : OpenClaim := { program := "ytijikeoehbllcaa", sum := "b2234c9df2a728519c7c74898ff25913e6d45c2673477fe86c941c6dfab10037", func := "loop.example/pub-g03245/laws.FnRiscvShort", spec := "fnRiscvShort", apart := false }
def FnRiscvShortSaid : Prop := fnRiscvShortRow.holds Try.pinned (OpenSpec.ofChange fnRiscvShortSpec)

/-- ITS FALSE NEIGHBOUR: 'it returns false'. Refute it at one input. -/
def fnRiscvShortWrong : ChangeSpec := { name := "fnRiscvShort", fn := fun _ => fun
  | [d1, d2, d3, d4, d5] => { results := [.lit (.bool false)], args := [d1, d2, d3, d4, d5] }
  | _ => none }
def FnRiscvShortWrongFalsely : Prop := fnRiscvShortRow.holds Try.pinned (OpenSpec.ofChange fnRiscvShortWrong)

/-- 'laws.FnRiscvBranch': WHATEVER THE INPUT: true; the input reads as it did. -/
def fnRiscvBranchSpec : ChangeSpec := { name := "fnRiscvBranch", fn := fun _ => fun
  | [d1, d2, d3, d4] => { results := [.lit (.bool true)], args := [d1, d2, d3, d4] }
  | _ => none }
def fnRiscvBranchRow : OpenClaim := { program := "ytijikeoehbllcaa", sum := "b2234c9df2a728519c7c74898ff25913e6d45c2673477fe86c941c6dfab10037", func := "loop.example/pub-g03245/laws.FnRiscvBranch", spec := "fnRiscvBranch", apart := false }
def FnRiscvBranchSaid : Prop := fnRiscvBranchRow.holds Try.pinned (OpenSpec.ofChange fnRiscvBranchSpec)

/-- ITS FALSE NEIGHBOUR: 'it returns false'. Refute it at one input. -/
def fnRiscvBranchWrong : ChangeSpec := { name := "fnRiscvBranch", fn := fun _ => fun
  | [d1, d2, d3, d4] => { results := [.lit (.bool false)], args := [d1, d2, d3, d4] }
  | _ => none }
def FnRiscvBranchWrongFalsely : Prop := fnRiscvBranchRow.holds Try.pinned (OpenSpec.ofChange fnRiscvBranchWrong)

/-- 'laws.FnRiscvHalves': WHATEVER THE INPUT: true; the input reads as it did. -/
def fnRiscvHalvesSpec : ChangeSpec := { name := "fnRiscvHalves", fn := fun _ => fun
  | [d1, d2, d3, d4, d5, d6] => { results := [.lit (.bool true)], args := [d1, d2, d3, d4, d5, d6] }
  | _ => none }
def fnRiscvHalvesRow : OpenClaim := { program := "ytijikeoehbllcaa", sum := "b2234c9df2a728519c7c74898ff25913e6d45c2673477fe86c941c6dfab10037", func := "loop.example/pub-g03245/laws.FnRiscvHalves", spec := "fnRiscvHalves", apart := false }
def FnRiscvHalvesSaid : Prop := fnRiscvHalvesRow.holds Try.pinned (OpenSpec.ofChange fnRiscvHalvesSpec)

/-- ITS FALSE NEIGHBOUR: 'it returns false'. Refute it at one input. -/
def fnRiscvHalvesWrong : ChangeSpec := { name := "fnRiscvHalves", fn := fun _ => fun
  | [d1, d2, d3, d4, d5, d6] => { results := [.lit (.bool false)], args := [d1, d2, d3, d4, d5, d6] }
  | _ => none }
def FnRiscvHalvesWrongFalsely : Prop := fnRiscvHalvesRow.holds Try.pinned (OpenSpec.ofChange fnRiscvHalvesWrong)

/-- 'laws.FnArmCall': WHATEVER THE INPUT: true; the input reads as it did. -/
def fnArmCallSpec : ChangeSpec := { name := "fnArmCall", fn := fun _ => fun
  | [d1, d2, d3] => { results := [.lit (.bool true)], args := [d1, d2, d3] }
  | _ => none }
def fnArmCallRow : OpenClaim := { program := "ytijikeoehbllcaa", sum := "b2234c9df2a728519c7c74898ff25913e6d45c2673477fe86c941c6dfab10037", func := "loop.example/pub-g03245/laws.FnArmCall", spec := "fnArmCall", apart := false }
def FnArmCallSaid : Prop := fnArmCallRow.holds Try.pinned (OpenSpec.ofChange fnArmCallSpec)

/-- ITS FALSE NEIGHBOUR: 'it returns false'. Refute it at one input. -/
def fnArmCallWrong : ChangeSpec := { name := "fnArmCall", fn := fun _ => fun
  | [d1, d2, d3] => { results := [.lit (.bool false)], args := [d1, d2, d3] }
  | _ => none }
def FnArmCallWrongFalsely : Prop := fnArmCallRow.holds Try.pinned (OpenSpec.ofChange fnArmCallWrong)

/-- 'laws.FnMipsCall': WHATEVER THE INPUT: true; the input reads as it did. -/
def fnMipsCallSpec : ChangeSpec := { name := "fnMipsCall", fn := fun _ => fun
  | [d1, d2, d3, d4] => { results := [.lit (.bool true)], args := [d1, d2, d3, d4] }
  | _ => none }
def fnMipsCallRow : OpenClaim := { program := "ytijikeoehbllcaa", sum := "b2234c9df2a728519c7c74898ff25913e6d45c2673477fe86c941c6dfab10037", func := "loop.example/pub-g03245/laws.FnMipsCall", spec := "fnMipsCall", apart := false }
def FnMipsCallSaid : Prop := fnMipsCallRow.holds Try.pinned (OpenSpec.ofChange fnMipsCallSpec)

/-- ITS FALSE NEIGHBOUR: 'it returns false'. Refute it at one input. -/
def fnMipsCallWrong : ChangeSpec := { name := "fnMipsCall", fn := fun _ => fun
  | [d1, d2, d3, d4] => { results := [.lit (.bool false)], args := [d1, d2, d3, d4] }
  | _ => none }
def FnMipsCallWrongFalsely : Prop := fnMipsCallRow.holds Try.pinned (OpenSpec.ofChange fnMipsCallWrong)

/-- 'laws.FnMipsHalves': WHATEVER THE INPUT: true; the input reads as it did. -/
def fnMipsHalvesSpec : ChangeSpec := { name := "fnMipsHalves", fn := fun _ => fun
  | [d1, d2, d3, d4, d5] => { results := [.lit (.bool true)], args := [d1, d2, d3, d4, d5] }
  | _ => none }
def fnMipsHalvesRow : OpenClaim := { program := "ytijikeoehbllcaa", sum := "b2234c9df2a728519c7c74898ff25913e6d45c2673477fe86c941c6dfab10037", func := "loop.example/pub-g03245/laws.FnMipsHalves", spec := "fnMipsHalves", unfollowed := true, recurses := true, apart := false }
def FnMipsHalvesSaid : Prop := fnMipsHalvesRow.holds Try.pinned (OpenSpec.ofChange fnMipsHalvesSpec)

/-- ITS FALSE NEIGHBOUR: 'it returns false'. Refute it at one input. -/
def fnMipsHalvesWrong : ChangeSpec := { name := "fnMipsHalves", fn := fun _ => fun
  | [d1, d2, d3, d4, d5] => { results := [.lit (.bool false)], args := [d1, d2, d3, d4, d5] }
  | _ => none }
def FnMipsHalvesWrongFalsely : Prop := fnMipsHalvesRow.holds Try.pinned (OpenSpec.ofChange fnMipsHalvesWrong)

/-- 'laws.FnPowerVariant': WHATEVER THE INPUT: true; the input reads as it did. -/
def fnPowerVariantSpec : ChangeSpec := { name := "fnPowerVariant", fn := fun _ => fun
  | [d1, d2, d3] => { results := [.lit (.bool true)], args := [d1, d2, d3] }
  | _ => none }
def fnPowerVariantRow : OpenClaim := { program := "ytijikeoehbllcaa", sum := "b2234c9df2a728519c7c74898ff25913e6d45c2673477fe86c941c6dfab10037", func := "loop.example/pub-g03245/laws.FnPowerVariant", spec := "fnPowerVariant", apart := false }
def FnPowerVariantSaid : Prop := fnPowerVariantRow.holds Try.pinned (OpenSpec.ofChange fnPowerVariantSpec)

/-- ITS FALSE NEIGHBOUR: 'it returns false'. Refute it at one input. -/
def fnPowerVariantWrong : ChangeSpec := { name := "fnPowerVariant", fn := fun _ => fun
  | [d1, d2, d3] => { results := [.lit (.bool false)], args := [d1, d2, d3] }
  | _ => none }
def FnPowerVariantWrongFalsely : Prop := fnPowerVariantRow.holds Try.pinned (OpenSpec.ofChange fnPowerVariantWrong)

/- THE SECOND FORM. 'bulk': how many values and letters a reading holds, each counted each time it is reached (what is shared counts as often as it is met; a slice's spare places count too). A statement '..UptoSaid' is the law's where the arguments, and the package variables that the reading takes, are together of bulk at most 1048576: NARROWER than '..Said'. Prove '..Said' where nothing that the law and all that it calls make is longer than what came in: it says more and counts as full. Else prove '..UptoSaid'. A law counts once. -/
mutual
def uptoBulk {H : Type} : DataW H → Nat
  | .lit (.string bytes) => bytes.length + 1
  | .lit _ => 1
  | .nil => 1
  | .ptr d => uptoBulk d + 1
  | .slice elems spare => uptoBulkAll elems + uptoBulkAll spare + 1
  | .agg parts => uptoBulkAll parts + 1
  | .iface _ d => uptoBulk d + 1
  | .map entries => uptoBulkEntries entries + 1
  | .held _ => 1
def uptoBulkAll {H : Type} : List (DataW H) → Nat
  | [] => 0
  | d :: r => uptoBulk d + uptoBulkAll r
def uptoBulkEntries {H : Type} : List (Lit × DataW H) → Nat
  | [] => 0
  | x :: r => uptoBulkEntry x + uptoBulkEntries r
def uptoBulkEntry {H : Type} : Lit × DataW H → Nat
  | (.string bytes, d) => bytes.length + uptoBulk d + 1
  | (_, d) => uptoBulk d + 1
 end
def uptoSmall : (H : Type) → List (DataW H) → Bool := fun _ ds => decide (uptoBulkAll ds ≤ 1048576)
def OpenSpec.upto (s : _root_.Go.ChangeSpec) : _root_.Go.OpenSpec := { _root_.Go.OpenSpec.ofChange s with cond := some uptoSmall }

/-- 'laws.FnRiscvJump', WHERE WHAT IT READS IS OF BULK AT MOST 1048576: true; the input reads as it did. -/
def fnRiscvJumpUptoRow : OpenClaim := { program := "ytijikeoehbllcaa", sum := "b2234c9df2a728519c7c74898ff25913e6d45c2673477fe86c941c6dfab10037", func := "loop.example/pub-g03245/laws.FnRiscvJump", spec := "fnRiscvJump", apart := false, narrowed := true }
def FnRiscvJumpUptoSaid : Prop := fnRiscvJumpUptoRow.holds Try.pinned (OpenSpec.upto fnRiscvJumpSpec)

/-- 'laws.FnRiscvPair', WHERE WHAT IT READS IS OF BULK AT MOST 1048576: true; the input reads as it did. -/
def fnRiscvPairUptoRow : OpenClaim := { program := "ytijikeoehbllcaa", sum := "b2234c9df2a728519c7c74898ff25913e6d45c2673477fe86c941c6dfab10037", func := "loop.example/pub-g03245/laws.FnRiscvPair", spec := "fnRiscvPair", apart := false, narrowed := true }
def FnRiscvPairUptoSaid : Prop := fnRiscvPairUptoRow.holds Try.pinned (OpenSpec.upto fnRiscvPairSpec)

/-- 'laws.FnRiscvShort', WHERE WHAT IT READS IS OF BULK AT MOST 1048576: true; the input reads as it did. -/
def fnRiscvShortUptoRow : OpenClaim := { program := "ytijikeoehbllcaa", sum := "b2234c9df2a728519c7c74898ff25913e6d45c2673477fe86c941c6dfab10037", func := "loop.example/pub-g03245/laws.FnRiscvShort", spec := "fnRiscvShort", apart := false, narrowed := true }
def FnRiscvShortUptoSaid : Prop := fnRiscvShortUptoRow.holds Try.pinned (OpenSpec.upto fnRiscvShortSpec)

/-- 'laws.FnRiscvBranch', WHERE WHAT IT READS IS OF BULK AT MOST 1048576: true; the input reads as it did. -/
def fnRiscvBranchUptoRow : OpenClaim := { program := "ytijikeoehbllcaa", sum := "b2234c9df2a728519c7c74898ff25913e6d45c2673477fe86c941c6dfab10037", func := "loop.example/pub-g03245/laws.FnRiscvBranch", spec := "fnRiscvBranch", apart := false, narrowed := true }
def FnRiscvBranchUptoSaid : Prop := fnRiscvBranchUptoRow.holds Try.pinned (OpenSpec.upto fnRiscvBranchSpec)

/-- 'laws.FnRiscvHalves', WHERE WHAT IT READS IS OF BULK AT MOST 1048576: true; the input reads as it did. -/
def fnRiscvHalvesUptoRow : OpenClaim := { program := "ytijikeoehbllcaa", sum := "b2234c9df2a728519c7c74898ff25913e6d45c2673477fe86c941c6dfab10037", func := "loop.example/pub-g03245/laws.FnRiscvHalves", spec := "fnRiscvHalves", apart := false, narrowed := true }
def FnRiscvHalvesUptoSaid : Prop := fnRiscvHalvesUptoRow.holds Try.pinned (OpenSpec.upto fnRiscvHalvesSpec)

/-- 'laws.FnArmCall', WHERE WHAT IT READS IS OF BULK AT MOST 1048576: true; the input reads as it did. -/
def fnArmCallUptoRow : OpenClaim := { program := "ytijikeoehbllcaa", sum := "b2234c9df2a728519c7c74898ff25913e6d45c2673477fe86c941c6dfab10037", func := "loop.example/pub-g03245/laws.FnArmCall", spec := "fnArmCall", apart := false, narrowed := true }
def FnArmCallUptoSaid : Prop := fnArmCallUptoRow.holds Try.pinned (OpenSpec.upto fnArmCallSpec)

/-- 'laws.FnMipsCall', WHERE WHAT IT READS IS OF BULK AT MOST 1048576: true; the input reads as it did. -/
def fnMipsCallUptoRow : OpenClaim := { program := "ytijikeoehbllcaa", sum := "b2234c9df2a728519c7c74898ff25913e6d45c2673477fe86c941c6dfab10037", func := "loop.example/pub-g03245/laws.FnMipsCall", spec := "fnMipsCall", apart := false, narrowed := true }
def FnMipsCallUptoSaid : Prop := fnMipsCallUptoRow.holds Try.pinned (OpenSpec.upto fnMipsCallSpec)

/-- 'laws.FnMipsHalves', WHERE WHAT IT READS IS OF BULK AT MOST 1048576: true; the input reads as it did. -/
def fnMipsHalvesUptoRow : OpenClaim := { program := "ytijikeoehbllcaa", sum := "b2234c9df2a728519c7c74898ff25913e6d45c2673477fe86c941c6dfab10037", func := "loop.example/pub-g03245/laws.FnMipsHalves", spec := "fnMipsHalves", unfollowed := true, recurses := true, apart := false, narrowed := true }
def FnMipsHalvesUptoSaid : Prop := fnMipsHalvesUptoRow.holds Try.pinned (OpenSpec.upto fnMipsHalvesSpec)

/-- 'laws.FnPowerVariant', WHERE WHAT IT READS IS OF BULK AT MOST 1048576: true; the input reads as it did. -/
def fnPowerVariantUptoRow : OpenClaim := { program := "ytijikeoehbllcaa", sum := "b2234c9df2a728519c7c74898ff25913e6d45c2673477fe86c941c6dfab10037", func := "loop.example/pub-g03245/laws.FnPowerVariant", spec := "fnPowerVariant", apart := false, narrowed := true }
def FnPowerVariantUptoSaid : Prop := fnPowerVariantUptoRow.holds Try.pinned (OpenSpec.upto fnPowerVariantSpec)

end Rows
end Go.Proofs.Ytijikeoehbllcaa
