/-
  No cell of these rows narrows 'for every input' (looked for: loops, veiled, ifaces, maps, wideKeys, modest, calm, conditions, laid).
  DERIVED. THE GIVEN ROWS OF THIS SEAT. 9 by the template 'for every input the law returns true; each argument reads behind the call as it read before'; 0 by the template 'total and deterministic' (their statements: YtcchhdjpmnhfmaaTotals.lean).
  GIVEN WITH THE SEED: the statements are not yours to turn. If you find one false, say at which input.
  Laid BY PROGRAM, IN A SANDBOX (cutbox-rows.mjs): the forced cells as the released guide's own fill.sh prints them over the translation 0fdc351bf248681b… (all of the seat's roots in one cut). By AI agents, Wed Nov 11 2026. No macro, syntax, notation, axiom, sorry.
-/
import Derived.Test.YtcchhdjpmnhfmaaChecked
import GoSem.Claim
import GoSem.ClaimJoined
import GoSem.ClaimMapViews
import Derived.JoinedTies
import Derived.KernelRfl
namespace Go.Proofs.Ytcchhdjpmnhfmaa
/- THE CELL 'sum', in the pinned program and in every row, IS THE sha256 OF THE DUMP (.gsa) THAT YtcchhdjpmnhfmaaProg.lean LOADS. Nothing in Lean hashes anything: it is a label: what it is worth is what the hold of that sum in a sandbox is worth. -/
noncomputable def Try.pinned : Pinned := { name := "ytcchhdjpmnhfmaa", sum := "0fdc351bf248681bb13b971e2d86752a3a2e459e278e9e5e6b9863066f7a2697", checked := Try.checked }
namespace Rows
def none {H : Type} : Left H := { results := [], args := [] }

/-- 'laws.FnLoongBranch': WHATEVER THE INPUT: true; the input reads as it did. -/
def fnLoongBranchSpec : ChangeSpec := { name := "fnLoongBranch", fn := fun _ => fun
  | [d1, d2, d3, d4, d5] => { results := [.lit (.bool true)], args := [d1, d2, d3, d4, d5] }
  | _ => none }
def fnLoongBranchRow : OpenClaim := { program := "ytcchhdjpmnhfmaa", sum := "0fdc351bf248681bb13b971e2d86752a3a2e459e278e9e5e6b9863066f7a2697", func := "loop.example/pub-g03245/laws.FnLoongBranch", spec := "fnLoongBranch", apart := false }
def FnLoongBranchSaid : Prop := fnLoongBranchRow.holds Try.pinned (OpenSpec.ofChange fnLoongBranchSpec)

/-- ITS FALSE NEIGHBOUR: 'it returns false'. Refute it at one input. -/
def fnLoongBranchWrong : ChangeSpec := { name := "fnLoongBranch", fn := fun _ => fun
  | [d1, d2, d3, d4, d5] => { results := [.lit (.bool false)], args := [d1, d2, d3, d4, d5] }
  | _ => none }
def FnLoongBranchWrongFalsely : Prop := fnLoongBranchRow.holds Try.pinned (OpenSpec.ofChange fnLoongBranchWrong)

/-- 'laws.FnLoongFar': WHATEVER THE INPUT: true; the input reads as it did. -/
def fnLoongFarSpec : ChangeSpec := { name := "fnLoongFar", fn := fun _ => fun
  | [d1, d2, d3] => { results := [.lit (.bool true)], args := [d1, d2, d3] }
  | _ => none }
def fnLoongFarRow : OpenClaim := { program := "ytcchhdjpmnhfmaa", sum := "0fdc351bf248681bb13b971e2d86752a3a2e459e278e9e5e6b9863066f7a2697", func := "loop.example/pub-g03245/laws.FnLoongFar", spec := "fnLoongFar", apart := false }
def FnLoongFarSaid : Prop := fnLoongFarRow.holds Try.pinned (OpenSpec.ofChange fnLoongFarSpec)

/-- ITS FALSE NEIGHBOUR: 'it returns false'. Refute it at one input. -/
def fnLoongFarWrong : ChangeSpec := { name := "fnLoongFar", fn := fun _ => fun
  | [d1, d2, d3] => { results := [.lit (.bool false)], args := [d1, d2, d3] }
  | _ => none }
def FnLoongFarWrongFalsely : Prop := fnLoongFarRow.holds Try.pinned (OpenSpec.ofChange fnLoongFarWrong)

/-- 'laws.FnLoongNear': WHATEVER THE INPUT: true; the input reads as it did. -/
def fnLoongNearSpec : ChangeSpec := { name := "fnLoongNear", fn := fun _ => fun
  | [d1, d2, d3] => { results := [.lit (.bool true)], args := [d1, d2, d3] }
  | _ => none }
def fnLoongNearRow : OpenClaim := { program := "ytcchhdjpmnhfmaa", sum := "0fdc351bf248681bb13b971e2d86752a3a2e459e278e9e5e6b9863066f7a2697", func := "loop.example/pub-g03245/laws.FnLoongNear", spec := "fnLoongNear", apart := false }
def FnLoongNearSaid : Prop := fnLoongNearRow.holds Try.pinned (OpenSpec.ofChange fnLoongNearSpec)

/-- ITS FALSE NEIGHBOUR: 'it returns false'. Refute it at one input. -/
def fnLoongNearWrong : ChangeSpec := { name := "fnLoongNear", fn := fun _ => fun
  | [d1, d2, d3] => { results := [.lit (.bool false)], args := [d1, d2, d3] }
  | _ => none }
def FnLoongNearWrongFalsely : Prop := fnLoongNearRow.holds Try.pinned (OpenSpec.ofChange fnLoongNearWrong)

/-- 'laws.FnLoongPage': WHATEVER THE INPUT: true; the input reads as it did. -/
def fnLoongPageSpec : ChangeSpec := { name := "fnLoongPage", fn := fun _ => fun
  | [d1, d2, d3] => { results := [.lit (.bool true)], args := [d1, d2, d3] }
  | _ => none }
def fnLoongPageRow : OpenClaim := { program := "ytcchhdjpmnhfmaa", sum := "0fdc351bf248681bb13b971e2d86752a3a2e459e278e9e5e6b9863066f7a2697", func := "loop.example/pub-g03245/laws.FnLoongPage", spec := "fnLoongPage", apart := false }
def FnLoongPageSaid : Prop := fnLoongPageRow.holds Try.pinned (OpenSpec.ofChange fnLoongPageSpec)

/-- ITS FALSE NEIGHBOUR: 'it returns false'. Refute it at one input. -/
def fnLoongPageWrong : ChangeSpec := { name := "fnLoongPage", fn := fun _ => fun
  | [d1, d2, d3] => { results := [.lit (.bool false)], args := [d1, d2, d3] }
  | _ => none }
def FnLoongPageWrongFalsely : Prop := fnLoongPageRow.holds Try.pinned (OpenSpec.ofChange fnLoongPageWrong)

/-- 'laws.FnPowerCall': WHATEVER THE INPUT: true; the input reads as it did. -/
def fnPowerCallSpec : ChangeSpec := { name := "fnPowerCall", fn := fun _ => fun
  | [d1, d2, d3, d4] => { results := [.lit (.bool true)], args := [d1, d2, d3, d4] }
  | _ => none }
def fnPowerCallRow : OpenClaim := { program := "ytcchhdjpmnhfmaa", sum := "0fdc351bf248681bb13b971e2d86752a3a2e459e278e9e5e6b9863066f7a2697", func := "loop.example/pub-g03245/laws.FnPowerCall", spec := "fnPowerCall", apart := false }
def FnPowerCallSaid : Prop := fnPowerCallRow.holds Try.pinned (OpenSpec.ofChange fnPowerCallSpec)

/-- ITS FALSE NEIGHBOUR: 'it returns false'. Refute it at one input. -/
def fnPowerCallWrong : ChangeSpec := { name := "fnPowerCall", fn := fun _ => fun
  | [d1, d2, d3, d4] => { results := [.lit (.bool false)], args := [d1, d2, d3, d4] }
  | _ => none }
def FnPowerCallWrongFalsely : Prop := fnPowerCallRow.holds Try.pinned (OpenSpec.ofChange fnPowerCallWrong)

/-- 'laws.FnPowerAddress': WHATEVER THE INPUT: true; the input reads as it did. -/
def fnPowerAddressSpec : ChangeSpec := { name := "fnPowerAddress", fn := fun _ => fun
  | [d1, d2, d3, d4, d5, d6, d7, d8] => { results := [.lit (.bool true)], args := [d1, d2, d3, d4, d5, d6, d7, d8] }
  | _ => none }
def fnPowerAddressRow : OpenClaim := { program := "ytcchhdjpmnhfmaa", sum := "0fdc351bf248681bb13b971e2d86752a3a2e459e278e9e5e6b9863066f7a2697", func := "loop.example/pub-g03245/laws.FnPowerAddress", spec := "fnPowerAddress", apart := false }
def FnPowerAddressSaid : Prop := fnPowerAddressRow.holds Try.pinned (OpenSpec.ofChange fnPowerAddressSpec)

/-- ITS FALSE NEIGHBOUR: 'it returns false'. Refute it at one input. -/
def fnPowerAddressWrong : ChangeSpec := { name := "fnPowerAddress", fn := fun _ => fun
  | [d1, d2, d3, d4, d5, d6, d7, d8] => { results := [.lit (.bool false)], args := [d1, d2, d3, d4, d5, d6, d7, d8] }
  | _ => none }
def FnPowerAddressWrongFalsely : Prop := fnPowerAddressRow.holds Try.pinned (OpenSpec.ofChange fnPowerAddressWrong)

/-- 'laws.FnArm64Call': WHATEVER THE INPUT: true; the input reads as it did. -/
def fnArm64CallSpec : ChangeSpec := { name := "fnArm64Call", fn := fun _ => fun
  | [d1, d2, d3, d4] => { results := [.lit (.bool true)], args := [d1, d2, d3, d4] }
  | _ => none }
def fnArm64CallRow : OpenClaim := { program := "ytcchhdjpmnhfmaa", sum := "0fdc351bf248681bb13b971e2d86752a3a2e459e278e9e5e6b9863066f7a2697", func := "loop.example/pub-g03245/laws.FnArm64Call", spec := "fnArm64Call", apart := false }
def FnArm64CallSaid : Prop := fnArm64CallRow.holds Try.pinned (OpenSpec.ofChange fnArm64CallSpec)

/-- ITS FALSE NEIGHBOUR: 'it returns false'. Refute it at one input. -/
def fnArm64CallWrong : ChangeSpec := { name := "fnArm64Call", fn := fun _ => fun
  | [d1, d2, d3, d4] => { results := [.lit (.bool false)], args := [d1, d2, d3, d4] }
  | _ => none }
def FnArm64CallWrongFalsely : Prop := fnArm64CallRow.holds Try.pinned (OpenSpec.ofChange fnArm64CallWrong)

/-- 'laws.FnArm64Address': WHATEVER THE INPUT: true; the input reads as it did. -/
def fnArm64AddressSpec : ChangeSpec := { name := "fnArm64Address", fn := fun _ => fun
  | [d1, d2, d3, d4, d5, d6] => { results := [.lit (.bool true)], args := [d1, d2, d3, d4, d5, d6] }
  | _ => none }
def fnArm64AddressRow : OpenClaim := { program := "ytcchhdjpmnhfmaa", sum := "0fdc351bf248681bb13b971e2d86752a3a2e459e278e9e5e6b9863066f7a2697", func := "loop.example/pub-g03245/laws.FnArm64Address", spec := "fnArm64Address", apart := false }
def FnArm64AddressSaid : Prop := fnArm64AddressRow.holds Try.pinned (OpenSpec.ofChange fnArm64AddressSpec)

/-- ITS FALSE NEIGHBOUR: 'it returns false'. Refute it at one input. -/
def fnArm64AddressWrong : ChangeSpec := { name := "fnArm64Address", fn := fun _ => fun
  | [d1, d2, d3, d4, d5, d6] => { results := [.lit (.bool false)], args := [d1, d2, d3, d4, d5, d6] }
  | _ => none }
def FnArm64AddressWrongFalsely : Prop := fnArm64AddressRow.holds Try.pinned (OpenSpec.ofChange fnArm64AddressWrong)

/-- 'laws.FnArm64Load': WHATEVER THE INPUT: true; the input reads as it did. -/
def fnArm64LoadSpec : ChangeSpec := { name := "fnArm64Load", fn := fun _ => fun
  | [d1, d2, d3, d4, d5, d6] => { results := [.lit (.bool true)], args := [d1, d2, d3, d4, d5, d6] }
  | _ => none }
def fnArm64LoadRow : OpenClaim := { program := "ytcchhdjpmnhfmaa", sum := "0fdc351bf248681bb13b971e2d86752a3a2e459e278e9e5e6b9863066f7a2697", func := "loop.example/pub-g03245/laws.FnArm64Load", spec := "fnArm64Load", apart := false }
def FnArm64LoadSaid : Prop := fnArm64LoadRow.holds Try.pinned (OpenSpec.ofChange fnArm64LoadSpec)

/-- ITS FALSE NEIGHBOUR: 'it returns false'. Refute it at one input. -/
def fnArm64LoadWrong : ChangeSpec := { name := "fnArm64Load", fn := fun _ => fun
  | [d1, d2, d3, d4, d5, d6] => { results := [.lit (.bool false)], args := [d1, d2, d3, d4, d5, d6] }
  | _ => none }
def FnArm64LoadWrongFalsely : Prop := fnArm64LoadRow.holds Try.pinned (OpenSpec.ofChange fnArm64LoadWrong)

/- THE SECOND FORM. 'bulk': how many values and letters a reading holds, each counted each time it is reached (what is shared counts as often as it is met; a slice's spare places count too). A statement '..UptoSaid' is the law's where the arguments, and the package variables that the reading takes, are together of bulk at most 1048576: NARROWER than '..Said'. Prove '..Said' where nothing that the law and all that it calls make is longer than what came in: it says more and counts as full. Else prove '..UptoSaid'. A law counts once. -/
mutual
def uptoBulk {H : Type} : DataW H → Nat
  | .lit (.string bytes) => bytes.length + 1
  | .lit _ => 1
  | .nil => 1
  | .ptr d => uptoBulk d + 1
  | .slice elems spare => uptoBulkAll elems + uptoBulkAll spare + 1
  | .agg parts => uptoBulkAll parts + 1
  | .iface _ d => uptoBulk d + 1
  | .map entries => uptoBulkEntries entries + 1
  | .held _ => 1
def uptoBulkAll {H : Type} : List (DataW H) → Nat
  | [] => 0
  | d :: r => uptoBulk d + uptoBulkAll r
def uptoBulkEntries {H : Type} : List (Lit × DataW H) → Nat
  | [] => 0
  | x :: r => uptoBulkEntry x + uptoBulkEntries r
def uptoBulkEntry {H : Type} : Lit × DataW H → Nat
  | (.string bytes, d) => bytes.length + uptoBulk d + 1
  | (_, d) => uptoBulk d + 1
 end
def uptoSmall : (H : Type) → List (DataW H) → Bool := fun _ ds => decide (uptoBulkAll ds ≤ 1048576)
def OpenSpec.upto (s : _root_.Go.ChangeSpec) : _root_.Go.OpenSpec := { _root_.Go.OpenSpec.ofChange s with cond := some uptoSmall }

/-- 'laws.FnLoongBranch', WHERE WHAT IT READS IS OF BULK AT MOST 1048576: true; the input reads as it did. -/
def fnLoongBranchUptoRow : OpenClaim := { program := "ytcchhdjpmnhfmaa", sum := "0fdc351bf248681bb13b971e2d86752a3a2e459e278e9e5e6b9863066f7a2697", func := "loop.example/pub-g03245/laws.FnLoongBranch", spec := "fnLoongBranch", apart := false, narrowed := true }
def FnLoongBranchUptoSaid : Prop := fnLoongBranchUptoRow.holds Try.pinned (OpenSpec.upto fnLoongBranchSpec)

/-- 'laws.FnLoongFar', WHERE WHAT IT READS IS OF BULK AT MOST 1048576: true; the input reads as it did. -/
def fnLoongFarUptoRow : OpenClaim := { program := "ytcchhdjpmnhfmaa", sum := "0fdc351bf248681bb13b971e2d86752a3a2e459e278e9e5e6b9863066f7a2697", func := "loop.example/pub-g03245/laws.FnLoongFar", spec := "fnLoongFar", apart := false, narrowed := true }
def FnLoongFarUptoSaid : Prop := fnLoongFarUptoRow.holds Try.pinned (OpenSpec.upto fnLoongFarSpec)

/-- 'laws.FnLoongNear', WHERE WHAT IT READS IS OF BULK AT MOST 1048576: true; the input reads as it did. -/
def fnLoongNearUptoRow : OpenClaim := { program := "ytcchhdjpmnhfmaa", sum := "0fdc351bf248681bb13b971e2d86752a3a2e459e278e9e5e6b9863066f7a2697", func := "loop.example/pub-g03245/laws.FnLoongNear", spec := "fnLoongNear", apart := false, narrowed := true }
def FnLoongNearUptoSaid : Prop := fnLoongNearUptoRow.holds Try.pinned (OpenSpec.upto fnLoongNearSpec)

/-- 'laws.FnLoongPage', WHERE WHAT IT READS IS OF BULK AT MOST 1048576: true; the input reads as it did. -/
def fnLoongPageUptoRow : OpenClaim := { program := "ytcchhdjpmnhfmaa", sum := "0fdc351bf248681bb13b971e2d86752a3a2e459e278e9e5e6b9863066f7a2697", func := "loop.example/pub-g03245/laws.FnLoongPage", spec := "fnLoongPage", apart := false, narrowed := true }
def FnLoongPageUptoSaid : Prop := fnLoongPageUptoRow.holds Try.pinned (OpenSpec.upto fnLoongPageSpec)

/-- 'laws.FnPowerCall', WHERE WHAT IT READS IS OF BULK AT MOST 1048576: true; the input reads as it did. -/
def fnPowerCallUptoRow : OpenClaim := { program := "ytcchhdjpmnhfmaa", sum := "0fdc351bf248681bb13b971e2d86752a3a2e459e278e9e5e6b9863066f7a2697", func := "loop.example/pub-g03245/laws.FnPowerCall", spec := "fnPowerCall", apart := false, narrowed := true }
def FnPowerCallUptoSaid : Prop := fnPowerCallUptoRow.holds Try.pinned (OpenSpec.upto fnPowerCallSpec)

/-- 'laws.FnPowerAddress', WHERE WHAT IT READS IS OF BULK AT MOST 1048576: true; the input reads as it did. -/
def fnPowerAddressUptoRow : OpenClaim := { program := "ytcchhdjpmnhfmaa", sum := "0fdc351bf248681bb13b971e2d86752a3a2e459e278e9e5e6b9863066f7a2697", func := "loop.example/pub-g03245/laws.FnPowerAddress", spec := "fnPowerAddress", apart := false, narrowed := true }
def FnPowerAddressUptoSaid : Prop := fnPowerAddressUptoRow.holds Try.pinned (OpenSpec.upto fnPowerAddressSpec)

/-- 'laws.FnArm64Call', WHERE WHAT IT READS IS OF BULK AT MOST 1048576: true; the input reads as it did. -/
def fnArm64CallUptoRow : OpenClaim := { program := "ytcchhdjpmnhfmaa", sum := "0fdc351bf248681bb13b971e2d86752a3a2e459e278e9e5e6b9863066f7a2697", func := "loop.example/pub-g03245/laws.FnArm64Call", spec := "fnArm64Call", apart := false, narrowed := true }
def FnArm64CallUptoSaid : Prop := fnArm64CallUptoRow.holds Try.pinned (OpenSpec.upto fnArm64CallSpec)

/-- 'laws.FnArm64Address', WHERE WHAT IT READS IS OF BULK AT MOST 1048576: true; the input reads as it did. -/
def fnArm64AddressUptoRow : OpenClaim := { program := "ytcchhdjpmnhfmaa", sum := "0fdc351bf248681bb13b971e2d86752a3a2e459e278e9e5e6b9863066f7a2697", func := "loop.example/pub-g03245/laws.FnArm64Address", spec := "fnArm64Address", apart := false, narrowed := true }
def FnArm64AddressUptoSaid : Prop := fnArm64AddressUptoRow.holds Try.pinned (OpenSpec.upto fnArm64AddressSpec)

/-- 'laws.FnArm64Load', WHERE WHAT IT READS IS OF BULK AT MOST 1048576: true; the input reads as it did. -/
def fnArm64LoadUptoRow : OpenClaim := { program := "ytcchhdjpmnhfmaa", sum := "0fdc351bf248681bb13b971e2d86752a3a2e459e278e9e5e6b9863066f7a2697", func := "loop.example/pub-g03245/laws.FnArm64Load", spec := "fnArm64Load", apart := false, narrowed := true }
def FnArm64LoadUptoSaid : Prop := fnArm64LoadUptoRow.holds Try.pinned (OpenSpec.upto fnArm64LoadSpec)

end Rows
end Go.Proofs.Ytcchhdjpmnhfmaa
