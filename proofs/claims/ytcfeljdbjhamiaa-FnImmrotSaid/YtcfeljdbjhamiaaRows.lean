/-
  No cell of these rows narrows 'for every input' (looked for: loops, veiled, ifaces, maps, wideKeys, modest, calm, conditions, laid).
  DERIVED. THE GIVEN ROWS OF THIS SEAT. 3 by the template 'for every input the law returns true; each argument reads behind the call as it read before'; 0 by the template 'total and deterministic' (their statements: YtcfeljdbjhamiaaTotals.lean).
  GIVEN WITH THE SEED: the statements are not yours to turn. If you find one false, say at which input.
  Laid BY PROGRAM, IN A SANDBOX (cutbox-rows.mjs): the forced cells as the released guide's own fill.sh prints them over the translation 13eee4faa5ef827e… (all of the seat's roots in one cut). By AI agents, Wed Nov 11 2026. No macro, syntax, notation, axiom, sorry.
-/
import Derived.Test.YtcfeljdbjhamiaaChecked
import GoSem.Claim
import GoSem.ClaimJoined
import GoSem.ClaimMapViews
import Derived.JoinedTies
import Derived.KernelRfl
namespace Go.Proofs.Ytcfeljdbjhamiaa
/- THE CELL 'sum', in the pinned program and in every row, IS THE sha256 OF THE DUMP (.gsa) THAT YtcfeljdbjhamiaaProg.lean LOADS. Nothing in Lean hashes anything: it is a label: what it is worth is what the hold of that sum in a sandbox is worth. -/
noncomputable def Try.pinned : Pinned := { name := "ytcfeljdbjhamiaa", sum := "13eee4faa5ef827ef5e0c481adccb2d1f42a724378a5599b316dcebdf6943112", checked := Try.checked }
namespace Rows
def none {H : Type} : Left H := { results := [], args := [] }

/-- 'laws.FnPrefix34': WHATEVER THE INPUT: true; the input reads as it did. -/
def fnPrefix34Spec : ChangeSpec := { name := "fnPrefix34", fn := fun _ => fun
  | [d] => { results := [.lit (.bool true)], args := [d] }
  | _ => none }
def fnPrefix34Row : OpenClaim := { program := "ytcfeljdbjhamiaa", sum := "13eee4faa5ef827ef5e0c481adccb2d1f42a724378a5599b316dcebdf6943112", func := "loop.example/pub-g03245/laws.FnPrefix34", spec := "fnPrefix34", apart := false }
def FnPrefix34Said : Prop := fnPrefix34Row.holds Try.pinned (OpenSpec.ofChange fnPrefix34Spec)

/-- ITS FALSE NEIGHBOUR: 'it returns false'. Refute it at one input. -/
def fnPrefix34Wrong : ChangeSpec := { name := "fnPrefix34", fn := fun _ => fun
  | [d] => { results := [.lit (.bool false)], args := [d] }
  | _ => none }
def FnPrefix34WrongFalsely : Prop := fnPrefix34Row.holds Try.pinned (OpenSpec.ofChange fnPrefix34Wrong)

/-- 'laws.FnSignext24': WHATEVER THE INPUT: true; the input reads as it did. -/
def fnSignext24Spec : ChangeSpec := { name := "fnSignext24", fn := fun _ => fun
  | [d] => { results := [.lit (.bool true)], args := [d] }
  | _ => none }
def fnSignext24Row : OpenClaim := { program := "ytcfeljdbjhamiaa", sum := "13eee4faa5ef827ef5e0c481adccb2d1f42a724378a5599b316dcebdf6943112", func := "loop.example/pub-g03245/laws.FnSignext24", spec := "fnSignext24", apart := false }
def FnSignext24Said : Prop := fnSignext24Row.holds Try.pinned (OpenSpec.ofChange fnSignext24Spec)

/-- ITS FALSE NEIGHBOUR: 'it returns false'. Refute it at one input. -/
def fnSignext24Wrong : ChangeSpec := { name := "fnSignext24", fn := fun _ => fun
  | [d] => { results := [.lit (.bool false)], args := [d] }
  | _ => none }
def FnSignext24WrongFalsely : Prop := fnSignext24Row.holds Try.pinned (OpenSpec.ofChange fnSignext24Wrong)

/-- 'laws.FnImmrot': WHATEVER THE INPUT: true; the input reads as it did. -/
def fnImmrotSpec : ChangeSpec := { name := "fnImmrot", fn := fun _ => fun
  | [d] => { results := [.lit (.bool true)], args := [d] }
  | _ => none }
def fnImmrotRow : OpenClaim := { program := "ytcfeljdbjhamiaa", sum := "13eee4faa5ef827ef5e0c481adccb2d1f42a724378a5599b316dcebdf6943112", func := "loop.example/pub-g03245/laws.FnImmrot", spec := "fnImmrot", apart := false }
def FnImmrotSaid : Prop := fnImmrotRow.holds Try.pinned (OpenSpec.ofChange fnImmrotSpec)

/-- ITS FALSE NEIGHBOUR: 'it returns false'. Refute it at one input. -/
def fnImmrotWrong : ChangeSpec := { name := "fnImmrot", fn := fun _ => fun
  | [d] => { results := [.lit (.bool false)], args := [d] }
  | _ => none }
def FnImmrotWrongFalsely : Prop := fnImmrotRow.holds Try.pinned (OpenSpec.ofChange fnImmrotWrong)

/- THE SECOND FORM. 'bulk': how many values and letters a reading holds, each counted each time it is reached (what is shared counts as often as it is met; a slice's spare places count too). A statement '..UptoSaid' is the law's where the arguments, and the package variables that the reading takes, are together of bulk at most 1048576: NARROWER than '..Said'. Prove '..Said' where nothing that the law and all that it calls make is longer than what came in: it says more and counts as full. Else prove '..UptoSaid'. A law counts once. -/
mutual
def uptoBulk {H : Type} : DataW H → Nat
  | .lit (.string bytes) => bytes.length + 1
  | .lit _ => 1
  | .nil => 1
  | .ptr d => uptoBulk d + 1
  | .slice elems spare => uptoBulkAll elems + uptoBulkAll spare + 1
  | .agg parts => uptoBulkAll parts + 1
  | .iface _ d => uptoBulk d + 1
  | .map entries => uptoBulkEntries entries + 1
  | .held _ => 1
def uptoBulkAll {H : Type} : List (DataW H) → Nat
  | [] => 0
  | d :: r => uptoBulk d + uptoBulkAll r
def uptoBulkEntries {H : Type} : List (Lit × DataW H) → Nat
  | [] => 0
  | x :: r => uptoBulkEntry x + uptoBulkEntries r
def uptoBulkEntry {H : Type} : Lit × DataW H → Nat
  | (.string bytes, d) => bytes.length + uptoBulk d + 1
  | (_, d) => uptoBulk d + 1
 end
def uptoSmall : (H : Type) → List (DataW H) → Bool := fun _ ds => decide (uptoBulkAll ds ≤ 1048576)
def OpenSpec.upto (s : _root_.Go.ChangeSpec) : _root_.Go.OpenSpec := { _root_.Go.OpenSpec.ofChange s with cond := some uptoSmall }

/-- 'laws.FnPrefix34', WHERE WHAT IT READS IS OF BULK AT MOST 1048576: true; the input reads as it did. -/
def fnPrefix34UptoRow : OpenClaim := { program := "ytcfeljdbjhamiaa", sum := "13eee4faa5ef827ef5e0c481adccb2d1f42a724378a5599b316dcebdf6943112", func := "loop.example/pub-g03245/laws.FnPrefix34", spec := "fnPrefix34", apart := false, narrowed := true }
def FnPrefix34UptoSaid : Prop := fnPrefix34UptoRow.holds Try.pinned (OpenSpec.upto fnPrefix34Spec)

/-- 'laws.FnSignext24', WHERE WHAT IT READS IS OF BULK AT MOST 1048576: true; the input reads as it did. -/
def fnSignext24UptoRow : OpenClaim := { program := "ytcfeljdbjhamiaa", sum := "13eee4faa5ef827ef5e0c481adccb2d1f42a724378a5599b316dcebdf6943112", func := "loop.example/pub-g03245/laws.FnSignext24", spec := "fnSignext24", apart := false, narrowed := true }
def FnSignext24UptoSaid : Prop := fnSignext24UptoRow.holds Try.pinned (OpenSpec.upto fnSignext24Spec)

/-- 'laws.FnImmrot', WHERE WHAT IT READS IS OF BULK AT MOST 1048576: true; the input reads as it did. -/
def fnImmrotUptoRow : OpenClaim := { program := "ytcfeljdbjhamiaa", sum := "13eee4faa5ef827ef5e0c481adccb2d1f42a724378a5599b316dcebdf6943112", func := "loop.example/pub-g03245/laws.FnImmrot", spec := "fnImmrot", apart := false, narrowed := true }
def FnImmrotUptoSaid : Prop := fnImmrotUptoRow.holds Try.pinned (OpenSpec.upto fnImmrotSpec)

end Rows
end Go.Proofs.Ytcfeljdbjhamiaa
