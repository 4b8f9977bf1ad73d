/-
  No cell of these rows narrows 'for every input' (looked for: loops, veiled, ifaces, maps, wideKeys, modest, calm, conditions, laid).
  DERIVED. THE GIVEN ROWS OF THIS SEAT. 9 by the template 'for every input the law returns true; each argument reads behind the call as it read before'; 0 by the template 'total and deterministic' (their statements: YtjhchjocaafakaaTotals.lean).
  GIVEN WITH THE SEED: the statements are not yours to turn. If you find one false, say at which input.
  Laid BY PROGRAM, IN A SANDBOX (cutbox-rows.mjs): the forced cells as the released guide's own fill.sh prints them over the translation c92b064a7e6b361a… (all of the seat's roots in one cut). By AI agents, Wed Nov 11 2026. No macro, syntax, notation, axiom, sorry.
-/
import Derived.Test.YtjhchjocaafakaaChecked
import GoSem.Claim
import GoSem.ClaimJoined
import GoSem.ClaimMapViews
import Derived.JoinedTies
import Derived.KernelRfl
namespace Go.Proofs.Ytjhchjocaafakaa
/- THE CELL 'sum', in the pinned program and in every row, IS THE sha256 OF THE DUMP (.gsa) THAT YtjhchjocaafakaaProg.lean LOADS. Nothing in Lean hashes anything: it is a label: what it is worth is what the hold of that sum in a sandbox is worth. -/
noncomputable def Try.pinned : Pinned := { name := "ytjhchjocaafakaa", sum := "c92b064a7e6b361a4b3aacc28e8570050632015fc5ef92cc9f672073824703e1", checked := Try.checked }
namespace Rows
def none {H : Type} : Left H := { results := [], args := [] }

/-- 'laws.FnExactLess': WHATEVER THE INPUT: true; the input reads as it did. -/
def fnExactLessSpec : ChangeSpec := { name := "fnExactLess", fn := fun _ => fun
  | [d1, d2] => { results := [.lit (.bool true)], args := [d1, d2] }
  | _ => none }
def fnExactLessRow : OpenClaim := { program := "ytjhchjocaafakaa", sum := "c92b064a7e6b361a4b3aacc28e8570050632015fc5ef92cc9f672073824703e1", func := "loop.example/pub-addressranges/laws.FnExactLess", spec := "fnExactLess", apart := false }
def FnExactLessSaid : Prop := fnExactLessRow.holds Try.pinned (OpenSpec.ofChange fnExactLessSpec)

/-- ITS FALSE NEIGHBOUR: 'it returns false'. Refute it at one input. -/
def fnExactLessWrong : ChangeSpec := { name := "fnExactLess", fn := fun _ => fun
  | [d1, d2] => { results := [.lit (.bool false)], args := [d1, d2] }
  | _ => none }
def FnExactLessWrongFalsely : Prop := fnExactLessRow.holds Try.pinned (OpenSpec.ofChange fnExactLessWrong)

/-- 'laws.FnExactContains': WHATEVER THE INPUT: true; the input reads as it did. -/
def fnExactContainsSpec : ChangeSpec := { name := "fnExactContains", fn := fun _ => fun
  | [d1, d2, d3] => { results := [.lit (.bool true)], args := [d1, d2, d3] }
  | _ => none }
def fnExactContainsRow : OpenClaim := { program := "ytjhchjocaafakaa", sum := "c92b064a7e6b361a4b3aacc28e8570050632015fc5ef92cc9f672073824703e1", func := "loop.example/pub-addressranges/laws.FnExactContains", spec := "fnExactContains", apart := false }
def FnExactContainsSaid : Prop := fnExactContainsRow.holds Try.pinned (OpenSpec.ofChange fnExactContainsSpec)

/-- ITS FALSE NEIGHBOUR: 'it returns false'. Refute it at one input. -/
def fnExactContainsWrong : ChangeSpec := { name := "fnExactContains", fn := fun _ => fun
  | [d1, d2, d3] => { results := [.lit (.bool false)], args := [d1, d2, d3] }
  | _ => none }
def FnExactContainsWrongFalsely : Prop := fnExactContainsRow.holds Try.pinned (OpenSpec.ofChange fnExactContainsWrong)

/-- 'laws.FnExactMake': WHATEVER THE INPUT: true; the input reads as it did. -/
def fnExactMakeSpec : ChangeSpec := { name := "fnExactMake", fn := fun _ => fun
  | [d1, d2] => { results := [.lit (.bool true)], args := [d1, d2] }
  | _ => none }
def fnExactMakeRow : OpenClaim := { program := "ytjhchjocaafakaa", sum := "c92b064a7e6b361a4b3aacc28e8570050632015fc5ef92cc9f672073824703e1", func := "loop.example/pub-addressranges/laws.FnExactMake", spec := "fnExactMake", apart := false }
def FnExactMakeSaid : Prop := fnExactMakeRow.holds Try.pinned (OpenSpec.ofChange fnExactMakeSpec)

/-- ITS FALSE NEIGHBOUR: 'it returns false'. Refute it at one input. -/
def fnExactMakeWrong : ChangeSpec := { name := "fnExactMake", fn := fun _ => fun
  | [d1, d2] => { results := [.lit (.bool false)], args := [d1, d2] }
  | _ => none }
def FnExactMakeWrongFalsely : Prop := fnExactMakeRow.holds Try.pinned (OpenSpec.ofChange fnExactMakeWrong)

/-- 'laws.FnExactSize': WHATEVER THE INPUT: true; the input reads as it did. -/
def fnExactSizeSpec : ChangeSpec := { name := "fnExactSize", fn := fun _ => fun
  | [d1, d2] => { results := [.lit (.bool true)], args := [d1, d2] }
  | _ => none }
def fnExactSizeRow : OpenClaim := { program := "ytjhchjocaafakaa", sum := "c92b064a7e6b361a4b3aacc28e8570050632015fc5ef92cc9f672073824703e1", func := "loop.example/pub-addressranges/laws.FnExactSize", spec := "fnExactSize", apart := false }
def FnExactSizeSaid : Prop := fnExactSizeRow.holds Try.pinned (OpenSpec.ofChange fnExactSizeSpec)

/-- ITS FALSE NEIGHBOUR: 'it returns false'. Refute it at one input. -/
def fnExactSizeWrong : ChangeSpec := { name := "fnExactSize", fn := fun _ => fun
  | [d1, d2] => { results := [.lit (.bool false)], args := [d1, d2] }
  | _ => none }
def FnExactSizeWrongFalsely : Prop := fnExactSizeRow.holds Try.pinned (OpenSpec.ofChange fnExactSizeWrong)

/-- 'laws.FnExactTakeBack': WHATEVER THE INPUT: true; the input reads as it did. -/
def fnExactTakeBackSpec : ChangeSpec := { name := "fnExactTakeBack", fn := fun _ => fun
  | [d1, d2, d3, d4] => { results := [.lit (.bool true)], args := [d1, d2, d3, d4] }
  | _ => none }
def fnExactTakeBackRow : OpenClaim := { program := "ytjhchjocaafakaa", sum := "c92b064a7e6b361a4b3aacc28e8570050632015fc5ef92cc9f672073824703e1", func := "loop.example/pub-addressranges/laws.FnExactTakeBack", spec := "fnExactTakeBack", apart := false }
def FnExactTakeBackSaid : Prop := fnExactTakeBackRow.holds Try.pinned (OpenSpec.ofChange fnExactTakeBackSpec)

/-- ITS FALSE NEIGHBOUR: 'it returns false'. Refute it at one input. -/
def fnExactTakeBackWrong : ChangeSpec := { name := "fnExactTakeBack", fn := fun _ => fun
  | [d1, d2, d3, d4] => { results := [.lit (.bool false)], args := [d1, d2, d3, d4] }
  | _ => none }
def FnExactTakeBackWrongFalsely : Prop := fnExactTakeBackRow.holds Try.pinned (OpenSpec.ofChange fnExactTakeBackWrong)

/-- 'laws.FnExactTakeFront': WHATEVER THE INPUT: true; the input reads as it did. -/
def fnExactTakeFrontSpec : ChangeSpec := { name := "fnExactTakeFront", fn := fun _ => fun
  | [d1, d2, d3, d4] => { results := [.lit (.bool true)], args := [d1, d2, d3, d4] }
  | _ => none }
def fnExactTakeFrontRow : OpenClaim := { program := "ytjhchjocaafakaa", sum := "c92b064a7e6b361a4b3aacc28e8570050632015fc5ef92cc9f672073824703e1", func := "loop.example/pub-addressranges/laws.FnExactTakeFront", spec := "fnExactTakeFront", apart := false }
def FnExactTakeFrontSaid : Prop := fnExactTakeFrontRow.holds Try.pinned (OpenSpec.ofChange fnExactTakeFrontSpec)

/-- ITS FALSE NEIGHBOUR: 'it returns false'. Refute it at one input. -/
def fnExactTakeFrontWrong : ChangeSpec := { name := "fnExactTakeFront", fn := fun _ => fun
  | [d1, d2, d3, d4] => { results := [.lit (.bool false)], args := [d1, d2, d3, d4] }
  | _ => none }
def FnExactTakeFrontWrongFalsely : Prop := fnExactTakeFrontRow.holds Try.pinned (OpenSpec.ofChange fnExactTakeFrontWrong)

/-- 'laws.FnExactSubtract': WHATEVER THE INPUT: true; the input reads as it did. -/
def fnExactSubtractSpec : ChangeSpec := { name := "fnExactSubtract", fn := fun _ => fun
  | [d1, d2, d3, d4, d5] => { results := [.lit (.bool true)], args := [d1, d2, d3, d4, d5] }
  | _ => none }
def fnExactSubtractRow : OpenClaim := { program := "ytjhchjocaafakaa", sum := "c92b064a7e6b361a4b3aacc28e8570050632015fc5ef92cc9f672073824703e1", func := "loop.example/pub-addressranges/laws.FnExactSubtract", spec := "fnExactSubtract", apart := false }
def FnExactSubtractSaid : Prop := fnExactSubtractRow.holds Try.pinned (OpenSpec.ofChange fnExactSubtractSpec)

/-- ITS FALSE NEIGHBOUR: 'it returns false'. Refute it at one input. -/
def fnExactSubtractWrong : ChangeSpec := { name := "fnExactSubtract", fn := fun _ => fun
  | [d1, d2, d3, d4, d5] => { results := [.lit (.bool false)], args := [d1, d2, d3, d4, d5] }
  | _ => none }
def FnExactSubtractWrongFalsely : Prop := fnExactSubtractRow.holds Try.pinned (OpenSpec.ofChange fnExactSubtractWrong)

/-- 'laws.FnTakeBoth': WHATEVER THE INPUT: true; the input reads as it did. -/
def fnTakeBothSpec : ChangeSpec := { name := "fnTakeBoth", fn := fun _ => fun
  | [d1, d2, d3, d4] => { results := [.lit (.bool true)], args := [d1, d2, d3, d4] }
  | _ => none }
def fnTakeBothRow : OpenClaim := { program := "ytjhchjocaafakaa", sum := "c92b064a7e6b361a4b3aacc28e8570050632015fc5ef92cc9f672073824703e1", func := "loop.example/pub-addressranges/laws.FnTakeBoth", spec := "fnTakeBoth", apart := false }
def FnTakeBothSaid : Prop := fnTakeBothRow.holds Try.pinned (OpenSpec.ofChange fnTakeBothSpec)

/-- ITS FALSE NEIGHBOUR: 'it returns false'. Refute it at one input. -/
def fnTakeBothWrong : ChangeSpec := { name := "fnTakeBoth", fn := fun _ => fun
  | [d1, d2, d3, d4] => { results := [.lit (.bool false)], args := [d1, d2, d3, d4] }
  | _ => none }
def FnTakeBothWrongFalsely : Prop := fnTakeBothRow.holds Try.pinned (OpenSpec.ofChange fnTakeBothWrong)

/-- 'laws.FnExactRemove': WHATEVER THE INPUT: true; the input reads as it did. -/
def fnExactRemoveSpec : ChangeSpec := { name := "fnExactRemove", fn := fun _ => fun
  | [d1, d2, d3, d4] => { results := [.lit (.bool true)], args := [d1, d2, d3, d4] }
  | _ => none }
def fnExactRemoveRow : OpenClaim := { program := "ytjhchjocaafakaa", sum := "c92b064a7e6b361a4b3aacc28e8570050632015fc5ef92cc9f672073824703e1", func := "loop.example/pub-addressranges/laws.FnExactRemove", spec := "fnExactRemove", apart := false }
def FnExactRemoveSaid : Prop := fnExactRemoveRow.holds Try.pinned (OpenSpec.ofChange fnExactRemoveSpec)

/-- ITS FALSE NEIGHBOUR: 'it returns false'. Refute it at one input. -/
def fnExactRemoveWrong : ChangeSpec := { name := "fnExactRemove", fn := fun _ => fun
  | [d1, d2, d3, d4] => { results := [.lit (.bool false)], args := [d1, d2, d3, d4] }
  | _ => none }
def FnExactRemoveWrongFalsely : Prop := fnExactRemoveRow.holds Try.pinned (OpenSpec.ofChange fnExactRemoveWrong)

/- THE SECOND FORM. 'bulk': how many values and letters a reading holds, each counted each time it is reached (what is shared counts as often as it is met; a slice's spare places count too). A statement '..UptoSaid' is the law's where the arguments, and the package variables that the reading takes, are together of bulk at most 1048576: NARROWER than '..Said'. Prove '..Said' where nothing that the law and all that it calls make is longer than what came in: it says more and counts as full. Else prove '..UptoSaid'. A law counts once. -/
mutual
def uptoBulk {H : Type} : DataW H → Nat
  | .lit (.string bytes) => bytes.length + 1
  | .lit _ => 1
  | .nil => 1
  | .ptr d => uptoBulk d + 1
  | .slice elems spare => uptoBulkAll elems + uptoBulkAll spare + 1
  | .agg parts => uptoBulkAll parts + 1
  | .iface _ d => uptoBulk d + 1
  | .map entries => uptoBulkEntries entries + 1
  | .held _ => 1
def uptoBulkAll {H : Type} : List (DataW H) → Nat
  | [] => 0
  | d :: r => uptoBulk d + uptoBulkAll r
def uptoBulkEntries {H : Type} : List (Lit × DataW H) → Nat
  | [] => 0
  | x :: r => uptoBulkEntry x + uptoBulkEntries r
def uptoBulkEntry {H : Type} : Lit × DataW H → Nat
  | (.string bytes, d) => bytes.length + uptoBulk d + 1
  | (_, d) => uptoBulk d + 1
 end
def uptoSmall : (H : Type) → List (DataW H) → Bool := fun _ ds => decide (uptoBulkAll ds ≤ 1048576)
def OpenSpec.upto (s : _root_.Go.ChangeSpec) : _root_.Go.OpenSpec := { _root_.Go.OpenSpec.ofChange s with cond := some uptoSmall }

/-- 'laws.FnExactLess', WHERE WHAT IT READS IS OF BULK AT MOST 1048576: true; the input reads as it did. -/
def fnExactLessUptoRow : OpenClaim := { program := "ytjhchjocaafakaa", sum := "c92b064a7e6b361a4b3aacc28e8570050632015fc5ef92cc9f672073824703e1", func := "loop.example/pub-addressranges/laws.FnExactLess", spec := "fnExactLess", apart := false, narrowed := true }
def FnExactLessUptoSaid : Prop := fnExactLessUptoRow.holds Try.pinned (OpenSpec.upto fnExactLessSpec)

/-- 'laws.FnExactContains', WHERE WHAT IT READS IS OF BULK AT MOST 1048576: true; the input reads as it did. -/
def fnExactContainsUptoRow : OpenClaim := { program := "ytjhchjocaafakaa", sum := "c92b064a7e6b361a4b3aacc28e8570050632015fc5ef92cc9f672073824703e1", func := "loop.example/pub-addressranges/laws.FnExactContains", spec := "fnExactContains", apart := false, narrowed := true }
def FnExactContainsUptoSaid : Prop := fnExactContainsUptoRow.holds Try.pinned (OpenSpec.upto fnExactContainsSpec)

/-- 'laws.FnExactMake', WHERE WHAT IT READS IS OF BULK AT MOST 1048576: true; the input reads as it did. -/
def fnExactMakeUptoRow : OpenClaim := { program := "ytjhchjocaafakaa", sum := "c92b064a7e6b361a4b3aacc28e8570050632015fc5ef92cc9f672073824703e1", func := "loop.example/pub-addressranges/laws.FnExactMake", spec := "fnExactMake", apart := false, narrowed := true }
def FnExactMakeUptoSaid : Prop := fnExactMakeUptoRow.holds Try.pinned (OpenSpec.upto fnExactMakeSpec)

/-- 'laws.FnExactSize', WHERE WHAT IT READS IS OF BULK AT MOST 1048576: true; the input reads as it did. -/
def fnExactSizeUptoRow : OpenClaim := { program := "ytjhchjocaafakaa", sum := "c92b064a7e6b361a4b3aacc28e8570050632015fc5ef92cc9f672073824703e1", func := "loop.example/pub-addressranges/laws.FnExactSize", spec := "fnExactSize", apart := false, narrowed := true }
def FnExactSizeUptoSaid : Prop := fnExactSizeUptoRow.holds Try.pinned (OpenSpec.upto fnExactSizeSpec)

/-- 'laws.FnExactTakeBack', WHERE WHAT IT READS IS OF BULK AT MOST 1048576: true; the input reads as it did. -/
def fnExactTakeBackUptoRow : OpenClaim := { program := "ytjhchjocaafakaa", sum := "c92b064a7e6b361a4b3aacc28e8570050632015fc5ef92cc9f672073824703e1", func := "loop.example/pub-addressranges/laws.FnExactTakeBack", spec := "fnExactTakeBack", apart := false, narrowed := true }
def FnExactTakeBackUptoSaid : Prop := fnExactTakeBackUptoRow.holds Try.pinned (OpenSpec.upto fnExactTakeBackSpec)

/-- 'laws.FnExactTakeFront', WHERE WHAT IT READS IS OF BULK AT MOST 1048576: true; the input reads as it did. -/
def fnExactTakeFrontUptoRow : OpenClaim := { program := "ytjhchjocaafakaa", sum := "c92b064a7e6b361a4b3aacc28e8570050632015fc5ef92cc9f672073824703e1", func := "loop.example/pub-addressranges/laws.FnExactTakeFront", spec := "fnExactTakeFront", apart := false, narrowed := true }
def FnExactTakeFrontUptoSaid : Prop := fnExactTakeFrontUptoRow.holds Try.pinned (OpenSpec.upto fnExactTakeFrontSpec)

/-- 'laws.FnExactSubtract', WHERE WHAT IT READS IS OF BULK AT MOST 1048576: true; the input reads as it did. -/
def fnExactSubtractUptoRow : OpenClaim := { program := "ytjhchjocaafakaa", sum := "c92b064a7e6b361a4b3aacc28e8570050632015fc5ef92cc9f672073824703e1", func := "loop.example/pub-addressranges/laws.FnExactSubtract", spec := "fnExactSubtract", apart := false, narrowed := true }
def FnExactSubtractUptoSaid : Prop := fnExactSubtractUptoRow.holds Try.pinned (OpenSpec.upto fnExactSubtractSpec)

/-- 'laws.FnTakeBoth', WHERE WHAT IT READS IS OF BULK AT MOST 1048576: true; the input reads as it did. -/
def fnTakeBothUptoRow : OpenClaim := { program := "ytjhchjocaafakaa", sum := "c92b064a7e6b361a4b3aacc28e8570050632015fc5ef92cc9f672073824703e1", func := "loop.example/pub-addressranges/laws.FnTakeBoth", spec := "fnTakeBoth", apart := false, narrowed := true }
def FnTakeBothUptoSaid : Prop := fnTakeBothUptoRow.holds Try.pinned (OpenSpec.upto fnTakeBothSpec)

/-- 'laws.FnExactRemove', WHERE WHAT IT READS IS OF BULK AT MOST 1048576: true; the input reads as it did. -/
def fnExactRemoveUptoRow : OpenClaim := { program := "ytjhchjocaafakaa", sum := "c92b064a7e6b361a4b3aacc28e8570050632015fc5ef92cc9f672073824703e1", func := "loop.example/pub-addressranges/laws.FnExactRemove", spec := "fnExactRemove", apart := false, narrowed := true }
def FnExactRemoveUptoSaid : Prop := fnExactRemoveUptoRow.holds Try.pinned (OpenSpec.upto fnExactRemoveSpec)

end Rows
end Go.Proofs.Ytjhchjocaafakaa
