/-
  No cell of these rows narrows 'for every input' (looked for: loops, veiled, ifaces, maps, wideKeys, modest, calm, conditions, laid).
  DERIVED. THE GIVEN ROWS OF THIS SEAT. 8 by the template 'for every input the law returns true; each argument reads behind the call as it read before'; 0 by the template 'total and deterministic' (their statements: YtppdgbjalnbboaaTotals.lean).
  GIVEN WITH THE SEED: the statements are not yours to turn. If you find one false, say at which input.
  Laid BY PROGRAM, IN A SANDBOX (cutbox-rows.mjs): the forced cells as the released guide's own fill.sh prints them over the translation 1bf8e2f5fb58f809… (all of the seat's roots in one cut). By AI agents, Wed Nov 11 2026. No macro, syntax, notation, axiom, sorry.
-/
import Derived.Test.YtppdgbjalnbboaaChecked
import GoSem.Claim
import GoSem.ClaimJoined
import GoSem.ClaimMapViews
import Derived.JoinedTies
import Derived.KernelRfl
namespace Go.Proofs.Ytppdgbjalnbboaa
/- THE CELL 'sum', in the pinned program and in every row, IS THE sha256 OF THE DUMP (.gsa) THAT YtppdgbjalnbboaaProg.lean LOADS. Nothing in Lean hashes anything: it is a label: what it is worth is what the hold of that sum in a sandbox is worth. -/
noncomputable def Try.pinned : Pinned := { name := "ytppdgbjalnbboaa", sum := "1bf8e2f5fb58f8097606af2ff698d2f83a107422cacd3cdada616747360686da", checked := Try.checked }
namespace Rows
def none {H : Type} : Left H := { results := [], args := [] }

/-- 'laws.FnExactRemoveLast': WHATEVER THE INPUT: true; the input reads as it did. -/
def fnExactRemoveLastSpec : ChangeSpec := { name := "fnExactRemoveLast", fn := fun _ => fun
  | [d1, d2] => { results := [.lit (.bool true)], args := [d1, d2] }
  | _ => none }
def fnExactRemoveLastRow : OpenClaim := { program := "ytppdgbjalnbboaa", sum := "1bf8e2f5fb58f8097606af2ff698d2f83a107422cacd3cdada616747360686da", func := "loop.example/pub-addressranges/laws.FnExactRemoveLast", spec := "fnExactRemoveLast", apart := false }
def FnExactRemoveLastSaid : Prop := fnExactRemoveLastRow.holds Try.pinned (OpenSpec.ofChange fnExactRemoveLastSpec)

/-- ITS FALSE NEIGHBOUR: 'it returns false'. Refute it at one input. -/
def fnExactRemoveLastWrong : ChangeSpec := { name := "fnExactRemoveLast", fn := fun _ => fun
  | [d1, d2] => { results := [.lit (.bool false)], args := [d1, d2] }
  | _ => none }
def FnExactRemoveLastWrongFalsely : Prop := fnExactRemoveLastRow.holds Try.pinned (OpenSpec.ofChange fnExactRemoveLastWrong)

/-- 'laws.FnRemoveAll': WHATEVER THE INPUT: true; the input reads as it did. -/
def fnRemoveAllSpec : ChangeSpec := { name := "fnRemoveAll", fn := fun _ => fun
  | [d] => { results := [.lit (.bool true)], args := [d] }
  | _ => none }
def fnRemoveAllRow : OpenClaim := { program := "ytppdgbjalnbboaa", sum := "1bf8e2f5fb58f8097606af2ff698d2f83a107422cacd3cdada616747360686da", func := "loop.example/pub-addressranges/laws.FnRemoveAll", spec := "fnRemoveAll", apart := false }
def FnRemoveAllSaid : Prop := fnRemoveAllRow.holds Try.pinned (OpenSpec.ofChange fnRemoveAllSpec)

/-- ITS FALSE NEIGHBOUR: 'it returns false'. Refute it at one input. -/
def fnRemoveAllWrong : ChangeSpec := { name := "fnRemoveAll", fn := fun _ => fun
  | [d] => { results := [.lit (.bool false)], args := [d] }
  | _ => none }
def FnRemoveAllWrongFalsely : Prop := fnRemoveAllRow.holds Try.pinned (OpenSpec.ofChange fnRemoveAllWrong)

/-- 'laws.FnExactFindSucc': WHATEVER THE INPUT: true; the input reads as it did. -/
def fnExactFindSuccSpec : ChangeSpec := { name := "fnExactFindSucc", fn := fun _ => fun
  | [d1, d2] => { results := [.lit (.bool true)], args := [d1, d2] }
  | _ => none }
def fnExactFindSuccRow : OpenClaim := { program := "ytppdgbjalnbboaa", sum := "1bf8e2f5fb58f8097606af2ff698d2f83a107422cacd3cdada616747360686da", func := "loop.example/pub-addressranges/laws.FnExactFindSucc", spec := "fnExactFindSucc", apart := false }
def FnExactFindSuccSaid : Prop := fnExactFindSuccRow.holds Try.pinned (OpenSpec.ofChange fnExactFindSuccSpec)

/-- ITS FALSE NEIGHBOUR: 'it returns false'. Refute it at one input. -/
def fnExactFindSuccWrong : ChangeSpec := { name := "fnExactFindSucc", fn := fun _ => fun
  | [d1, d2] => { results := [.lit (.bool false)], args := [d1, d2] }
  | _ => none }
def FnExactFindSuccWrongFalsely : Prop := fnExactFindSuccRow.holds Try.pinned (OpenSpec.ofChange fnExactFindSuccWrong)

/-- 'laws.FnExactIn': WHATEVER THE INPUT: true; the input reads as it did. -/
def fnExactInSpec : ChangeSpec := { name := "fnExactIn", fn := fun _ => fun
  | [d1, d2] => { results := [.lit (.bool true)], args := [d1, d2] }
  | _ => none }
def fnExactInRow : OpenClaim := { program := "ytppdgbjalnbboaa", sum := "1bf8e2f5fb58f8097606af2ff698d2f83a107422cacd3cdada616747360686da", func := "loop.example/pub-addressranges/laws.FnExactIn", spec := "fnExactIn", apart := false }
def FnExactInSaid : Prop := fnExactInRow.holds Try.pinned (OpenSpec.ofChange fnExactInSpec)

/-- ITS FALSE NEIGHBOUR: 'it returns false'. Refute it at one input. -/
def fnExactInWrong : ChangeSpec := { name := "fnExactIn", fn := fun _ => fun
  | [d1, d2] => { results := [.lit (.bool false)], args := [d1, d2] }
  | _ => none }
def FnExactInWrongFalsely : Prop := fnExactInRow.holds Try.pinned (OpenSpec.ofChange fnExactInWrong)

/-- 'laws.FnExactFindGreaterEqual': WHATEVER THE INPUT: true; the input reads as it did. -/
def fnExactFindGreaterEqualSpec : ChangeSpec := { name := "fnExactFindGreaterEqual", fn := fun _ => fun
  | [d1, d2] => { results := [.lit (.bool true)], args := [d1, d2] }
  | _ => none }
def fnExactFindGreaterEqualRow : OpenClaim := { program := "ytppdgbjalnbboaa", sum := "1bf8e2f5fb58f8097606af2ff698d2f83a107422cacd3cdada616747360686da", func := "loop.example/pub-addressranges/laws.FnExactFindGreaterEqual", spec := "fnExactFindGreaterEqual", apart := false }
def FnExactFindGreaterEqualSaid : Prop := fnExactFindGreaterEqualRow.holds Try.pinned (OpenSpec.ofChange fnExactFindGreaterEqualSpec)

/-- ITS FALSE NEIGHBOUR: 'it returns false'. Refute it at one input. -/
def fnExactFindGreaterEqualWrong : ChangeSpec := { name := "fnExactFindGreaterEqual", fn := fun _ => fun
  | [d1, d2] => { results := [.lit (.bool false)], args := [d1, d2] }
  | _ => none }
def FnExactFindGreaterEqualWrongFalsely : Prop := fnExactFindGreaterEqualRow.holds Try.pinned (OpenSpec.ofChange fnExactFindGreaterEqualWrong)

/-- 'laws.FnFindIn': WHATEVER THE INPUT: true; the input reads as it did. -/
def fnFindInSpec : ChangeSpec := { name := "fnFindIn", fn := fun _ => fun
  | [d1, d2] => { results := [.lit (.bool true)], args := [d1, d2] }
  | _ => none }
def fnFindInRow : OpenClaim := { program := "ytppdgbjalnbboaa", sum := "1bf8e2f5fb58f8097606af2ff698d2f83a107422cacd3cdada616747360686da", func := "loop.example/pub-addressranges/laws.FnFindIn", spec := "fnFindIn", apart := false }
def FnFindInSaid : Prop := fnFindInRow.holds Try.pinned (OpenSpec.ofChange fnFindInSpec)

/-- ITS FALSE NEIGHBOUR: 'it returns false'. Refute it at one input. -/
def fnFindInWrong : ChangeSpec := { name := "fnFindIn", fn := fun _ => fun
  | [d1, d2] => { results := [.lit (.bool false)], args := [d1, d2] }
  | _ => none }
def FnFindInWrongFalsely : Prop := fnFindInRow.holds Try.pinned (OpenSpec.ofChange fnFindInWrong)

/-- 'laws.FnCutTwice': WHATEVER THE INPUT: true; the input reads as it did. -/
def fnCutTwiceSpec : ChangeSpec := { name := "fnCutTwice", fn := fun _ => fun
  | [d1, d2, d3] => { results := [.lit (.bool true)], args := [d1, d2, d3] }
  | _ => none }
def fnCutTwiceRow : OpenClaim := { program := "ytppdgbjalnbboaa", sum := "1bf8e2f5fb58f8097606af2ff698d2f83a107422cacd3cdada616747360686da", func := "loop.example/pub-addressranges/laws.FnCutTwice", spec := "fnCutTwice", apart := false }
def FnCutTwiceSaid : Prop := fnCutTwiceRow.holds Try.pinned (OpenSpec.ofChange fnCutTwiceSpec)

/-- ITS FALSE NEIGHBOUR: 'it returns false'. Refute it at one input. -/
def fnCutTwiceWrong : ChangeSpec := { name := "fnCutTwice", fn := fun _ => fun
  | [d1, d2, d3] => { results := [.lit (.bool false)], args := [d1, d2, d3] }
  | _ => none }
def FnCutTwiceWrongFalsely : Prop := fnCutTwiceRow.holds Try.pinned (OpenSpec.ofChange fnCutTwiceWrong)

/-- 'laws.FnExactCut': WHATEVER THE INPUT: true; the input reads as it did. -/
def fnExactCutSpec : ChangeSpec := { name := "fnExactCut", fn := fun _ => fun
  | [d1, d2] => { results := [.lit (.bool true)], args := [d1, d2] }
  | _ => none }
def fnExactCutRow : OpenClaim := { program := "ytppdgbjalnbboaa", sum := "1bf8e2f5fb58f8097606af2ff698d2f83a107422cacd3cdada616747360686da", func := "loop.example/pub-addressranges/laws.FnExactCut", spec := "fnExactCut", apart := false }
def FnExactCutSaid : Prop := fnExactCutRow.holds Try.pinned (OpenSpec.ofChange fnExactCutSpec)

/-- ITS FALSE NEIGHBOUR: 'it returns false'. Refute it at one input. -/
def fnExactCutWrong : ChangeSpec := { name := "fnExactCut", fn := fun _ => fun
  | [d1, d2] => { results := [.lit (.bool false)], args := [d1, d2] }
  | _ => none }
def FnExactCutWrongFalsely : Prop := fnExactCutRow.holds Try.pinned (OpenSpec.ofChange fnExactCutWrong)

/- THE SECOND FORM. 'bulk': how many values and letters a reading holds, each counted each time it is reached (what is shared counts as often as it is met; a slice's spare places count too). A statement '..UptoSaid' is the law's where the arguments, and the package variables that the reading takes, are together of bulk at most 1048576: NARROWER than '..Said'. Prove '..Said' where nothing that the law and all that it calls make is longer than what came in: it says more and counts as full. Else prove '..UptoSaid'. A law counts once. -/
mutual
def uptoBulk {H : Type} : DataW H → Nat
  | .lit (.string bytes) => bytes.length + 1
  | .lit _ => 1
  | .nil => 1
  | .ptr d => uptoBulk d + 1
  | .slice elems spare => uptoBulkAll elems + uptoBulkAll spare + 1
  | .agg parts => uptoBulkAll parts + 1
  | .iface _ d => uptoBulk d + 1
  | .map entries => uptoBulkEntries entries + 1
  | .held _ => 1
def uptoBulkAll {H : Type} : List (DataW H) → Nat
  | [] => 0
  | d :: r => uptoBulk d + uptoBulkAll r
def uptoBulkEntries {H : Type} : List (Lit × DataW H) → Nat
  | [] => 0
  | x :: r => uptoBulkEntry x + uptoBulkEntries r
def uptoBulkEntry {H : Type} : Lit × DataW H → Nat
  | (.string bytes, d) => bytes.length + uptoBulk d + 1
  | (_, d) => uptoBulk d + 1
 end
def uptoSmall : (H : Type) → List (DataW H) → Bool := fun _ ds => decide (uptoBulkAll ds ≤ 1048576)
def OpenSpec.upto (s : _root_.Go.ChangeSpec) : _root_.Go.OpenSpec := { _root_.Go.OpenSpec.ofChange s with cond := some uptoSmall }

/-- 'laws.FnExactRemoveLast', WHERE WHAT IT READS IS OF BULK AT MOST 1048576: true; the input reads as it did. -/
def fnExactRemoveLastUptoRow : OpenClaim := { program := "ytppdgbjalnbboaa", sum := "1bf8e2f5fb58f8097606af2ff698d2f83a107422cacd3cdada616747360686da", func := "loop.example/pub-addressranges/laws.FnExactRemoveLast", spec := "fnExactRemoveLast", apart := false, narrowed := true }
def FnExactRemoveLastUptoSaid : Prop := fnExactRemoveLastUptoRow.holds Try.pinned (OpenSpec.upto fnExactRemoveLastSpec)

/-- 'laws.FnRemoveAll', WHERE WHAT IT READS IS OF BULK AT MOST 1048576: true; the input reads as it did. -/
def fnRemoveAllUptoRow : OpenClaim := { program := "ytppdgbjalnbboaa", sum := "1bf8e2f5fb58f8097606af2ff698d2f83a107422cacd3cdada616747360686da", func := "loop.example/pub-addressranges/laws.FnRemoveAll", spec := "fnRemoveAll", apart := false, narrowed := true }
def FnRemoveAllUptoSaid : Prop := fnRemoveAllUptoRow.holds Try.pinned (OpenSpec.upto fnRemoveAllSpec)

/-- 'laws.FnExactFindSucc', WHERE WHAT IT READS IS OF BULK AT MOST 1048576: true; the input reads as it did. -/
def fnExactFindSuccUptoRow : OpenClaim := { program := "ytppdgbjalnbboaa", sum := "1bf8e2f5fb58f8097606af2ff698d2f83a107422cacd3cdada616747360686da", func := "loop.example/pub-addressranges/laws.FnExactFindSucc", spec := "fnExactFindSucc", apart := false, narrowed := true }
def FnExactFindSuccUptoSaid : Prop := fnExactFindSuccUptoRow.holds Try.pinned (OpenSpec.upto fnExactFindSuccSpec)

/-- 'laws.FnExactIn', WHERE WHAT IT READS IS OF BULK AT MOST 1048576: true; the input reads as it did. -/
def fnExactInUptoRow : OpenClaim := { program := "ytppdgbjalnbboaa", sum := "1bf8e2f5fb58f8097606af2ff698d2f83a107422cacd3cdada616747360686da", func := "loop.example/pub-addressranges/laws.FnExactIn", spec := "fnExactIn", apart := false, narrowed := true }
def FnExactInUptoSaid : Prop := fnExactInUptoRow.holds Try.pinned (OpenSpec.upto fnExactInSpec)

/-- 'laws.FnExactFindGreaterEqual', WHERE WHAT IT READS IS OF BULK AT MOST 1048576: true; the input reads as it did. -/
def fnExactFindGreaterEqualUptoRow : OpenClaim := { program := "ytppdgbjalnbboaa", sum := "1bf8e2f5fb58f8097606af2ff698d2f83a107422cacd3cdada616747360686da", func := "loop.example/pub-addressranges/laws.FnExactFindGreaterEqual", spec := "fnExactFindGreaterEqual", apart := false, narrowed := true }
def FnExactFindGreaterEqualUptoSaid : Prop := fnExactFindGreaterEqualUptoRow.holds Try.pinned (OpenSpec.upto fnExactFindGreaterEqualSpec)

/-- 'laws.FnFindIn', WHERE WHAT IT READS IS OF BULK AT MOST 1048576: true; the input reads as it did. -/
def fnFindInUptoRow : OpenClaim := { program := "ytppdgbjalnbboaa", sum := "1bf8e2f5fb58f8097606af2ff698d2f83a107422cacd3cdada616747360686da", func := "loop.example/pub-addressranges/laws.FnFindIn", spec := "fnFindIn", apart := false, narrowed := true }
def FnFindInUptoSaid : Prop := fnFindInUptoRow.holds Try.pinned (OpenSpec.upto fnFindInSpec)

/-- 'laws.FnCutTwice', WHERE WHAT IT READS IS OF BULK AT MOST 1048576: true; the input reads as it did. -/
def fnCutTwiceUptoRow : OpenClaim := { program := "ytppdgbjalnbboaa", sum := "1bf8e2f5fb58f8097606af2ff698d2f83a107422cacd3cdada616747360686da", func := "loop.example/pub-addressranges/laws.FnCutTwice", spec := "fnCutTwice", apart := false, narrowed := true }
def FnCutTwiceUptoSaid : Prop := fnCutTwiceUptoRow.holds Try.pinned (OpenSpec.upto fnCutTwiceSpec)

/-- 'laws.FnExactCut', WHERE WHAT IT READS IS OF BULK AT MOST 1048576: true; the input reads as it did. -/
def fnExactCutUptoRow : OpenClaim := { program := "ytppdgbjalnbboaa", sum := "1bf8e2f5fb58f8097606af2ff698d2f83a107422cacd3cdada616747360686da", func := "loop.example/pub-addressranges/laws.FnExactCut", spec := "fnExactCut", apart := false, narrowed := true }
def FnExactCutUptoSaid : Prop := fnExactCutUptoRow.holds Try.pinned (OpenSpec.upto fnExactCutSpec)

end Rows
end Go.Proofs.Ytppdgbjalnbboaa
