/-
  No cell of these rows narrows 'for every input' (looked for: loops, veiled, ifaces, maps, wideKeys, modest, calm, conditions, laid).
  DERIVED. THE GIVEN ROWS OF THIS SEAT. 8 by the template 'for every input the law returns true; each argument reads behind the call as it read before'; 0 by the template 'total and deterministic' (their statements: YtnmljgjcdofboaaTotals.lean).
  GIVEN WITH THE SEED: the statements are not yours to turn. If you find one false, say at which input.
  Laid BY PROGRAM, IN A SANDBOX (cutbox-rows.mjs): the forced cells as the released guide's own fill.sh prints them over the translation 8dbd7dbc9d9c5bdb… (all of the seat's roots in one cut). By AI agents, Wed Nov 11 2026. No macro, syntax, notation, axiom, sorry.
-/
import Derived.Test.YtnmljgjcdofboaaChecked
import GoSem.Claim
import GoSem.ClaimJoined
import GoSem.ClaimMapViews
import Derived.JoinedTies
import Derived.KernelRfl
namespace Go.Proofs.Ytnmljgjcdofboaa
/- THE CELL 'sum', in the pinned program and in every row, IS THE sha256 OF THE DUMP (.gsa) THAT YtnmljgjcdofboaaProg.lean LOADS. Nothing in Lean hashes anything: it is a label: what it is worth is what the hold of that sum in a sandbox is worth. -/
noncomputable def Try.pinned : Pinned := { name := "ytnmljgjcdofboaa", sum := "8dbd7dbc9d9c5bdb6aedf4db97e032f470b5412d89993ea78b031c1ac3cf6295", checked := Try.checked }
namespace Rows
def none {H : Type} : Left H := { results := [], args := [] }

/-- 'laws.FnSubtractAdd': WHATEVER THE INPUT: true; the input reads as it did. -/
def fnSubtractAddSpec : ChangeSpec := { name := "fnSubtractAdd", fn := fun _ => fun
  | [d1, d2, d3] => { results := [.lit (.bool true)], args := [d1, d2, d3] }
  | _ => none }
def fnSubtractAddRow : OpenClaim := { program := "ytnmljgjcdofboaa", sum := "8dbd7dbc9d9c5bdb6aedf4db97e032f470b5412d89993ea78b031c1ac3cf6295", func := "loop.example/pub-addressranges/laws.FnSubtractAdd", spec := "fnSubtractAdd", apart := false }
def FnSubtractAddSaid : Prop := fnSubtractAddRow.holds Try.pinned (OpenSpec.ofChange fnSubtractAddSpec)

/-- ITS FALSE NEIGHBOUR: 'it returns false'. Refute it at one input. -/
def fnSubtractAddWrong : ChangeSpec := { name := "fnSubtractAdd", fn := fun _ => fun
  | [d1, d2, d3] => { results := [.lit (.bool false)], args := [d1, d2, d3] }
  | _ => none }
def FnSubtractAddWrongFalsely : Prop := fnSubtractAddRow.holds Try.pinned (OpenSpec.ofChange fnSubtractAddWrong)

/-- 'laws.FnRemoveAdd': WHATEVER THE INPUT: true; the input reads as it did. -/
def fnRemoveAddSpec : ChangeSpec := { name := "fnRemoveAdd", fn := fun _ => fun
  | [d1, d2] => { results := [.lit (.bool true)], args := [d1, d2] }
  | _ => none }
def fnRemoveAddRow : OpenClaim := { program := "ytnmljgjcdofboaa", sum := "8dbd7dbc9d9c5bdb6aedf4db97e032f470b5412d89993ea78b031c1ac3cf6295", func := "loop.example/pub-addressranges/laws.FnRemoveAdd", spec := "fnRemoveAdd", apart := false }
def FnRemoveAddSaid : Prop := fnRemoveAddRow.holds Try.pinned (OpenSpec.ofChange fnRemoveAddSpec)

/-- ITS FALSE NEIGHBOUR: 'it returns false'. Refute it at one input. -/
def fnRemoveAddWrong : ChangeSpec := { name := "fnRemoveAdd", fn := fun _ => fun
  | [d1, d2] => { results := [.lit (.bool false)], args := [d1, d2] }
  | _ => none }
def FnRemoveAddWrongFalsely : Prop := fnRemoveAddRow.holds Try.pinned (OpenSpec.ofChange fnRemoveAddWrong)

/-- 'laws.FnCutAdd': WHATEVER THE INPUT: true; the input reads as it did. -/
def fnCutAddSpec : ChangeSpec := { name := "fnCutAdd", fn := fun _ => fun
  | [d1, d2] => { results := [.lit (.bool true)], args := [d1, d2] }
  | _ => none }
def fnCutAddRow : OpenClaim := { program := "ytnmljgjcdofboaa", sum := "8dbd7dbc9d9c5bdb6aedf4db97e032f470b5412d89993ea78b031c1ac3cf6295", func := "loop.example/pub-addressranges/laws.FnCutAdd", spec := "fnCutAdd", apart := false }
def FnCutAddSaid : Prop := fnCutAddRow.holds Try.pinned (OpenSpec.ofChange fnCutAddSpec)

/-- ITS FALSE NEIGHBOUR: 'it returns false'. Refute it at one input. -/
def fnCutAddWrong : ChangeSpec := { name := "fnCutAdd", fn := fun _ => fun
  | [d1, d2] => { results := [.lit (.bool false)], args := [d1, d2] }
  | _ => none }
def FnCutAddWrongFalsely : Prop := fnCutAddRow.holds Try.pinned (OpenSpec.ofChange fnCutAddWrong)

/-- 'laws.FnAddOrder': WHATEVER THE INPUT: true; the input reads as it did. -/
def fnAddOrderSpec : ChangeSpec := { name := "fnAddOrder", fn := fun _ => fun
  | [d1, d2, d3, d4, d5] => { results := [.lit (.bool true)], args := [d1, d2, d3, d4, d5] }
  | _ => none }
def fnAddOrderRow : OpenClaim := { program := "ytnmljgjcdofboaa", sum := "8dbd7dbc9d9c5bdb6aedf4db97e032f470b5412d89993ea78b031c1ac3cf6295", func := "loop.example/pub-addressranges/laws.FnAddOrder", spec := "fnAddOrder", apart := false }
def FnAddOrderSaid : Prop := fnAddOrderRow.holds Try.pinned (OpenSpec.ofChange fnAddOrderSpec)

/-- ITS FALSE NEIGHBOUR: 'it returns false'. Refute it at one input. -/
def fnAddOrderWrong : ChangeSpec := { name := "fnAddOrder", fn := fun _ => fun
  | [d1, d2, d3, d4, d5] => { results := [.lit (.bool false)], args := [d1, d2, d3, d4, d5] }
  | _ => none }
def FnAddOrderWrongFalsely : Prop := fnAddOrderRow.holds Try.pinned (OpenSpec.ofChange fnAddOrderWrong)

/-- 'laws.FnBuild': WHATEVER THE INPUT: true; the input reads as it did. -/
def fnBuildSpec : ChangeSpec := { name := "fnBuild", fn := fun _ => fun
  | [d] => { results := [.lit (.bool true)], args := [d] }
  | _ => none }
def fnBuildRow : OpenClaim := { program := "ytnmljgjcdofboaa", sum := "8dbd7dbc9d9c5bdb6aedf4db97e032f470b5412d89993ea78b031c1ac3cf6295", func := "loop.example/pub-addressranges/laws.FnBuild", spec := "fnBuild", apart := false }
def FnBuildSaid : Prop := fnBuildRow.holds Try.pinned (OpenSpec.ofChange fnBuildSpec)

/-- ITS FALSE NEIGHBOUR: 'it returns false'. Refute it at one input. -/
def fnBuildWrong : ChangeSpec := { name := "fnBuild", fn := fun _ => fun
  | [d] => { results := [.lit (.bool false)], args := [d] }
  | _ => none }
def FnBuildWrongFalsely : Prop := fnBuildRow.holds Try.pinned (OpenSpec.ofChange fnBuildWrong)

/-- 'laws.FnExactAdd': WHATEVER THE INPUT: true; the input reads as it did. -/
def fnExactAddSpec : ChangeSpec := { name := "fnExactAdd", fn := fun _ => fun
  | [d1, d2, d3] => { results := [.lit (.bool true)], args := [d1, d2, d3] }
  | _ => none }
def fnExactAddRow : OpenClaim := { program := "ytnmljgjcdofboaa", sum := "8dbd7dbc9d9c5bdb6aedf4db97e032f470b5412d89993ea78b031c1ac3cf6295", func := "loop.example/pub-addressranges/laws.FnExactAdd", spec := "fnExactAdd", apart := false }
def FnExactAddSaid : Prop := fnExactAddRow.holds Try.pinned (OpenSpec.ofChange fnExactAddSpec)

/-- ITS FALSE NEIGHBOUR: 'it returns false'. Refute it at one input. -/
def fnExactAddWrong : ChangeSpec := { name := "fnExactAdd", fn := fun _ => fun
  | [d1, d2, d3] => { results := [.lit (.bool false)], args := [d1, d2, d3] }
  | _ => none }
def FnExactAddWrongFalsely : Prop := fnExactAddRow.holds Try.pinned (OpenSpec.ofChange fnExactAddWrong)

/-- 'laws.FnAddHas': WHATEVER THE INPUT: true; the input reads as it did. -/
def fnAddHasSpec : ChangeSpec := { name := "fnAddHas", fn := fun _ => fun
  | [d1, d2, d3, d4] => { results := [.lit (.bool true)], args := [d1, d2, d3, d4] }
  | _ => none }
def fnAddHasRow : OpenClaim := { program := "ytnmljgjcdofboaa", sum := "8dbd7dbc9d9c5bdb6aedf4db97e032f470b5412d89993ea78b031c1ac3cf6295", func := "loop.example/pub-addressranges/laws.FnAddHas", spec := "fnAddHas", apart := false }
def FnAddHasSaid : Prop := fnAddHasRow.holds Try.pinned (OpenSpec.ofChange fnAddHasSpec)

/-- ITS FALSE NEIGHBOUR: 'it returns false'. Refute it at one input. -/
def fnAddHasWrong : ChangeSpec := { name := "fnAddHas", fn := fun _ => fun
  | [d1, d2, d3, d4] => { results := [.lit (.bool false)], args := [d1, d2, d3, d4] }
  | _ => none }
def FnAddHasWrongFalsely : Prop := fnAddHasRow.holds Try.pinned (OpenSpec.ofChange fnAddHasWrong)

/-- 'laws.FnFill': WHATEVER THE INPUT: true; the input reads as it did. -/
def fnFillSpec : ChangeSpec := { name := "fnFill", fn := fun _ => fun
  | [d] => { results := [.lit (.bool true)], args := [d] }
  | _ => none }
def fnFillRow : OpenClaim := { program := "ytnmljgjcdofboaa", sum := "8dbd7dbc9d9c5bdb6aedf4db97e032f470b5412d89993ea78b031c1ac3cf6295", func := "loop.example/pub-addressranges/laws.FnFill", spec := "fnFill", apart := false }
def FnFillSaid : Prop := fnFillRow.holds Try.pinned (OpenSpec.ofChange fnFillSpec)

/-- ITS FALSE NEIGHBOUR: 'it returns false'. Refute it at one input. -/
def fnFillWrong : ChangeSpec := { name := "fnFill", fn := fun _ => fun
  | [d] => { results := [.lit (.bool false)], args := [d] }
  | _ => none }
def FnFillWrongFalsely : Prop := fnFillRow.holds Try.pinned (OpenSpec.ofChange fnFillWrong)

/- THE SECOND FORM. 'bulk': how many values and letters a reading holds, each counted each time it is reached (what is shared counts as often as it is met; a slice's spare places count too). A statement '..UptoSaid' is the law's where the arguments, and the package variables that the reading takes, are together of bulk at most 1048576: NARROWER than '..Said'. Prove '..Said' where nothing that the law and all that it calls make is longer than what came in: it says more and counts as full. Else prove '..UptoSaid'. A law counts once. -/
mutual
def uptoBulk {H : Type} : DataW H → Nat
  | .lit (.string bytes) => bytes.length + 1
  | .lit _ => 1
  | .nil => 1
  | .ptr d => uptoBulk d + 1
  | .slice elems spare => uptoBulkAll elems + uptoBulkAll spare + 1
  | .agg parts => uptoBulkAll parts + 1
  | .iface _ d => uptoBulk d + 1
  | .map entries => uptoBulkEntries entries + 1
  | .held _ => 1
def uptoBulkAll {H : Type} : List (DataW H) → Nat
  | [] => 0
  | d :: r => uptoBulk d + uptoBulkAll r
def uptoBulkEntries {H : Type} : List (Lit × DataW H) → Nat
  | [] => 0
  | x :: r => uptoBulkEntry x + uptoBulkEntries r
def uptoBulkEntry {H : Type} : Lit × DataW H → Nat
  | (.string bytes, d) => bytes.length + uptoBulk d + 1
  | (_, d) => uptoBulk d + 1
 end
def uptoSmall : (H : Type) → List (DataW H) → Bool := fun _ ds => decide (uptoBulkAll ds ≤ 1048576)
def OpenSpec.upto (s : _root_.Go.ChangeSpec) : _root_.Go.OpenSpec := { _root_.Go.OpenSpec.ofChange s with cond := some uptoSmall }

/-- 'laws.FnSubtractAdd', WHERE WHAT IT READS IS OF BULK AT MOST 1048576: true; the input reads as it did. -/
def fnSubtractAddUptoRow : OpenClaim := { program := "ytnmljgjcdofboaa", sum := "8dbd7dbc9d9c5bdb6aedf4db97e032f470b5412d89993ea78b031c1ac3cf6295", func := "loop.example/pub-addressranges/laws.FnSubtractAdd", spec := "fnSubtractAdd", apart := false, narrowed := true }
def FnSubtractAddUptoSaid : Prop := fnSubtractAddUptoRow.holds Try.pinned (OpenSpec.upto fnSubtractAddSpec)

/-- 'laws.FnRemoveAdd', WHERE WHAT IT READS IS OF BULK AT MOST 1048576: true; the input reads as it did. -/
def fnRemoveAddUptoRow : OpenClaim := { program := "ytnmljgjcdofboaa", sum := "8dbd7dbc9d9c5bdb6aedf4db97e032f470b5412d89993ea78b031c1ac3cf6295", func := "loop.example/pub-addressranges/laws.FnRemoveAdd", spec := "fnRemoveAdd", apart := false, narrowed := true }
def FnRemoveAddUptoSaid : Prop := fnRemoveAddUptoRow.holds Try.pinned (OpenSpec.upto fnRemoveAddSpec)

/-- 'laws.FnCutAdd', WHERE WHAT IT READS IS OF BULK AT MOST 1048576: true; the input reads as it did. -/
def fnCutAddUptoRow : OpenClaim := { program := "ytnmljgjcdofboaa", sum := "8dbd7dbc9d9c5bdb6aedf4db97e032f470b5412d89993ea78b031c1ac3cf6295", func := "loop.example/pub-addressranges/laws.FnCutAdd", spec := "fnCutAdd", apart := false, narrowed := true }
def FnCutAddUptoSaid : Prop := fnCutAddUptoRow.holds Try.pinned (OpenSpec.upto fnCutAddSpec)

/-- 'laws.FnAddOrder', WHERE WHAT IT READS IS OF BULK AT MOST 1048576: true; the input reads as it did. -/
def fnAddOrderUptoRow : OpenClaim := { program := "ytnmljgjcdofboaa", sum := "8dbd7dbc9d9c5bdb6aedf4db97e032f470b5412d89993ea78b031c1ac3cf6295", func := "loop.example/pub-addressranges/laws.FnAddOrder", spec := "fnAddOrder", apart := false, narrowed := true }
def FnAddOrderUptoSaid : Prop := fnAddOrderUptoRow.holds Try.pinned (OpenSpec.upto fnAddOrderSpec)

/-- 'laws.FnBuild', WHERE WHAT IT READS IS OF BULK AT MOST 1048576: true; the input reads as it did. -/
def fnBuildUptoRow : OpenClaim := { program := "ytnmljgjcdofboaa", sum := "8dbd7dbc9d9c5bdb6aedf4db97e032f470b5412d89993ea78b031c1ac3cf6295", func := "loop.example/pub-addressranges/laws.FnBuild", spec := "fnBuild", apart := false, narrowed := true }
def FnBuildUptoSaid : Prop := fnBuildUptoRow.holds Try.pinned (OpenSpec.upto fnBuildSpec)

/-- 'laws.FnExactAdd', WHERE WHAT IT READS IS OF BULK AT MOST 1048576: true; the input reads as it did. -/
def fnExactAddUptoRow : OpenClaim := { program := "ytnmljgjcdofboaa", sum := "8dbd7dbc9d9c5bdb6aedf4db97e032f470b5412d89993ea78b031c1ac3cf6295", func := "loop.example/pub-addressranges/laws.FnExactAdd", spec := "fnExactAdd", apart := false, narrowed := true }
def FnExactAddUptoSaid : Prop := fnExactAddUptoRow.holds Try.pinned (OpenSpec.upto fnExactAddSpec)

/-- 'laws.FnAddHas', WHERE WHAT IT READS IS OF BULK AT MOST 1048576: true; the input reads as it did. -/
def fnAddHasUptoRow : OpenClaim := { program := "ytnmljgjcdofboaa", sum := "8dbd7dbc9d9c5bdb6aedf4db97e032f470b5412d89993ea78b031c1ac3cf6295", func := "loop.example/pub-addressranges/laws.FnAddHas", spec := "fnAddHas", apart := false, narrowed := true }
def FnAddHasUptoSaid : Prop := fnAddHasUptoRow.holds Try.pinned (OpenSpec.upto fnAddHasSpec)

/-- 'laws.FnFill', WHERE WHAT IT READS IS OF BULK AT MOST 1048576: true; the input reads as it did. -/
def fnFillUptoRow : OpenClaim := { program := "ytnmljgjcdofboaa", sum := "8dbd7dbc9d9c5bdb6aedf4db97e032f470b5412d89993ea78b031c1ac3cf6295", func := "loop.example/pub-addressranges/laws.FnFill", spec := "fnFill", apart := false, narrowed := true }
def FnFillUptoSaid : Prop := fnFillUptoRow.holds Try.pinned (OpenSpec.upto fnFillSpec)

end Rows
end Go.Proofs.Ytnmljgjcdofboaa
