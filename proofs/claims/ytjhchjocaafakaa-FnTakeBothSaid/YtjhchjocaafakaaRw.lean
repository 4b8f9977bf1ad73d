/- A region that draws its order, walked operation by operation: an operation whose guard is off is taken first too. -/
import Derived.Test.YtjhchjocaafakaaRh
namespace Go.Proofs.Ytjhchjocaafakaa
open Go.RowKit

section
variable {P : Program} {md : Region.Mode} {l : List Oper} {Q : Exit → Act → World → Prop} {S : World → Prop}
theorem drop_get {l : List Oper} {i : Nat} {o : Oper} {r : List Oper} (h : l.drop i = o :: r) : l.toArray[i]? = some o := by
  have := congrArg (fun x => x[0]?) h
  simpa using this
theorem takeT {i : Nat} {oi : Oper} {r : List Oper} {v : Value} {fuel : Nat} {listed : Array Bool} {a : Act} {w : World} (hi : l.drop i = oi :: r)
    (hk : (Region.noSelect l.toArray && (Region.free md l.toArray listed i && (Region.ready md l.toArray listed).contains i)) = true)
    (hQ : ∀ c a w, Q (.panic c) (a.put oi.dst v) w → Q (.panic c) a w)
    (hw : Region.wanted oi (yielded l.toArray a.tmps) = true) (hS : S w) (hv : ∀ w, S w → (execOp a.eval oi).run P w = .ok (.value v) w)
    (h : wpAnyH P md l.toArray Q S fuel (listed.setIfInBounds i true) (a.put oi.dst v) w) : wpAnyH P md l.toArray Q S (fuel + 1) listed a w := by
  simp only [Bool.and_eq_true] at hk
  exact wpAnyH_take (drop_get hi) hk.1 hk.2.1 hk.2.2 hQ (.inl ⟨hw, hv⟩) hS h
theorem takeF {i : Nat} {oi : Oper} {r : List Oper} {fuel : Nat} {listed : Array Bool} {a : Act} {w : World} (hi : l.drop i = oi :: r)
    (hk : (Region.noSelect l.toArray && (Region.free md l.toArray listed i && (Region.ready md l.toArray listed).contains i)) = true)
    (hQ : ∀ c a w, Q (.panic c) (a.put oi.dst undef) w → Q (.panic c) a w)
    (hw : Region.wanted oi (yielded l.toArray a.tmps) = false) (hS : S w)
    (h : wpAnyH P md l.toArray Q S fuel (listed.setIfInBounds i true) (a.put oi.dst undef) w) : wpAnyH P md l.toArray Q S (fuel + 1) listed a w := by
  simp only [Bool.and_eq_true] at hk
  exact wpAnyH_take (drop_get hi) hk.1 hk.2.1 hk.2.2 hQ (.inr ⟨hw, rfl⟩) hS h
/-- The one operation that may come up. -/
theorem doOne {i : Nat} {oi : Oper} {r : List Oper} {fuel : Nat} {listed : Array Bool} {a : Act} {w : World} (hi : l.drop i = oi :: r)
    (hr : Region.ready md l.toArray listed = [i])
    (h : ∀ K' : Act → World → Prop, Shut (∀ a w, S w → (S w → wpAnyH P md l.toArray Q S fuel (listed.setIfInBounds i true) a w) → K' a w) →
      if Region.wanted oi (yielded l.toArray a.tmps) = true then Oper.wp P oi a w K' Q else K' (a.put oi.dst undef) w) : wpAnyH P md l.toArray Q S (fuel + 1) listed a w :=
  wpAnyH_ready hr (by simp) (AllReadyH.cons (drop_get hi) h AllReadyH.nil)
end
end Go.Proofs.Ytjhchjocaafakaa
