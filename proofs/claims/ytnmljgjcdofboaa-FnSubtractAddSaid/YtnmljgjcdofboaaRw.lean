/- A region that draws its order, walked operation by operation: an operation whose guard is off is taken first too. -/
import Derived.Test.YtnmljgjcdofboaaRh
namespace Go.Proofs.Ytnmljgjcdofboaa
open Go.RowKit

/-- Block b holds the cells cs. -/
def Bk (W : World) (b : Nat) (cs : Array Value) (T : TypeId) : Prop := W.heap[b]? = some (.cells cs T (0, 0))
theorem Bk.lt {W : World} {b : Nat} {cs : Array Value} {T : TypeId} (h : Bk W b cs T) : b < W.heap.size := (Array.getElem?_eq_some_iff.1 h).1
theorem Bk.nx {W W1 : World} {b : Nat} {cs : Array Value} {T : TypeId} (h : Bk W b cs T) (n : Nx W W1) : Bk W1 b cs T := (Below.block n b h.lt).trans h
theorem Bk.below {W W1 : World} {b B : Nat} {cs : Array Value} {T : TypeId} (h : Bk W b cs T) (n : Below B W W1) (hb : b < B) : Bk W1 b cs T := (Below.block n b hb).trans h
theorem Bk.drew {W : World} {b : Nat} {cs : Array Value} {T : TypeId} (h : Bk W b cs T) : Bk W.drew b cs T := h
theorem Bk.new (W : World) (cs : Array Value) (T : TypeId) : Bk (W.alloc (.cells cs T)) W.heap.size cs T := heap_alloc_new W _
theorem Bk.alloc {W : World} {b : Nat} {cs : Array Value} {T : TypeId} (h : Bk W b cs T) (o : Obj) : Bk (W.alloc o) b cs T := h.nx ((Below.refl _ _).alloc (Nat.le_refl _) _)
theorem Bk.far {W : World} {b : Nat} {cs : Array Value} {T : TypeId} (h : Bk W b cs T) (p : Addr) (v : Value) (hne : p.block ≠ b) : Bk (W.setCell p v) b cs T := (Below.heap_setCell _ _ _ _ (fun e => hne e.symm)).trans h
theorem Bk.set {W : World} {b : Nat} {cs : Array Value} {T : TypeId} (h : Bk W b cs T) (i : Nat) (v : Value) : Bk (W.setCell ⟨b, i, none⟩ v) b (cs.setIfInBounds i v) T := by
  have h' : W.heap[b]? = _ := h
  simp [Bk, World.setCell, Array.getElem?_modify, h']
theorem Bk.cell {W : World} {b : Nat} {cs : Array Value} {T : TypeId} (h : Bk W b cs T) (i : Nat) : W.cell? ⟨b, i, none⟩ = cs[i]? := cell_of_row W b i cs T (0, 0) h
theorem Bk.froz {W : World} {b : Nat} {cs : Array Value} {T : TypeId} (h : Bk W b cs T) (i : Nat) : W.frozen? ⟨b, i, none⟩ = false := frozen_of_row W b i cs T h

section
variable {P : Program} {md : Region.Mode} {l : List Oper} {Q : Exit → Act → World → Prop} {S : World → Prop}
theorem drop_get {l : List Oper} {i : Nat} {o : Oper} {r : List Oper} (h : l.drop i = o :: r) : l.toArray[i]? = some o := by
  have := congrArg (fun x => x[0]?) h
  simpa using this
theorem takeT {i : Nat} {oi : Oper} {r : List Oper} {v : Value} {fuel : Nat} {listed : Array Bool} {a : Act} {w : World} (hi : l.drop i = oi :: r)
    (hk : (Region.noSelect l.toArray && (Region.free md l.toArray listed i && (Region.ready md l.toArray listed).contains i)) = true)
    (hQ : ∀ c a w, Q (.panic c) (a.put oi.dst v) w → Q (.panic c) a w)
    (hw : Region.wanted oi (yielded l.toArray a.tmps) = true) (hS : S w) (hv : ∀ w, S w → (execOp a.eval oi).run P w = .ok (.value v) w)
    (h : wpAnyH P md l.toArray Q S fuel (listed.setIfInBounds i true) (a.put oi.dst v) w) : wpAnyH P md l.toArray Q S (fuel + 1) listed a w := by
  simp only [Bool.and_eq_true] at hk
  exact wpAnyH_take (drop_get hi) hk.1 hk.2.1 hk.2.2 hQ (.inl ⟨hw, hv⟩) hS h
theorem takeF {i : Nat} {oi : Oper} {r : List Oper} {fuel : Nat} {listed : Array Bool} {a : Act} {w : World} (hi : l.drop i = oi :: r)
    (hk : (Region.noSelect l.toArray && (Region.free md l.toArray listed i && (Region.ready md l.toArray listed).contains i)) = true)
    (hQ : ∀ c a w, Q (.panic c) (a.put oi.dst undef) w → Q (.panic c) a w)
    (hw : Region.wanted oi (yielded l.toArray a.tmps) = false) (hS : S w)
    (h : wpAnyH P md l.toArray Q S fuel (listed.setIfInBounds i true) (a.put oi.dst undef) w) : wpAnyH P md l.toArray Q S (fuel + 1) listed a w := by
  simp only [Bool.and_eq_true] at hk
  exact wpAnyH_take (drop_get hi) hk.1 hk.2.1 hk.2.2 hQ (.inr ⟨hw, rfl⟩) hS h
/-- The one operation that may come up. -/
theorem doOne {i : Nat} {oi : Oper} {r : List Oper} {fuel : Nat} {listed : Array Bool} {a : Act} {w : World} (hi : l.drop i = oi :: r)
    (hr : Region.ready md l.toArray listed = [i])
    (h : ∀ K' : Act → World → Prop, Shut (∀ a w, S w → (S w → wpAnyH P md l.toArray Q S fuel (listed.setIfInBounds i true) a w) → K' a w) →
      if Region.wanted oi (yielded l.toArray a.tmps) = true then Oper.wp P oi a w K' Q else K' (a.put oi.dst undef) w) : wpAnyH P md l.toArray Q S (fuel + 1) listed a w :=
  wpAnyH_ready hr (by simp) (AllReadyH.cons (drop_get hi) h AllReadyH.nil)
end
end Go.Proofs.Ytnmljgjcdofboaa
