/- copy of ranges, cell by cell; what a row has behind it. -/
import Derived.Test.YtnmljgjcdofboaaRl
import Derived.Test.YtnmljgjcdofboaaMa
import Derived.Laws.CopyOwn
namespace Go.Proofs.Ytnmljgjcdofboaa
open Go.RowKit
set_option linter.unusedVariables false
set_option linter.unusedSimpArgs false

theorem run_copy2_none {P : Program} (w : World) (dT sT ty elem : TypeId) (d a : Option Addr) (dLen dCap sLen sCap : Nat) (hu : P.underlying dT = some (.slice elem)) (hs : (P.info? elem).map (·.size) = some 2) (hn : Nat.min sLen dLen = 0) :
    (Builtin.copy_ #[dT, sT] ty #[.slice d dLen dCap, .slice a sLen sCap]).run P w = .ok (goInt 0) w := by
  cases hq : P.info? elem with
  | none => simp [hq] at hs
  | some i =>
    have hl : ∀ (x : Addr), (loadCells x 0).run P w = .ok #[] w := fun x => by simpa using run_loadCells_list (P := P) w x [] (by simp)
    cases d <;> cases a <;> simp [Builtin.copy_, run_underlying hu, Builtin.lenOf, Builtin.firstCells, sizeOf, typeInfo, hq, hn, storeCells, hl]
theorem run_copy2_row {P : Program} (w : World) (dT sT ty elem : TypeId) (g o dLen dCap : Nat) (a : Addr) (sLen sCap : Nat) (cur : Array Value) (t : TypeId) (cs : List Value) (n : Nat)
    (hu : P.underlying dT = some (.slice elem)) (hs : (P.info? elem).map (·.size) = some 2)
    (hg : w.heap[g]? = some (.cells cur t (0, 0))) (hmin : Nat.min sLen dLen = n) (hn : cs.length = n * 2)
    (hsrc : ∀ j v, cs[j]? = some v → w.cell? (a.add j) = some v) (hfit : o + cs.length ≤ cur.size) (h1 : ∀ v ∈ cs, v.oneCell' = true) :
    (Builtin.copy_ #[dT, sT] ty #[.slice (some ⟨g, o, none⟩) dLen dCap, .slice (some a) sLen sCap]).run P w =
      .ok (goInt n) (w.setRow g (cur.toList.take o ++ cs ++ cur.toList.drop (o + cs.length)).toArray) := by
  have hl := run_loadCells_list (P := P) w a cs hsrc
  rw [hn] at hl
  have hst := run_storeCells_at P g o t cs 0 cur w hg (by simpa using hfit) h1
  cases hq : P.info? elem with
  | none => simp [hq] at hs
  | some i =>
    have hi : i.size = 2 := by simpa [hq] using hs
    simp [Builtin.copy_, run_underlying hu, Builtin.lenOf, Builtin.firstCells, sizeOf, typeInfo, hq, hi, hmin, hl, hst]
/-- What a copy does to a row known whole: behind it the row is spliced, all other blocks stand. -/
theorem copy2 {P : Program} (w : World) (dT sT ty elem : TypeId) (dp sp : Option Addr) (dLen dCap sLen sCap g off n : Nat) (cur : Array Value) (t : TypeId) (cs : List Value)
    (hu : P.underlying dT = some (.slice elem)) (hs : (P.info? elem).map (·.size) = some 2) (hg : Bk w g cur t) (hmin : Nat.min sLen dLen = n) (hn : cs.length = n * 2)
    (hpos : 0 < n → dp = some ⟨g, off, none⟩ ∧ ∃ ad, sp = some ad ∧ ∀ j v, cs[j]? = some v → w.cell? (ad.add j) = some v) (hfit : off + cs.length ≤ cur.size) (h1 : ∀ v ∈ cs, v.oneCell' = true) :
    ∃ w', (Builtin.copy_ #[dT, sT] ty #[.slice dp dLen dCap, .slice sp sLen sCap]).run P w = .ok (goInt n) w' ∧ Bk w' g (splice cur.toList off cs).toArray t ∧ w.grownBy w' (some g) := by
  by_cases h0 : n = 0
  · subst h0
    obtain rfl : cs = [] := List.eq_nil_of_length_eq_zero (by omega)
    exact ⟨w, run_copy2_none w dT sT ty elem dp sp dLen dCap sLen sCap hu hs hmin, by simpa [splice] using hg, grownBy_refl _ _⟩
  · obtain ⟨rfl, ad, rfl, hsrc⟩ := hpos (by omega)
    refine ⟨_, run_copy2_row w dT sT ty elem g off dLen dCap ad sLen sCap cur t cs n hu hs hg hmin hn hsrc hfit h1, ?_, ?_⟩
    · have := setRow_heap w g _ (cur.toList.take off ++ cs ++ cur.toList.drop (off + cs.length)).toArray t _ hg
      rw [List.append_assoc] at this ⊢
      exact this
    · exact ⟨rfl, rfl, rfl, by simp [World.setRow], fun k _ hk => setRow_other w g k _ (fun e => hk (by rw [e]))⟩
theorem step_copy2 {P : Program} {ops : Array Oper} {o : Oper} {a : Act} {w : World} {K : Act → World → Prop} {Q : Exit → Act → World → Prop} {E : Prop} (hgd : o.guard = none) (d s : Operand) (dT sT : TypeId)
    (ho : o.op = .call { callee := .builtin .copy, args := #[d, s], argTypes := #[dT, sT] }) (elem : TypeId) (hu : P.underlying dT = some (.slice elem)) (hsz : (P.info? elem).map (·.size) = some 2)
    (dp sp : Option Addr) (dLen dCap sLen sCap : Nat) (hd : a.eval d = .slice dp dLen dCap) (hs : a.eval s = .slice sp sLen sCap)
    (g off n : Nat) (cur : Array Value) (t : TypeId) (hg : Bk w g cur t) (cs : List Value) (hmin : Nat.min sLen dLen = n) (hn : cs.length = n * 2)
    (hpos : 0 < n → dp = some ⟨g, off, none⟩ ∧ ∃ ad, sp = some ad ∧ ∀ j v, cs[j]? = some v → w.cell? (ad.add j) = some v) (hfit : off + cs.length ≤ cur.size) (h1 : ∀ v ∈ cs, v.oneCell' = true)
    (h : ∀ w', Bk w' g (splice cur.toList off cs).toArray t → w.grownBy w' (some g) → K (a.put o.dst (goInt n)) w') :
    if Region.wanted o (yielded ops a.tmps) = true then Oper.wp P o a w K Q else E := by
  have hw : Region.wanted o (yielded ops a.tmps) = true := by simp [Region.wanted, hgd]
  rw [if_pos hw]
  obtain ⟨w', hrun, h2, h3⟩ := copy2 (P := P) w dT sT o.type elem dp sp dLen dCap sLen sCap g off n cur t cs hu hsz hg hmin hn hpos hfit h1
  unfold Oper.wp
  simp [execOp, ho, resolve, invoke, builtin, hd, hs, hrun, Result.andThen]
  exact h w' h2 h3

theorem cellsL_take (L : List R) (k : Nat) : (cellsL L).take (k * 2) = cellsL (L.take k) := by
  induction L generalizing k with
  | nil => simp [cellsL_nil]
  | cons r L ih =>
    cases k with
    | zero => simp [cellsL_nil]
    | succ k => rw [cellsL_cons, show (k + 1) * 2 = k * 2 + 1 + 1 by omega, List.take_succ_cons, List.take_succ_cons, ih, List.take_succ_cons, cellsL_cons]
theorem cellsL_drop (L : List R) (k : Nat) : (cellsL L).drop (k * 2) = cellsL (L.drop k) := by
  induction L generalizing k with
  | nil => simp [cellsL_nil]
  | cons r L ih =>
    cases k with
    | zero => simp
    | succ k => rw [cellsL_cons, show (k + 1) * 2 = k * 2 + 1 + 1 by omega, List.drop_succ_cons, List.drop_succ_cons, ih, List.drop_succ_cons]
theorem Bk.grown {w w' : World} {b g : Nat} {cs : Array Value} {T : TypeId} (h : Bk w b cs T) (hg : w.grownBy w' (some g)) (hne : b ≠ g) : Bk w' b cs T :=
  (hg.block b h.lt (fun e => hne (Option.some.inj e))).trans h

/-- The package's list with a slice of n ranges over the row cur. -/
structure SpAt (base : Nat) (w : World) (G g n c : Nat) (cur : Array Value) (tot : Int) : Prop where
  blk : Bk w G #[.slice (some ⟨g, 0, none⟩) n c, .int .u64 tot] 83
  row : Bk w g cur 67
  ge : base ≤ G
  gge : base ≤ g
  le : n ≤ c
  max : c ≤ maxLen
  size : cur.size = c * 2
theorem ArAt.sp {base : Nat} {w : World} {G g c : Nat} {L : List R} {tot : Int} (h : ArAt base w G g c L tot) : ∃ cur, SpAt base w G g L.length c cur tot ∧ cur.toList.take (L.length * 2) = cellsL L := by
  obtain ⟨cur, h1, h2, h3, h4, h5, h6⟩ := h.row
  exact ⟨cur, ⟨h.blk, h1, h.ge, h2, h3, h4, h5⟩, h6⟩
theorem SpAt.ar {base : Nat} {w : World} {G g n c : Nat} {cur : Array Value} {tot : Int} (h : SpAt base w G g n c cur tot) {L : List R} (hn : L.length = n) (h1 : 1 ≤ c) (hc : cur.toList.take (n * 2) = cellsL L) : ArAt base w G g c L tot := by
  subst hn
  exact ⟨h.blk, ⟨cellsL_length L, .inr ⟨g, c, cur, rfl, h.gge, h.row, h.le, h.max, h.size, hc⟩⟩, h1, h.ge⟩
theorem SpAt.ne {base : Nat} {w : World} {G g n c : Nat} {cur : Array Value} {tot : Int} (h : SpAt base w G g n c cur tot) : G ≠ g := by
  intro e
  subst e
  have := Eq.trans (Eq.symm h.row) h.blk
  injection this with this
  injection this with _ e _
  exact absurd e (by decide)
theorem SpAt.nx {base : Nat} {w w1 : World} {G g n c : Nat} {cur : Array Value} {tot : Int} (h : SpAt base w G g n c cur tot) (k : Nx w w1) : SpAt base w1 G g n c cur tot :=
  ⟨h.blk.nx k, h.row.nx k, h.ge, h.gge, h.le, h.max, h.size⟩
theorem SpAt.drew {base : Nat} {w : World} {G g n c : Nat} {cur : Array Value} {tot : Int} (h : SpAt base w G g n c cur tot) : SpAt base w.drew G g n c cur tot := ⟨h.blk, h.row, h.ge, h.gge, h.le, h.max, h.size⟩
theorem SpAt.copied {base : Nat} {w w' : World} {G g n c : Nat} {cur : Array Value} {tot : Int} (h : SpAt base w G g n c cur tot) {off : Nat} {cs : List Value} (hb : Bk w' g (splice cur.toList off cs).toArray 67) (hg : w.grownBy w' (some g)) (hfit : off + cs.length ≤ cur.size) :
    SpAt base w' G g n c (splice cur.toList off cs).toArray tot :=
  ⟨h.blk.grown hg h.ne, hb, h.ge, h.gge, h.le, h.max, by rw [List.size_toArray, length_splice _ _ _ (by simpa using hfit)]; simpa using h.size⟩
/-- Another slice into the field. -/
theorem SpAt.setS {base : Nat} {w : World} {G g n c : Nat} {cur : Array Value} {tot : Int} (h : SpAt base w G g n c cur tot) {g' n' c' : Nat} {cur' : Array Value} (hr : Bk w g' cur' 67) (hg : base ≤ g') (hl : n' ≤ c') (hm : c' ≤ maxLen) (hs : cur'.size = c' * 2) :
    SpAt base (w.setCell ⟨G, 0, none⟩ (.slice (some ⟨g', 0, none⟩) n' c')) G g' n' c' cur' tot := by
  have hne : G ≠ g' := by
    intro e
    subst e
    have := Eq.trans (Eq.symm hr) h.blk
    injection this with this
    injection this with _ e _
    exact absurd e (by decide)
  exact ⟨by simpa using h.blk.set 0 (.slice (some ⟨g', 0, none⟩) n' c'), hr.far _ _ hne, h.ge, hg, hl, hm, hs⟩
theorem SpAt.setC {base : Nat} {w : World} {G g n c : Nat} {cur : Array Value} {tot : Int} (h : SpAt base w G g n c cur tot) (j : Nat) (u : Value) : SpAt base (w.setCell ⟨g, j, none⟩ u) G g n c (cur.setIfInBounds j u) tot :=
  ⟨h.blk.far _ _ h.ne.symm, h.row.set j u, h.ge, h.gge, h.le, h.max, by simpa using h.size⟩
theorem SpAt.cells {base : Nat} {w : World} {G g n c : Nat} {cur : Array Value} {tot : Int} (h : SpAt base w G g n c cur tot) :
    w.cell? ⟨G, 0, none⟩ = some (.slice (some ⟨g, 0, none⟩) n c) ∧ w.cell? ⟨G, 1, none⟩ = some (.int .u64 tot) ∧ w.frozen? ⟨G, 0, none⟩ = false ∧ w.frozen? ⟨G, 1, none⟩ = false :=
  ⟨h.blk.cell 0, h.blk.cell 1, h.blk.froz 0, h.blk.froz 1⟩
/-- The row behind the copy and the store of the new range. -/
theorem ins_cells (X A B : List Value) (i : Nat) (u v : Value) (hA : A.length = i * 2) (hX : X.take (i * 2) = A) (hfit : i * 2 + 2 + B.length ≤ X.length) :
    ((((splice X (i * 2 + 2) B).set (i * 2) u).set (i * 2 + 1) v).take (i * 2 + 2 + B.length)) = A ++ [u, v] ++ B := by
  obtain ⟨Y, rfl⟩ : ∃ Y, X = A ++ Y := ⟨X.drop (i * 2), by rw [← hX, List.take_append_drop]⟩
  rw [List.length_append] at hfit
  match Y, hfit with
  | [], hf => simp at hf; omega
  | [y], hf => simp at hf; omega
  | y :: z :: Y, hf =>
    have h1 : (A ++ y :: z :: Y).take (i * 2 + 2) = A ++ [y, z] := by
      rw [List.take_append, List.take_of_length_le (by omega), hA, show i * 2 + 2 - i * 2 = 2 by omega]; rfl
    have h2 : splice (A ++ y :: z :: Y) (i * 2 + 2) B = A ++ ([y, z] ++ (B ++ (A ++ y :: z :: Y).drop (i * 2 + 2 + B.length))) := by
      unfold splice; rw [h1, List.append_assoc]
    rw [h2, ← hA, List.set_append_right _ _ (Nat.le_refl _), List.set_append_right _ _ (by omega), Nat.sub_self, show A.length + 1 - A.length = 1 by omega]
    simp only [List.cons_append, List.nil_append, List.set_cons_zero, List.set_cons_succ]
    rw [List.take_append, List.take_of_length_le (by omega), show A.length + 2 + B.length - A.length = B.length + 1 + 1 by omega, List.take_succ_cons, List.take_succ_cons, List.take_append, List.take_length, Nat.sub_self, List.take_zero]
    simp
theorem SpAt.ins {base : Nat} {w : World} {G g c i : Nat} {L : List R} {X : List Value} {tot : Int} (h : SpAt base w G g (L.length + 1) c (splice X ((i + 1) * 2) (cellsL (L.drop i))).toArray tot) (hi : i ≤ L.length) (hX : X.take (i * 2) = cellsL (L.take i)) (hl : X.length = c * 2) (h1 : 1 ≤ c) (a b : Int) :
    ArAt base ((w.setCell ⟨g, i * 2, none⟩ (.int .u64 a)).setCell ⟨g, i * 2 + 1, none⟩ (.int .u64 b)) G g c (L.take i ++ [(a, b)] ++ L.drop i) tot := by
  have hle := h.le
  have hlt : (L.take i).length = i := by rw [List.length_take]; omega
  have hld : (L.drop i).length = L.length - i := List.length_drop ..
  have k := (h.setC (i * 2) (.int .u64 a)).setC (i * 2 + 1) (.int .u64 b)
  refine k.ar (by simp only [List.length_append, List.length_cons, List.length_nil, hlt, hld]; omega) h1 ?_
  have e := ins_cells X (cellsL (L.take i)) (cellsL (L.drop i)) i (.int .u64 a) (.int .u64 b) (by rw [cellsL_length, hlt]) hX (by rw [cellsL_length, hld, hl]; omega)
  rw [cellsL_length, hld, show i * 2 + 2 + (L.length - i) * 2 = (L.length + 1) * 2 by omega] at e
  rw [cellsL_append, cellsL_append]
  simp only [Array.toList_setIfInBounds]
  rw [show (i + 1) * 2 = i * 2 + 2 by omega]
  exact e
theorem del_cells (X : List Value) (L : List R) (k : Nat) (hk : k < L.length) (hX : X.take (L.length * 2) = cellsL L) (hl : L.length * 2 ≤ X.length) :
    (splice X (k * 2) (cellsL (L.drop (k + 1)))).take ((L.length - 1) * 2) = cellsL (L.eraseIdx k) := by
  have h1 : X.take (k * 2) = cellsL (L.take k) := by rw [← cellsL_take, ← hX, List.take_take, Nat.min_eq_left (by omega)]
  have h2 : (cellsL (L.take k)).length = k * 2 := by rw [cellsL_length, List.length_take, Nat.min_eq_left (by omega)]
  have h3 : (cellsL (L.drop (k + 1))).length = (L.length - (k + 1)) * 2 := by rw [cellsL_length, List.length_drop]
  unfold splice
  rw [h1, ← List.append_assoc, List.take_append_of_le_length (by rw [List.length_append, h2, h3]; omega), List.take_of_length_le (by rw [List.length_append, h2, h3]; omega), List.eraseIdx_eq_take_drop_succ, cellsL_append]
theorem row_src {W : World} {g : Nat} {cur : Array Value} {T : TypeId} {L : List R} (h : Bk W g cur T) (hc : cur.toList.take (L.length * 2) = cellsL L) (k : Nat) :
    ∀ j v, (cellsL (L.drop k))[j]? = some v → W.cell? ((⟨g, k * 2, none⟩ : Addr).add j) = some v := by
  intro j v hj
  have hadd : (⟨g, k * 2, none⟩ : Addr).add j = ⟨g, k * 2 + j, none⟩ := by unfold Addr.add; split <;> simp_all
  rw [hadd, h.cell]
  rw [← cellsL_drop, List.getElem?_drop, ← hc, List.getElem?_take] at hj
  split at hj
  · simpa using hj
  · cases hj
theorem row_src0 {W : World} {g : Nat} {cur : Array Value} {T : TypeId} {L : List R} (h : Bk W g cur T) (hc : cur.toList.take (L.length * 2) = cellsL L) (k : Nat) :
    ∀ j v, (cellsL (L.take k))[j]? = some v → W.cell? ((⟨g, 0, none⟩ : Addr).add j) = some v := by
  intro j v hj
  have hadd : (⟨g, 0, none⟩ : Addr).add j = ⟨g, j, none⟩ := by unfold Addr.add; split <;> simp_all
  rw [hadd, h.cell]
  rw [← cellsL_take, List.getElem?_take, ← hc, List.getElem?_take] at hj
  split at hj
  · split at hj
    · simpa using hj
    · cases hj
  · cases hj
end Go.Proofs.Ytnmljgjcdofboaa
