/- The package's own list of ranges: made out of a slice, read, told again. -/
import Derived.Test.YtnmljgjcdofboaaLs
import Derived.Deep.RegionLaw
import Derived.Deep.DeepCutAuto
import Derived.Deep.LoopGhost
namespace Go.Proofs.Ytnmljgjcdofboaa
open Go.RowKit
set_option linter.unusedVariables false
set_option linter.unusedSimpArgs false

/-- The sum of the sizes. -/
def totL (L : List R) : Int := (L.map fun r => szI r.1 r.2).sum
/-- All ends are addresses of which something is said. -/
def InB (L : List R) : Prop := ∀ r ∈ L, 0 ≤ r.1 ∧ r.1 < 4398046511104 ∧ 0 ≤ r.2 ∧ r.2 < 4398046511104
/-- Ascending, none empty, none next to another one. -/
structure Td (L : List R) : Prop where
  ne : ∀ i (h : i < L.length), (L[i]).1 < (L[i]).2
  up : ∀ i j (hi : i < L.length) (hj : j < L.length), i < j → (L[i]).2 < (L[j]).1
theorem InB.at {L : List R} (h : InB L) {i : Nat} (hi : i < L.length) : 0 ≤ (L[i]).1 ∧ (L[i]).1 < 4398046511104 ∧ 0 ≤ (L[i]).2 ∧ (L[i]).2 < 4398046511104 := h _ (List.getElem_mem hi)
theorem szI_bd (b l : Int) (hb : 0 ≤ b) (hl : 0 ≤ l) (hl' : l < 4398046511104) : 0 ≤ szI b l ∧ szI b l < 4398046511104 := by unfold szI; split <;> omega
theorem totL_cons (r : R) (L : List R) : totL (r :: L) = szI r.1 r.2 + totL L := by simp [totL]
theorem totL_append (L M : List R) : totL (L ++ M) = totL L + totL M := by simp [totL]
theorem totL_bd : ∀ (L : List R), InB L → 0 ≤ totL L ∧ totL L ≤ L.length * 4398046511104
  | [], _ => by simp [totL]
  | r :: L, h => by
    have h1 := totL_bd L (fun x hx => h x (List.mem_cons_of_mem _ hx))
    have h2 := h r (List.mem_cons_self ..)
    have h3 := szI_bd r.1 r.2 h2.1 h2.2.2.1 h2.2.2.2
    rw [totL_cons, List.length_cons]
    omega
theorem totL_take (L : List R) (k : Nat) (hk : k < L.length) : totL (L.take (k + 1)) = totL (L.take k) + szI (L[k]).1 (L[k]).2 := by
  rw [List.take_succ_eq_append_getElem hk, totL_append]; simp [totL]
theorem InB.take {L : List R} (h : InB L) (k : Nat) : InB (L.take k) := fun r hr => h r (List.mem_of_mem_take hr)

/-- The list behind a pointer to block G: the array in block g, of capacity c, holds L; the sum of its bytes is tot. -/
structure ArAt (base : Nat) (w : World) (G g c : Nat) (L : List R) (tot : Int) : Prop where
  blk : w.heap[G]? = some (.cells #[.slice (some ⟨g, 0, none⟩) L.length c, .int .u64 tot] 83 (0, 0))
  own : w.ownsRow base 67 2 (.slice (some ⟨g, 0, none⟩) L.length c) L.length (cellsL L)
  one : 1 ≤ c
  ge : base ≤ G
theorem heap_lt {w : World} {G : Nat} {o : Obj} (h : w.heap[G]? = some o) : G < w.heap.size := (Array.getElem?_eq_some_iff.1 h).1
theorem own_nx {w w1 : World} {base n size : Nat} {e : TypeId} {v : Value} {xs : List Value} (h : w.ownsRow base e size v n xs) (nn : Nx w w1) : w1.ownsRow base e size v n xs :=
  h.kept (row := none) ⟨nn.os, nn.tape, nn.output, nn.size, fun k hk _ => nn.block k hk⟩ (by cases v.ownBlock <;> simp)
theorem ArAt.nx {base : Nat} {w w1 : World} {G g c : Nat} {L : List R} {tot : Int} (h : ArAt base w G g c L tot) (n : Nx w w1) : ArAt base w1 G g c L tot :=
  ⟨(Below.block n G (heap_lt h.blk)).trans h.blk, h.own.kept (row := none) ⟨n.os, n.tape, n.output, n.size, fun k hk _ => n.block k hk⟩ (by simp [Value.ownBlock]), h.one, h.ge⟩
theorem ArAt.alloc {base : Nat} {w : World} {G g c : Nat} {L : List R} {tot : Int} (h : ArAt base w G g c L tot) (o : Obj) : ArAt base (w.alloc o) G g c L tot :=
  h.nx ((Below.refl _ _).alloc (Nat.le_refl _) _)
theorem ArAt.cells {base : Nat} {w : World} {G g c : Nat} {L : List R} {tot : Int} (h : ArAt base w G g c L tot) :
    w.cell? ⟨G, 0, none⟩ = some (.slice (some ⟨g, 0, none⟩) L.length c) ∧ w.cell? ⟨G, 1, none⟩ = some (.int .u64 tot) ∧ w.frozen? ⟨G, 0, none⟩ = false ∧ w.frozen? ⟨G, 1, none⟩ = false := by
  have h1 := fun i => cell_of_row w G i _ _ _ h.blk
  refine ⟨h1 0, h1 1, ?_, ?_⟩ <;> simp [World.frozen?, h.blk]
theorem ArAt.row {base : Nat} {w : World} {G g c : Nat} {L : List R} {tot : Int} (h : ArAt base w G g c L tot) :
    ∃ cur : Array Value, w.heap[g]? = some (.cells cur 67 (0, 0)) ∧ base ≤ g ∧ L.length ≤ c ∧ c ≤ maxLen ∧ cur.size = c * 2 ∧ cur.toList.take (L.length * 2) = cellsL L := by
  rcases h.own.2 with ⟨hv, _⟩ | ⟨g', cap, cur, hv, hb, hg, hn, hm, hs, ht⟩
  · cases hv
  · injection hv with e1 e2 e3
    injection e1 with e1
    injection e1 with e1
    subst e1
    subst e3
    exact ⟨cur, hg, hb, hn, hm, hs, ht⟩
theorem ArAt.at {base : Nat} {w : World} {G g c : Nat} {L : List R} {tot : Int} (h : ArAt base w G g c L tot) {i : Nat} (hi : i < L.length) :
    w.cell? ⟨g, i * 2, none⟩ = some (.int .u64 (L[i]).1) ∧ w.cell? ⟨g, i * 2 + 1, none⟩ = some (.int .u64 (L[i]).2) := by
  obtain ⟨h1, h2⟩ := cellsL_at L i L[i] (List.getElem?_eq_getElem hi)
  have hc := h.own.cells (g := g) rfl
  have hadd : ∀ j, (⟨g, 0, none⟩ : Addr).add j = ⟨g, j, none⟩ := fun j => by unfold Addr.add; split <;> simp_all
  exact ⟨by have := hc _ _ h1; rwa [hadd] at this, by have := hc _ _ h2; rwa [hadd] at this⟩

theorem ArAt.ne {base : Nat} {w : World} {G g c : Nat} {L : List R} {tot : Int} (h : ArAt base w G g c L tot) : G ≠ g := by
  obtain ⟨cur, hg, _⟩ := h.row
  intro e
  subst e
  have := hg.symm.trans h.blk
  injection this with this
  injection this with _ e _
  exact absurd e (by decide)
theorem ArAt.lt {base : Nat} {w : World} {G g c : Nat} {L : List R} {tot : Int} (h : ArAt base w G g c L tot) : G < w.heap.size ∧ g < w.heap.size := by
  obtain ⟨cur, hg, _⟩ := h.row
  exact ⟨heap_lt h.blk, heap_lt hg⟩
theorem setCell_block {w : World} {G i : Nat} {cs : Array Value} {t : TypeId} {fr : Nat × Nat} (h : w.heap[G]? = some (.cells cs t fr)) (u : Value) : (w.setCell ⟨G, i, none⟩ u).heap[G]? = some (.cells (cs.setIfInBounds i u) t fr) := by
  simp [World.setCell, Array.getElem?_modify, h]
/-- The sum is written anew. -/
theorem ArAt.setTot {base : Nat} {w : World} {G g c : Nat} {L : List R} {tot : Int} (h : ArAt base w G g c L tot) (tot' : Int) : ArAt base (w.setCell ⟨G, 1, none⟩ (.int .u64 tot')) G g c L tot' := by
  refine ⟨(setCell_block h.blk _).trans (by simp), ?_, h.one, h.ge⟩
  have hn := h.ne
  refine h.own.kept (row := some G) ⟨rfl, rfl, rfl, by simp, fun k _ hk => Below.heap_setCell _ _ _ _ (fun e => hk (by rw [e]))⟩ (.inr ?_)
  simp only [Value.ownBlock, ne_eq, Option.some.injEq]
  exact fun e => hn e.symm
/-- Another slice is stored into the list's field. -/
theorem ArAt.setSlice {base : Nat} {w w2 : World} {G g g' c c' : Nat} {L L' : List R} {tot : Int} (h : ArAt base w G g c L tot) (hg : w.grownBy w2 (some g))
    (own : w2.ownsRow base 67 2 (.slice (some ⟨g', 0, none⟩) L'.length c') L'.length (cellsL L')) (one : 1 ≤ c') :
    ArAt base (w2.setCell ⟨G, 0, none⟩ (.slice (some ⟨g', 0, none⟩) L'.length c')) G g' c' L' tot := by
  have hb : w2.heap[G]? = _ := (hg.block G (heap_lt h.blk) (fun e => h.ne (Option.some.inj e))).trans h.blk
  have h2 : ArAt base (w2.setCell ⟨G, 0, none⟩ (.slice (some ⟨g', 0, none⟩) L'.length c')) G g' c' L' tot ∨ G = g' := by
    by_cases e : G = g'
    · exact .inr e
    · refine .inl ⟨(setCell_block hb _).trans (by simp), ?_, one, h.ge⟩
      refine own.kept (row := some G) ⟨rfl, rfl, rfl, by simp, fun k _ hk => Below.heap_setCell _ _ _ _ (fun e => hk (by rw [e]))⟩ (.inr ?_)
      simp only [Value.ownBlock, ne_eq, Option.some.injEq]
      exact fun e' => e e'.symm
  rcases h2 with h2 | e
  · exact h2
  · subst e
    rcases own.2 with ⟨hv, _⟩ | ⟨g1, cap, cur, hv, _, hg1, _⟩
    · cases hv
    · injection hv with e1
      injection e1 with e1
      injection e1 with e1
      subst e1
      have := hg1.symm.trans hb
      injection this with this
      injection this with _ e _
      exact absurd e (by decide)

theorem ArAt.far {base : Nat} {w w2 : World} {G g c : Nat} {L : List R} {tot : Int} (h : ArAt base w G g c L tot) (hg : w.grownBy w2 (some g)) :
    w2.cell? ⟨G, 0, none⟩ = some (.slice (some ⟨g, 0, none⟩) L.length c) ∧ w2.cell? ⟨G, 1, none⟩ = some (.int .u64 tot) ∧ w2.frozen? ⟨G, 0, none⟩ = false ∧ w2.frozen? ⟨G, 1, none⟩ = false := by
  have hb : w2.heap[G]? = _ := (hg.block G (heap_lt h.blk) (fun e => h.ne (Option.some.inj e))).trans h.blk
  have h1 := fun i => cell_of_row w2 G i _ _ _ hb
  refine ⟨h1 0, h1 1, ?_, ?_⟩ <;> simp [World.frozen?, hb]
/-- In the round: the list as it stands, the range at hand, nothing older turned. -/
structure ArV (w : World) (G g c : Nat) (L : List R) (tot : Int) (V : Nat) (r : R) (w' : World) : Prop where
  ar : ArAt w.heap.size w' G g c L tot
  v0 : w'.cell? ⟨V, 0, none⟩ = some (.int .u64 r.1)
  v1 : w'.cell? ⟨V, 1, none⟩ = some (.int .u64 r.2)
  below : Below w.heap.size w w'
theorem ArV.nx {w w' w1 : World} {G g c : Nat} {L : List R} {tot : Int} {V : Nat} {r : R} (h : ArV w G g c L tot V r w') (n : Nx w' w1) : ArV w G g c L tot V r w1 :=
  ⟨h.ar.nx n, (Below.cell n (p := ⟨V, 0, none⟩) (World.block_lt_of_cell? w' _ h.v0)).trans h.v0, (Below.cell n (p := ⟨V, 1, none⟩) (World.block_lt_of_cell? w' _ h.v1)).trans h.v1, bl_step n h.below h.below.size⟩
theorem ArV.drew {w w' : World} {G g c : Nat} {L : List R} {tot : Int} {V : Nat} {r : R} (h : ArV w G g c L tot V r w') : ArV w G g c L tot V r w'.drew :=
  h.nx ((Below.refl _ _).drew)
theorem ArV.alloc {w w' : World} {G g c : Nat} {L : List R} {tot : Int} {V : Nat} {r : R} (h : ArV w G g c L tot V r w') (o : Obj) : ArV w G g c L tot V r (w'.alloc o) :=
  h.nx ((Below.refl _ _).alloc (Nat.le_refl _) _)

theorem ArV.append {w W w2 : World} {G g g' c c' : Nat} {M : List R} {tot : Int} {V : Nat} {r : R} (h : ArV w G g c M tot V r W) (hg : W.grownBy w2 (some g)) (hVg : V ≠ g) (hVG : V ≠ G)
    (own : w2.ownsRow w.heap.size 67 2 (.slice (some ⟨g', 0, none⟩) (M.length + 1) c') (M.length + 1) (cellsL M ++ [.int .u64 r.1, .int .u64 r.2])) :
    ArV w G g' c' (M ++ [r]) tot V r (w2.setCell ⟨G, 0, none⟩ (.slice (some ⟨g', 0, none⟩) (M.length + 1) c')) := by
  have e : (M ++ [r]).length = M.length + 1 := by simp
  have e2 : cellsL (M ++ [r]) = cellsL M ++ [.int .u64 r.1, .int .u64 r.2] := by rw [cellsL_append]; rfl
  have own2 : w2.ownsRow w.heap.size 67 2 (.slice (some ⟨g', 0, none⟩) (M ++ [r]).length c') (M ++ [r]).length (cellsL (M ++ [r])) := by rw [e, e2]; exact own
  have hone : 1 ≤ c' := by
    rcases own.2 with ⟨hv, _⟩ | ⟨g1, cap, cur, hv, _, _, hn, _⟩
    · cases hv
    · injection hv with _ _ e3; omega
  have ha := h.ar.setSlice hg own2 hone
  rw [e] at ha
  have hc : ∀ o v, W.cell? ⟨V, o, none⟩ = some v → (w2.setCell ⟨G, 0, none⟩ (.slice (some ⟨g', 0, none⟩) (M.length + 1) c')).cell? ⟨V, o, none⟩ = some v := fun o v hv => by
    rw [World.cell?_setCell_other _ _ _ _ (fun e => hVG (by injection e with e1; exact e1.symm))]
    exact hg.cell hv (fun e => hVg (Option.some.inj e))
  obtain ⟨cur, _, hbg, _⟩ := h.ar.row
  exact ⟨ha, hc 0 _ h.v0, hc 1 _ h.v1, (h.below.grown hg h.below.size (fun k e => by injection e with e; omega)).setCell h.ar.ge _⟩
theorem ArV.sum {w W : World} {G g c : Nat} {M : List R} {tot : Int} {V : Nat} {r : R} (h : ArV w G g c M tot V r W) (tot' : Int) :
    ArAt w.heap.size (W.setCell ⟨G, 1, none⟩ (.int .u64 tot')) G g c M tot' ∧ Below w.heap.size w (W.setCell ⟨G, 1, none⟩ (.int .u64 tot')) :=
  ⟨h.ar.setTot tot', h.below.setCell h.ar.ge _⟩
/-- A pointer to the package's list is handed back. -/
def RetAr (L : List R) (w : World) (e : Ending) (w' : World) : Prop := ∃ G g c, e = .returned (.pointer (some ⟨G, 0, none⟩)) ∧ ArAt w.heap.size w' G g c L (totL L) ∧ Nx w w'

set_option maxHeartbeats 2000000 in
theorem mins_any (A : Option Addr) (c : Nat) (L : List R) (w : World) (h : SlAt w A c L) (hn : L.length ≤ 65536) (hL : InB L) :
    Calls Try.prog 41 #[.slice A L.length c] w (RetAr L w) := by
  obtain ⟨i0, hi, hz0, hz1, hz2⟩ := info_parts info_addrRange
  have hmk : ∀ u : World, (Instr.makeSlice 81 (.int .i64 0) (.int .i64 16)).run Try.prog u = .ok (.slice (some ⟨u.heap.size, 0, none⟩) 0 16) (u.alloc (.cells (madeCells #[.int .u64 0, .int .u64 0] 32) 67)) := fun u => by
    have h := run_make (P := Try.prog) u 81 67 i0 _ Try.underlying81 hi hz0 .i64 .i64 0 16 (by omega) (by omega) (by rw [hz2]; omega) (by omega)
    simpa [hz1, Value.cells] using h
  go_enter Try.func41, Try.ntmps41
  go_wp2
  go_loopg [11] L.length (fun gn i wr => ∃ k g c' : Nat, k + gn = L.length ∧ i = .int .i64 k ∧ ArAt w.heap.size wr (w.heap.size + 1) g c' (L.take k) (totL (L.take k)) ∧ Below w.heap.size w wr)
  case atStart =>
    refine ⟨0, w.heap.size, 16, by omega, rfl, ⟨by have := heap_alloc_new (w.alloc (.cells (madeCells #[.int .u64 0, .int .u64 0] 32) 67)) (.cells #[.slice (some ⟨w.heap.size, 0, none⟩) 0 16, .int .u64 0] 83); simpa [totL] using this, ?_, by omega, by omega⟩, ((Below.refl _ _).alloc (Nat.le_refl _) _).alloc (by simp) _⟩
    exact ((World.ownsRow_made w _ 16 (Nat.le_refl _) (by decide) (by simp [size_madeCells])).alloc _)
  case round =>
    obtain ⟨k, g, c', hk, rfl, har, hb⟩ := hrel
    by_cases hlt : k < L.length
    · obtain ⟨gs, rfl, hgs, hc0, hc1⟩ := (h.below hb (Nat.le_refl _)).at hlt
      have hbd := hL.at hlt
      have hlts := har.lt
      have hs2 := own_snoc (v' := .pointer none) (t := 0) (base := 0) (w1 := w) hlt
      have hMk : (L.take k).length ≤ 65536 := by rw [List.length_take]; omega
      have hT := totL_take L k hlt
      have hTb := totL_bd _ (hL.take k)
      have hsn : L.take (k + 1) = L.take k ++ [L[k]] := by rw [List.take_succ_eq_append_getElem hlt]
      generalize hM : L.take k = M at har hMk hTb hT hsn
      generalize hr : L[k] = r at hc0 hc1 hT hsn hbd
      have HM := Lib.hid (And.intro hT hsn)
      clear hs2 hT hsn hM hr
      go_upto_region 5 with fail
      have hv : ArV w (w.heap.size + 1) g c' M (totL M) wr.heap.size r (wr.alloc (.cells #[.int .u64 r.1, .int .u64 r.2] 52)) := ⟨har.alloc _, by simp, by simp, hb.alloc hb.size _⟩
      have hV : wr.heap.size ≠ g ∧ wr.heap.size ≠ w.heap.size + 1 := by omega
      generalize wr.alloc (.cells #[.int .u64 r.1, .int .u64 r.2] 52) = W at hv ⊢
      go_cut [] (fun wc => ∃ g' c'' : Nat, ArV w (w.heap.size + 1) g' c'' (M ++ [r]) (totL M) wr.heap.size r wc)
      case first =>
        obtain ⟨q0, q1, q2, q3⟩ := hv.ar.cells
        have p0 := hv.v0
        have p1 := hv.v1
        go_region_law (first | (refine step_append_lies _ (by rfl) _ _ _ (by rfl) w.heap.size 67 i0 (.agg #[.int .u64 0, .int .u64 0]) 2 16 Try.underlying81 hi hz0 hz1 hz2 rfl (by omega) (.slice (some ⟨g, 0, none⟩) M.length c') M.length (cellsL M) (by rfl) (((hv.drew.nx n1).alloc _).ar.own) ⟨_, 0, none⟩ 1 1 [.int .u64 r.1, .int .u64 r.2] (by rfl) (by rfl) (pair_new _ _ _ _ rfl) (cellsL_one [r]) (by omega) (by unfold maxLen; omega) (by omega) (((hv.drew.nx n1).alloc _).below.size) _ rfl ?_; intro g' cap w2 hown1 hgrow hat hlt'; obtain ⟨z0, z1, z2, z3⟩ := (((hv.drew.nx n1).alloc _).ar).far hgrow) | (go_simp; go_at_call 37; refine (min_any _ _ _).mono ?_; rintro e w1 ⟨rfl, n1⟩; obtain ⟨y0, y1, y2, y3⟩ := (hv.drew.nx n1).ar.cells; obtain ⟨y4, y5, y6, y7⟩ := ((hv.drew.nx n1).alloc (.cells #[.int .u64 r.1, .int .u64 r.2] 67)).ar.cells))
        all_goals (go_wp2_with fail; go_meet)
        all_goals exact ⟨g', cap, ((hv.drew.nx n1).alloc _).append hgrow hV.1 hV.2 hown1⟩
      case rest =>
        obtain ⟨g', c'', hv⟩ := hcut
        go_upto_region 6 with fail
        obtain ⟨q0, q1, q2, q3⟩ := hv.ar.cells
        have p0 := hv.v0
        have p1 := hv.v1
        have hsz := szI_bd r.1 r.2 (by omega) (by omega) (by omega)
        go_region_law (first | (go_simp; go_at_call 37; refine (min_any _ _ _).mono ?_; rintro e w1 ⟨rfl, n1⟩; obtain ⟨y0, y1, y2, y3⟩ := (hv.drew.nx n1).ar.cells) | (go_simp; go_at_call 38; refine (rsize_any _ _ _ (by omega) (by omega) (by omega) (by omega)).mono ?_; rintro e w2 ⟨rfl, n2⟩; obtain ⟨x0, x1, x2, x3⟩ := ((hv.drew.nx n1).nx n2).ar.cells))
        all_goals have hA := ((hv.drew.nx n1).nx n2).sum (totL M + szI r.1 r.2)
        all_goals go_wp2
        all_goals go_roundg (L.length - (k + 1))
        all_goals first | (case measure => omega) | skip
        all_goals exact ⟨k + 1, g', c'', by omega, by go_num, by rw [HM.out.1, HM.out.2]; exact hA.1, hA.2⟩
    · have hkl : k = L.length := by omega
      subst hkl
      rw [List.take_length] at har
      go_wp2
      go_ret
      exact ⟨_, g, c', rfl, har, hb⟩
end Go.Proofs.Ytnmljgjcdofboaa
