/- The last range of the package's list is cut or taken away. -/
import Derived.Test.YtnmljgjcdofboaaFi
import Derived.Test.YtnmljgjcdofboaaRw
import Derived.Laws.OwnMore
import Derived.Deep.DeepCutAuto
namespace Go.Proofs.Ytnmljgjcdofboaa
open Go.RowKit
set_option linter.unusedVariables false
set_option linter.unusedSimpArgs false

theorem grownBy_refl (w : World) (r : Option Nat) : w.grownBy w r := ⟨rfl, rfl, rfl, Nat.le_refl _, fun _ _ _ => rfl⟩
theorem own_take {w : World} {base g c n k : Nat} {e : TypeId} {L : List R} (h : w.ownsRow base e 2 (.slice (some ⟨g, 0, none⟩) n c) n (cellsL L)) (hk : k ≤ n) (hn : L.length = n) :
    w.ownsRow base e 2 (.slice (some ⟨g, 0, none⟩) k c) k (cellsL (L.take k)) := by
  obtain ⟨_, h2⟩ := h
  rcases h2 with ⟨h0, _⟩ | ⟨g', cap', cur, hv, hg, hh, hnc, hcap, hsz, htake⟩
  · cases h0
  · cases hv
    refine ⟨by rw [cellsL_length, List.length_take]; omega, .inr ⟨g, c, cur, rfl, hg, hh, by omega, hcap, hsz, ?_⟩⟩
    have h3 : (cur.toList.take (n * 2)).take (k * 2) = (cellsL L).take (k * 2) := by rw [htake]
    rw [List.take_take, Nat.min_eq_left (by omega)] at h3
    rw [h3]
    have e : cellsL L = cellsL (L.take k) ++ cellsL (L.drop k) := by rw [← cellsL_append, List.take_append_drop]
    rw [e]
    exact List.take_left' (by rw [cellsL_length, List.length_take]; omega)
theorem cellsL_set2 : ∀ (L : List R) (i : Nat) (hi : i < L.length) (v : Int), cellsL (L.set i ((L[i]).1, v)) = (cellsL L).set (i * 2 + 1) (.int .u64 v)
  | r :: L, 0, _, v => rfl
  | r :: L, i + 1, hi, v => by
    have := cellsL_set2 L i (by simpa using hi) v
    rw [List.set_cons_succ, cellsL_cons, cellsL_cons, show (i + 1) * 2 + 1 = i * 2 + 1 + 1 + 1 by omega, List.set_cons_succ, List.set_cons_succ, ← this]
    rfl
theorem cellsL_set1 : ∀ (L : List R) (i : Nat) (hi : i < L.length) (v : Int), cellsL (L.set i (v, (L[i]).2)) = (cellsL L).set (i * 2) (.int .u64 v)
  | r :: L, 0, _, v => rfl
  | r :: L, i + 1, hi, v => by
    have := cellsL_set1 L i (by simpa using hi) v
    rw [List.set_cons_succ, cellsL_cons, cellsL_cons, show (i + 1) * 2 = i * 2 + 1 + 1 by omega, List.set_cons_succ, List.set_cons_succ, ← this]
    rfl
theorem ArAt.cut {base : Nat} {w : World} {G g c : Nat} {L : List R} {tot : Int} (h : ArAt base w G g c L tot) {k : Nat} (hk : k ≤ L.length) :
    ArAt base (w.setCell ⟨G, 0, none⟩ (.slice (some ⟨g, 0, none⟩) k c)) G g c (L.take k) tot := by
  have e : (L.take k).length = k := by rw [List.length_take]; omega
  have := h.setSlice (L' := L.take k) (grownBy_refl w _) (by rw [e]; exact own_take h.own hk rfl) h.one
  rwa [e] at this
theorem ArAt.setRow {base : Nat} {w : World} {G g c : Nat} {L L' : List R} {tot : Int} (h : ArAt base w G g c L tot) {j : Nat} {u : Value} (hl : L'.length = L.length) (hc : cellsL L' = (cellsL L).set j u) :
    ArAt base (w.setCell ⟨g, j, none⟩ u) G g c L' tot := by
  have hs := (h.own.stored j u).1
  have hne := h.ne
  exact ⟨by rw [hl]; exact (Below.heap_setCell _ _ _ _ (fun e => hne e)).trans h.blk, by rw [hl, hc]; exact hs, h.one, h.ge⟩
theorem ArAt.setLim {base : Nat} {w : World} {G g c : Nat} {L : List R} {tot : Int} (h : ArAt base w G g c L tot) {i : Nat} (hi : i < L.length) (v : Int) :
    ArAt base (w.setCell ⟨g, i * 2 + 1, none⟩ (.int .u64 v)) G g c (L.set i ((L[i]).1, v)) tot := h.setRow (by simp) (cellsL_set2 L i hi v)
theorem ArAt.setBase {base : Nat} {w : World} {G g c : Nat} {L : List R} {tot : Int} (h : ArAt base w G g c L tot) {i : Nat} (hi : i < L.length) (v : Int) :
    ArAt base (w.setCell ⟨g, i * 2, none⟩ (.int .u64 v)) G g c (L.set i (v, (L[i]).2)) tot := h.setRow (by simp) (cellsL_set1 L i hi v)
theorem ArAt.off {base : Nat} {w : World} {G g c : Nat} {L : List R} {tot : Int} (h : ArAt base w G g c L tot) (p : Addr) (v : Value) (hG : p.block ≠ G) (hg : p.block ≠ g) : ArAt base (w.setCell p v) G g c L tot :=
  ⟨(Below.heap_setCell _ _ _ _ (fun e => hG e.symm)).trans h.blk, h.own.kept (row := some p.block) ⟨rfl, rfl, rfl, by simp, fun k _ hk => Below.heap_setCell _ _ _ _ (fun e => hk (by rw [e]))⟩ (.inr (by simp only [Value.ownBlock, ne_eq, Option.some.injEq]; exact fun e => hg e.symm)), h.one, h.ge⟩
theorem ArAt.gge {base : Nat} {w : World} {G g c : Nat} {L : List R} {tot : Int} (h : ArAt base w G g c L tot) : base ≤ g := by
  obtain ⟨cur, _, hg, _⟩ := h.row
  exact hg

theorem osub_any (a n : Int) (w : World) (hn : 0 ≤ n) (hna : n ≤ a) (ha : a < 4398046511104) :
    Calls Try.prog 53 #[.agg #[.int .u64 a], .int .u64 n] w fun e w' => e = .returned (.agg #[.int .u64 (a - n)]) ∧ Nx w w' := by
  have ew : IntKind.u64.wrap (a - n) = a - n := IntWalk.u64_in _ (by omega)
  go_enter Try.func53, Try.ntmps53
  go_wp2
  exact bodyPost_ret (v := .agg #[.int .u64 (a - n)]) (by simp [results, Try.results53, go_sem]) rfl ⟨rfl, (by show Below _ _ _; repeat (first | (with_reducible exact Below.refl _ _) | (with_reducible assumption) | (with_reducible refine Below.drew ?_) | ((with_reducible refine Below.alloc ?_ ?_ _); rotate_left; (focus first | omega | (simp; done) | (simp; omega))) | ((with_reducible refine Below.setCell ?_ ?_ _); rotate_left; (focus first | omega | (simp; done) | (simp; omega))) | ((with_reducible refine bl_step (by assumption) ?_ ?_); rotate_left; (focus first | omega | (simp; done) | (simp; omega)))))⟩

theorem ArAt.drew {base : Nat} {w : World} {G g c : Nat} {L : List R} {tot : Int} (h : ArAt base w G g c L tot) : ArAt base w.drew G g c L tot := h.nx ((Below.refl _ _).drew)


/-- The last range is longer than what is taken. -/
theorem lremoveLast_part (base G g c m : Nat) (L : List R) (tot n : Int) (r : R) (w : World) (h : ArAt base w G g c L tot) (hm : L.length = m + 1) (hr : ∀ (hi : m < L.length), L[m] = r) (hn : m + 1 ≤ 65536)
    (hb : 0 ≤ r.1 ∧ r.1 < r.2 ∧ r.2 < 4398046511104) (hn0 : 0 ≤ n) (hnr : n < r.2 - r.1) (ht : 0 ≤ tot - n) (ht' : tot < 18446744073709551616) :
    Calls Try.prog 44 #[.pointer (some ⟨G, 0, none⟩), .int .u64 n] w fun e w' => e = .returned (.agg #[.int .u64 (r.2 - n), .int .u64 r.2]) ∧ ArAt base w' G g c (L.set m (r.1, r.2 - n)) (tot - n) ∧ Below base w w' := by
  have ewt : IntKind.u64.wrap (tot - n) = tot - n := IntWalk.u64_in _ (by omega)
  have hi : m < L.length := by omega
  have hS : ∀ w', Nx w w' → w'.cell? ⟨G, 0, none⟩ = some (.slice (some ⟨g, 0, none⟩) (m + 1) c) ∧ w'.cell? ⟨g, m * 2, none⟩ = some (.int .u64 r.1) ∧ w'.cell? ⟨g, m * 2 + 1, none⟩ = some (.int .u64 r.2) ∧ Nx w w' := fun w' k => by
    have hk := h.nx k
    obtain ⟨c0, c1⟩ := hk.at hi
    rw [hr hi] at c0 c1
    have q0 := hk.cells.1
    rw [hm] at q0
    exact ⟨q0, c0, c1, k⟩
  obtain ⟨q0, q1, q2, q3⟩ := h.cells
  rw [hm] at q0
  have hlt := h.lt
  have hne := h.ne
  have hgg := h.gge
  have hne0 : (((m + 1 : Nat) : Int) == 0) = false := by rw [beq_eq_false_iff_ne]; omega
  have hwi : IntKind.i64.wrap (m : Int) = m := IntWalk.i64_in _ (by omega)
  have hm0 : (0 : Int) ≤ m := by omega
  have hm1 : (m : Int) < m + 1 := by omega
  have hsz : szI r.1 r.2 = r.2 - r.1 := by unfold szI; split <;> omega
  go_enter Try.func44, Try.ntmps44
  go_wp2_with fail
  refine wp_region_held_drew (S := fun w' => w'.cell? ⟨G, 0, none⟩ = some (.slice (some ⟨g, 0, none⟩) (m + 1) c) ∧ w'.cell? ⟨g, m * 2, none⟩ = some (.int .u64 r.1) ∧ w'.cell? ⟨g, m * 2 + 1, none⟩ = some (.int .u64 r.2) ∧ Nx w w') (by kernel_rfl) ?_ (fun hHeld => ?_)
  focus (exact hS _ (by show Below _ _ _; repeat (first | (with_reducible exact Below.refl _ _) | (with_reducible assumption) | (with_reducible refine Below.drew ?_) | ((with_reducible refine Below.alloc ?_ ?_ _); rotate_left; (focus first | omega | (simp; done) | (simp; omega))) | ((with_reducible refine Below.setCell ?_ ?_ _); rotate_left; (focus first | omega | (simp; done) | (simp; omega))) | ((with_reducible refine bl_step (by assumption) ?_ ?_); rotate_left; (focus first | omega | (simp; done) | (simp; omega))))))
  (refine takeT (i := 0) (v := ?_) rfl ?_ (fun _ _ _ h => h) rfl hHeld ?_ ?_; rotate_left; (focus kernel_rfl); (focus (intro w hSw; (try dsimp only at hSw); go_simp; (try with_reducible rfl))); (try simp only [Act.put, List.setIfInBounds_toArray, List.set_cons_zero, List.set_cons_succ]))
  (refine takeT (i := 1) (v := ?_) rfl ?_ (fun _ _ _ h => h) rfl hHeld ?_ ?_; rotate_left; (focus kernel_rfl); (focus (intro w hSw; (try dsimp only at hSw); go_simp; (try with_reducible rfl))); (try simp only [Act.put, List.setIfInBounds_toArray, List.set_cons_zero, List.set_cons_succ]))
  (refine takeT (i := 2) (v := ?_) rfl ?_ (fun _ _ _ h => h) rfl hHeld ?_ ?_; rotate_left; (focus kernel_rfl); (focus (intro w hSw; (try dsimp only at hSw); go_simp; (try with_reducible rfl))); (try simp only [Act.put, List.setIfInBounds_toArray, List.set_cons_zero, List.set_cons_succ]))
  (refine takeT (i := 3) (v := ?_) rfl ?_ (fun _ _ _ h => h) rfl hHeld ?_ ?_; rotate_left; (focus kernel_rfl); (focus (intro w hSw; (try dsimp only at hSw); go_simp; (try with_reducible rfl))); (try simp only [Act.put, List.setIfInBounds_toArray, List.set_cons_zero, List.set_cons_succ]))
  (refine takeT (i := 4) (v := ?_) rfl ?_ (fun _ _ _ h => h) rfl hHeld ?_ ?_; rotate_left; (focus kernel_rfl); (focus (intro w hSw; (try dsimp only at hSw); go_simp; (try with_reducible rfl))); (try simp only [Act.put, List.setIfInBounds_toArray, List.set_cons_zero, List.set_cons_succ]))
  (refine takeT (i := 5) (v := ?_) rfl ?_ (fun _ _ _ h => h) rfl hHeld ?_ ?_; rotate_left; (focus kernel_rfl); (focus (intro w hSw; (try dsimp only at hSw); go_simp; (try with_reducible rfl))); (try simp only [Act.put, List.setIfInBounds_toArray, List.set_cons_zero, List.set_cons_succ]))
  (refine takeT (i := 6) (v := ?_) rfl ?_ (fun _ _ _ h => h) rfl hHeld ?_ ?_; rotate_left; (focus kernel_rfl); (focus (intro w hSw; (try dsimp only at hSw); go_simp; (try with_reducible rfl))); (try simp only [Act.put, List.setIfInBounds_toArray, List.set_cons_zero, List.set_cons_succ]))
  (refine takeT (i := 7) (v := ?_) rfl ?_ (fun _ _ _ h => h) rfl hHeld ?_ ?_; rotate_left; (focus kernel_rfl); (focus (intro w hSw; (try dsimp only at hSw); go_simp; (try with_reducible rfl))); (try simp only [Act.put, List.setIfInBounds_toArray, List.set_cons_zero, List.set_cons_succ]))
  (refine takeT (i := 8) (v := ?_) rfl ?_ (fun _ _ _ h => h) rfl hHeld ?_ ?_; rotate_left; (focus kernel_rfl); (focus (intro w hSw; (try dsimp only at hSw); go_simp; (try with_reducible rfl))); (try simp only [Act.put, List.setIfInBounds_toArray, List.set_cons_zero, List.set_cons_succ]))
  (refine takeT (i := 9) (v := ?_) rfl ?_ (fun _ _ _ h => h) rfl hHeld ?_ ?_; rotate_left; (focus kernel_rfl); (focus (intro w hSw; (try dsimp only at hSw); go_simp; (try with_reducible rfl))); (try simp only [Act.put, List.setIfInBounds_toArray, List.set_cons_zero, List.set_cons_succ]))
  (refine takeT (i := 10) (v := ?_) rfl ?_ (fun _ _ _ h => h) rfl hHeld ?_ ?_; rotate_left; (focus kernel_rfl); (focus (intro w hSw; (try dsimp only at hSw); go_simp; (try with_reducible rfl))); (try simp only [Act.put, List.setIfInBounds_toArray, List.set_cons_zero, List.set_cons_succ]))
  (refine takeT (i := 11) (v := ?_) rfl ?_ (fun _ _ _ h => h) rfl hHeld ?_ ?_; rotate_left; (focus kernel_rfl); (focus (intro w hSw; (try dsimp only at hSw); go_simp; (try with_reducible rfl))); (try simp only [Act.put, List.setIfInBounds_toArray, List.set_cons_zero, List.set_cons_succ]))
  (refine doOne (i := 12) rfl ?_ (fun K hK => ?_); (focus kernel_rfl))
  ((first | fail | go_simp); (first | ((first | fail); go_wp2_with fail) | skip); refine hK.out _ _ ?_ (fun hHeldN => ?_); (focus (have hq := hHeld; (try dsimp only at hq); go_split_ands; exact hS _ (by show Below _ _ _; repeat (first | (with_reducible exact Below.refl _ _) | (with_reducible assumption) | (with_reducible refine Below.drew ?_) | ((with_reducible refine Below.alloc ?_ ?_ _); rotate_left; (focus first | omega | (simp; done) | (simp; omega))) | ((with_reducible refine Below.setCell ?_ ?_ _); rotate_left; (focus first | omega | (simp; done) | (simp; omega))) | ((with_reducible refine bl_step (by assumption) ?_ ?_); rotate_left; (focus first | omega | (simp; done) | (simp; omega))))))); clear hHeld hK K; have hHeld := hHeldN; clear hHeldN; (try simp only [Act.put, List.setIfInBounds_toArray, List.set_cons_zero, List.set_cons_succ]))
  (refine doOne (i := 13) rfl ?_ (fun K hK => ?_); (focus kernel_rfl))
  ((first | fail | go_simp); (first | ((first | fail); go_wp2_with fail) | skip); refine hK.out _ _ ?_ (fun hHeldN => ?_); (focus (have hq := hHeld; (try dsimp only at hq); go_split_ands; exact hS _ (by show Below _ _ _; repeat (first | (with_reducible exact Below.refl _ _) | (with_reducible assumption) | (with_reducible refine Below.drew ?_) | ((with_reducible refine Below.alloc ?_ ?_ _); rotate_left; (focus first | omega | (simp; done) | (simp; omega))) | ((with_reducible refine Below.setCell ?_ ?_ _); rotate_left; (focus first | omega | (simp; done) | (simp; omega))) | ((with_reducible refine bl_step (by assumption) ?_ ?_); rotate_left; (focus first | omega | (simp; done) | (simp; omega))))))); clear hHeld hK K; have hHeld := hHeldN; clear hHeldN; (try simp only [Act.put, List.setIfInBounds_toArray, List.set_cons_zero, List.set_cons_succ]))
  (refine wpAnyH_done (by kernel_rfl) ?_ _)
  replace hHeld := hHeld.2.2.2
  have bR : Bk (((w.alloc (.cells #[.int .u64 0, .int .u64 0] 67)).alloc (.cells #[.int .u64 r.1, .int .u64 r.2] 67)).drew) w.heap.size #[.int .u64 0, .int .u64 0] 67 := ((Bk.new w _ _).alloc _).drew
  have bV : Bk (((w.alloc (.cells #[.int .u64 0, .int .u64 0] 67)).alloc (.cells #[.int .u64 r.1, .int .u64 r.2] 67)).drew) (w.heap.size + 1) #[.int .u64 r.1, .int .u64 r.2] 67 := by have := Bk.new (w.alloc (.cells #[.int .u64 0, .int .u64 0] 67)) #[.int .u64 r.1, .int .u64 r.2] 67; simpa using this.drew
  generalize (((w.alloc (.cells #[.int .u64 0, .int .u64 0] 67)).alloc (.cells #[.int .u64 r.1, .int .u64 r.2] 67)).drew) = W at hHeld bR bV ⊢
  clear hS q0 q1 q2 q3
  have v0 := bV.cell 0
  have v1 := bV.cell 1
  go_wp2_with fail
  refine (rsize_any _ _ _ (by omega) (by omega) (by omega) (by omega)).mono ?_
  rintro e w1 ⟨rfl, n1⟩
  rw [hsz]
  replace bR := bR.nx n1
  replace bV := bV.nx n1
  replace hHeld : Nx w w1 := bl_step n1 hHeld hHeld.size
  clear v0 v1 n1
  have v0 := bV.cell 0
  have v1 := bV.cell 1
  go_wp2_with fail
  refine (osub_any _ _ _ hn0 (by omega) (by omega)).mono ?_
  rintro e w2 ⟨rfl, n2⟩
  replace bR := bR.nx n2
  replace bV := bV.nx n2
  replace hHeld : Nx w w2 := bl_step n2 hHeld hHeld.size
  clear v0 v1 n2
  have bE := Bk.new w2 #[.int .u64 (r.2 - n)] 65
  replace bR := bR.alloc (.cells #[.int .u64 (r.2 - n)] 65)
  replace bV := bV.alloc (.cells #[.int .u64 (r.2 - n)] 65)
  have hEl := hHeld.size
  replace hHeld : Nx w (w2.alloc (.cells #[.int .u64 (r.2 - n)] 65)) := hHeld.alloc hHeld.size _
  go_upto_region 7 with fail
  generalize w2.alloc (.cells #[.int .u64 (r.2 - n)] 65) = U at hHeld bE bR bV ⊢
  have hA0 := h.nx hHeld
  have u1 := (hA0.at hi).2
  have u2 := hA0.own.frozenAt (m * 2 + 1)
  have hgE : g ≠ w2.heap.size := by omega
  have hGE : G ≠ w2.heap.size := by omega
  have hgG : g ≠ G := fun e => hne e.symm
  have hq0 := hA0.drew.cells.1
  rw [hm] at hq0
  have z0 := bE.drew.cell 0
  have kb := hHeld
  clear hHeld
  refine wp_region_held_drew (S := fun w' => w'.cell? ⟨G, 0, none⟩ = some (.slice (some ⟨g, 0, none⟩) (m + 1) c) ∧ w'.cell? ⟨w2.heap.size, 0, none⟩ = some (.int .u64 (r.2 - n))) (by kernel_rfl) ?_ (fun hHeld => ?_)
  focus (exact ⟨hq0, z0⟩)
  (refine takeT (i := 0) (v := ?_) rfl ?_ (fun _ _ _ h => h) rfl hHeld ?_ ?_; rotate_left; (focus kernel_rfl); (focus (intro w hSw; (try dsimp only at hSw); go_simp; (try with_reducible rfl))); (try simp only [Act.put, List.setIfInBounds_toArray, List.set_cons_zero, List.set_cons_succ]))
  (refine takeT (i := 1) (v := ?_) rfl ?_ (fun _ _ _ h => h) rfl hHeld ?_ ?_; rotate_left; (focus kernel_rfl); (focus (intro w hSw; (try dsimp only at hSw); go_simp; (try with_reducible rfl))); (try simp only [Act.put, List.setIfInBounds_toArray, List.set_cons_zero, List.set_cons_succ]))
  (refine takeT (i := 2) (v := ?_) rfl ?_ (fun _ _ _ h => h) rfl hHeld ?_ ?_; rotate_left; (focus kernel_rfl); (focus (intro w hSw; (try dsimp only at hSw); go_simp; (try with_reducible rfl))); (try simp only [Act.put, List.setIfInBounds_toArray, List.set_cons_zero, List.set_cons_succ]))
  (refine takeT (i := 3) (v := ?_) rfl ?_ (fun _ _ _ h => h) rfl hHeld ?_ ?_; rotate_left; (focus kernel_rfl); (focus (intro w hSw; (try dsimp only at hSw); go_simp; (try with_reducible rfl))); (try simp only [Act.put, List.setIfInBounds_toArray, List.set_cons_zero, List.set_cons_succ]))
  (refine takeT (i := 4) (v := ?_) rfl ?_ (fun _ _ _ h => h) rfl hHeld ?_ ?_; rotate_left; (focus kernel_rfl); (focus (intro w hSw; (try dsimp only at hSw); go_simp; (try with_reducible rfl))); (try simp only [Act.put, List.setIfInBounds_toArray, List.set_cons_zero, List.set_cons_succ]))
  (refine takeT (i := 5) (v := ?_) rfl ?_ (fun _ _ _ h => h) rfl hHeld ?_ ?_; rotate_left; (focus kernel_rfl); (focus (intro w hSw; (try dsimp only at hSw); go_simp; (try with_reducible rfl))); (try simp only [Act.put, List.setIfInBounds_toArray, List.set_cons_zero, List.set_cons_succ]))
  (refine takeT (i := 6) (v := ?_) rfl ?_ (fun _ _ _ h => h) rfl hHeld ?_ ?_; rotate_left; (focus kernel_rfl); (focus (intro w hSw; (try dsimp only at hSw); go_simp; (try with_reducible rfl))); (try simp only [Act.put, List.setIfInBounds_toArray, List.set_cons_zero, List.set_cons_succ]))
  (refine takeT (i := 7) (v := ?_) rfl ?_ (fun _ _ _ h => h) rfl hHeld ?_ ?_; rotate_left; (focus kernel_rfl); (focus (intro w hSw; (try dsimp only at hSw); go_simp; (try with_reducible rfl))); (try simp only [Act.put, List.setIfInBounds_toArray, List.set_cons_zero, List.set_cons_succ]))
  (refine takeT (i := 8) (v := ?_) rfl ?_ (fun _ _ _ h => h) rfl hHeld ?_ ?_; rotate_left; (focus kernel_rfl); (focus (intro w hSw; (try dsimp only at hSw); go_simp; (try with_reducible rfl))); (try simp only [Act.put, List.setIfInBounds_toArray, List.set_cons_zero, List.set_cons_succ]))
  (refine takeT (i := 9) (v := ?_) rfl ?_ (fun _ _ _ h => h) rfl hHeld ?_ ?_; rotate_left; (focus kernel_rfl); (focus (intro w hSw; (try dsimp only at hSw); go_simp; (try with_reducible rfl))); (try simp only [Act.put, List.setIfInBounds_toArray, List.set_cons_zero, List.set_cons_succ]))
  (refine takeT (i := 10) (v := ?_) rfl ?_ (fun _ _ _ h => h) rfl hHeld ?_ ?_; rotate_left; (focus kernel_rfl); (focus (intro w hSw; (try dsimp only at hSw); go_simp; (try with_reducible rfl))); (try simp only [Act.put, List.setIfInBounds_toArray, List.set_cons_zero, List.set_cons_succ]))
  (refine takeT (i := 11) (v := ?_) rfl ?_ (fun _ _ _ h => h) rfl hHeld ?_ ?_; rotate_left; (focus kernel_rfl); (focus (intro w hSw; (try dsimp only at hSw); go_simp; (try with_reducible rfl))); (try simp only [Act.put, List.setIfInBounds_toArray, List.set_cons_zero, List.set_cons_succ]))
  (refine takeT (i := 12) (v := ?_) rfl ?_ (fun _ _ _ h => h) rfl hHeld ?_ ?_; rotate_left; (focus kernel_rfl); (focus (intro w hSw; (try dsimp only at hSw); go_simp; (try with_reducible rfl))); (try simp only [Act.put, List.setIfInBounds_toArray, List.set_cons_zero, List.set_cons_succ]))
  (refine doOne (i := 13) rfl ?_ (fun K hK => ?_); (focus kernel_rfl))
  ((first | fail | go_simp); (first | ((first | fail); go_wp2_with fail) | skip); refine hK.out _ _ ?_ (fun hHeldN => ?_); (focus (exact ⟨(World.cell?_setCell_far _ _ _ _ hgG).trans hHeld.1, (World.cell?_setCell_far _ _ _ _ hgE).trans hHeld.2⟩)); clear hHeld hK K; have hHeld := hHeldN; clear hHeldN; (try simp only [Act.put, List.setIfInBounds_toArray, List.set_cons_zero, List.set_cons_succ]))
  (refine wpAnyH_done (by kernel_rfl) ?_ _)
  have hA2 := (hA0.setLim hi (r.2 - n)).drew
  rw [hr hi] at hA2
  have hB2 : Below base w (U.setCell ⟨g, m * 2 + 1, none⟩ (.int .u64 (r.2 - n))).drew := ((kb.mono (by omega)).setCell (p := ⟨g, m * 2 + 1, none⟩) hgg (.int .u64 (r.2 - n))).drew
  replace bR := (bR.far ⟨g, m * 2 + 1, none⟩ (.int .u64 (r.2 - n)) (show g ≠ _ by omega)).drew
  replace bV := (bV.far ⟨g, m * 2 + 1, none⟩ (.int .u64 (r.2 - n)) (show g ≠ _ by omega)).drew
  replace bE := (bE.far ⟨g, m * 2 + 1, none⟩ (.int .u64 (r.2 - n)) (show g ≠ _ by omega)).drew
  clear hA0 u1 u2 hq0 z0 hHeld kb
  generalize (U.setCell ⟨g, m * 2 + 1, none⟩ (.int .u64 (r.2 - n))).drew = X at hA2 hB2 bR bV bE ⊢
  obtain ⟨q0, q1, q2, q3⟩ := hA2.cells
  go_upto_region 9 with fail
  have hA3 := hA2.setTot (tot - n)
  have hB3 := hB2.setCell (p := ⟨G, 1, none⟩) h.ge (.int .u64 (tot - n))
  replace bR := bR.far ⟨G, 1, none⟩ (.int .u64 (tot - n)) (show G ≠ _ by omega)
  replace bV := bV.far ⟨G, 1, none⟩ (.int .u64 (tot - n)) (show G ≠ _ by omega)
  replace bE := bE.far ⟨G, 1, none⟩ (.int .u64 (tot - n)) (show G ≠ _ by omega)
  clear q0 q1 q2 q3
  generalize X.setCell ⟨G, 1, none⟩ (.int .u64 (tot - n)) = Y at hA3 hB3 bR bV bE ⊢
  have hr0 := bR.cell 0
  have hr1 := bR.cell 1
  have hf0 := bR.froz 0
  have hf1 := bR.froz 1
  have v1 := bV.cell 1
  have z0 := bE.cell 0
  replace bR := (bR.set 0 (.int .u64 (r.2 - n))).set 1 (.int .u64 r.2)
  replace hA3 := (hA3.off ⟨w.heap.size, 0, none⟩ (.int .u64 (r.2 - n)) (show w.heap.size ≠ G by omega) (show w.heap.size ≠ g by omega)).off ⟨w.heap.size, 1, none⟩ (.int .u64 r.2) (show w.heap.size ≠ G by omega) (show w.heap.size ≠ g by omega)
  replace hB3 := (hB3.setCell (p := ⟨w.heap.size, 0, none⟩) (show base ≤ w.heap.size by omega) (.int .u64 (r.2 - n))).setCell (p := ⟨w.heap.size, 1, none⟩) (show base ≤ w.heap.size by omega) (.int .u64 r.2)
  go_wp2
  generalize (Y.setCell ⟨w.heap.size, 0, none⟩ (.int .u64 (r.2 - n))).setCell ⟨w.heap.size, 1, none⟩ (.int .u64 r.2) = Z at bR hA3 hB3 ⊢
  have hr0 := bR.cell 0
  have hr1 := bR.cell 1
  simp at hr0 hr1
  exact bodyPost_ret (v := .agg #[.int .u64 (r.2 - n), .int .u64 r.2]) (by simp [results, Try.results44, go_sem, *]) rfl ⟨rfl, hA3, hB3⟩

/-- It is taken whole. -/
theorem lremoveLast_all (base G g c m : Nat) (L : List R) (tot n : Int) (r : R) (w : World) (h : ArAt base w G g c L tot) (hm : L.length = m + 1) (hr : ∀ (hi : m < L.length), L[m] = r) (hn : m + 1 ≤ 65536)
    (hb : 0 ≤ r.1 ∧ r.1 < r.2 ∧ r.2 < 4398046511104) (hnr : r.2 - r.1 ≤ n) (ht : 0 ≤ tot - (r.2 - r.1)) (ht' : tot < 18446744073709551616) :
    Calls Try.prog 44 #[.pointer (some ⟨G, 0, none⟩), .int .u64 n] w fun e w' => e = .returned (.agg #[.int .u64 r.1, .int .u64 r.2]) ∧ ArAt base w' G g c (L.take m) (tot - (r.2 - r.1)) ∧ Below base w w' := by
  have ewt : IntKind.u64.wrap (tot - (r.2 - r.1)) = tot - (r.2 - r.1) := IntWalk.u64_in _ (by omega)
  have hng : ¬ n < r.2 - r.1 := by omega
  have hi : m < L.length := by omega
  have hS : ∀ w', Nx w w' → w'.cell? ⟨G, 0, none⟩ = some (.slice (some ⟨g, 0, none⟩) (m + 1) c) ∧ w'.cell? ⟨g, m * 2, none⟩ = some (.int .u64 r.1) ∧ w'.cell? ⟨g, m * 2 + 1, none⟩ = some (.int .u64 r.2) ∧ Nx w w' := fun w' k => by
    have hk := h.nx k
    obtain ⟨c0, c1⟩ := hk.at hi
    rw [hr hi] at c0 c1
    have q0 := hk.cells.1
    rw [hm] at q0
    exact ⟨q0, c0, c1, k⟩
  obtain ⟨q0, q1, q2, q3⟩ := h.cells
  rw [hm] at q0
  have hlt := h.lt
  have hne := h.ne
  have hgg := h.gge
  have hne0 : (((m + 1 : Nat) : Int) == 0) = false := by rw [beq_eq_false_iff_ne]; omega
  have hwi : IntKind.i64.wrap (m : Int) = m := IntWalk.i64_in _ (by omega)
  have hm0 : (0 : Int) ≤ m := by omega
  have hm1 : (m : Int) < m + 1 := by omega
  have hsz : szI r.1 r.2 = r.2 - r.1 := by unfold szI; split <;> omega
  go_enter Try.func44, Try.ntmps44
  go_wp2_with fail
  refine wp_region_held_drew (S := fun w' => w'.cell? ⟨G, 0, none⟩ = some (.slice (some ⟨g, 0, none⟩) (m + 1) c) ∧ w'.cell? ⟨g, m * 2, none⟩ = some (.int .u64 r.1) ∧ w'.cell? ⟨g, m * 2 + 1, none⟩ = some (.int .u64 r.2) ∧ Nx w w') (by kernel_rfl) ?_ (fun hHeld => ?_)
  focus (exact hS _ (by show Below _ _ _; repeat (first | (with_reducible exact Below.refl _ _) | (with_reducible assumption) | (with_reducible refine Below.drew ?_) | ((with_reducible refine Below.alloc ?_ ?_ _); rotate_left; (focus first | omega | (simp; done) | (simp; omega))) | ((with_reducible refine Below.setCell ?_ ?_ _); rotate_left; (focus first | omega | (simp; done) | (simp; omega))) | ((with_reducible refine bl_step (by assumption) ?_ ?_); rotate_left; (focus first | omega | (simp; done) | (simp; omega))))))
  (refine takeT (i := 0) (v := ?_) rfl ?_ (fun _ _ _ h => h) rfl hHeld ?_ ?_; rotate_left; (focus kernel_rfl); (focus (intro w hSw; (try dsimp only at hSw); go_simp; (try with_reducible rfl))); (try simp only [Act.put, List.setIfInBounds_toArray, List.set_cons_zero, List.set_cons_succ]))
  (refine takeT (i := 1) (v := ?_) rfl ?_ (fun _ _ _ h => h) rfl hHeld ?_ ?_; rotate_left; (focus kernel_rfl); (focus (intro w hSw; (try dsimp only at hSw); go_simp; (try with_reducible rfl))); (try simp only [Act.put, List.setIfInBounds_toArray, List.set_cons_zero, List.set_cons_succ]))
  (refine takeT (i := 2) (v := ?_) rfl ?_ (fun _ _ _ h => h) rfl hHeld ?_ ?_; rotate_left; (focus kernel_rfl); (focus (intro w hSw; (try dsimp only at hSw); go_simp; (try with_reducible rfl))); (try simp only [Act.put, List.setIfInBounds_toArray, List.set_cons_zero, List.set_cons_succ]))
  (refine takeT (i := 3) (v := ?_) rfl ?_ (fun _ _ _ h => h) rfl hHeld ?_ ?_; rotate_left; (focus kernel_rfl); (focus (intro w hSw; (try dsimp only at hSw); go_simp; (try with_reducible rfl))); (try simp only [Act.put, List.setIfInBounds_toArray, List.set_cons_zero, List.set_cons_succ]))
  (refine takeT (i := 4) (v := ?_) rfl ?_ (fun _ _ _ h => h) rfl hHeld ?_ ?_; rotate_left; (focus kernel_rfl); (focus (intro w hSw; (try dsimp only at hSw); go_simp; (try with_reducible rfl))); (try simp only [Act.put, List.setIfInBounds_toArray, List.set_cons_zero, List.set_cons_succ]))
  (refine takeT (i := 5) (v := ?_) rfl ?_ (fun _ _ _ h => h) rfl hHeld ?_ ?_; rotate_left; (focus kernel_rfl); (focus (intro w hSw; (try dsimp only at hSw); go_simp; (try with_reducible rfl))); (try simp only [Act.put, List.setIfInBounds_toArray, List.set_cons_zero, List.set_cons_succ]))
  (refine takeT (i := 6) (v := ?_) rfl ?_ (fun _ _ _ h => h) rfl hHeld ?_ ?_; rotate_left; (focus kernel_rfl); (focus (intro w hSw; (try dsimp only at hSw); go_simp; (try with_reducible rfl))); (try simp only [Act.put, List.setIfInBounds_toArray, List.set_cons_zero, List.set_cons_succ]))
  (refine takeT (i := 7) (v := ?_) rfl ?_ (fun _ _ _ h => h) rfl hHeld ?_ ?_; rotate_left; (focus kernel_rfl); (focus (intro w hSw; (try dsimp only at hSw); go_simp; (try with_reducible rfl))); (try simp only [Act.put, List.setIfInBounds_toArray, List.set_cons_zero, List.set_cons_succ]))
  (refine takeT (i := 8) (v := ?_) rfl ?_ (fun _ _ _ h => h) rfl hHeld ?_ ?_; rotate_left; (focus kernel_rfl); (focus (intro w hSw; (try dsimp only at hSw); go_simp; (try with_reducible rfl))); (try simp only [Act.put, List.setIfInBounds_toArray, List.set_cons_zero, List.set_cons_succ]))
  (refine takeT (i := 9) (v := ?_) rfl ?_ (fun _ _ _ h => h) rfl hHeld ?_ ?_; rotate_left; (focus kernel_rfl); (focus (intro w hSw; (try dsimp only at hSw); go_simp; (try with_reducible rfl))); (try simp only [Act.put, List.setIfInBounds_toArray, List.set_cons_zero, List.set_cons_succ]))
  (refine takeT (i := 10) (v := ?_) rfl ?_ (fun _ _ _ h => h) rfl hHeld ?_ ?_; rotate_left; (focus kernel_rfl); (focus (intro w hSw; (try dsimp only at hSw); go_simp; (try with_reducible rfl))); (try simp only [Act.put, List.setIfInBounds_toArray, List.set_cons_zero, List.set_cons_succ]))
  (refine takeT (i := 11) (v := ?_) rfl ?_ (fun _ _ _ h => h) rfl hHeld ?_ ?_; rotate_left; (focus kernel_rfl); (focus (intro w hSw; (try dsimp only at hSw); go_simp; (try with_reducible rfl))); (try simp only [Act.put, List.setIfInBounds_toArray, List.set_cons_zero, List.set_cons_succ]))
  (refine doOne (i := 12) rfl ?_ (fun K hK => ?_); (focus kernel_rfl))
  ((first | fail | go_simp); (first | ((first | fail); go_wp2_with fail) | skip); refine hK.out _ _ ?_ (fun hHeldN => ?_); (focus (have hq := hHeld; (try dsimp only at hq); go_split_ands; exact hS _ (by show Below _ _ _; repeat (first | (with_reducible exact Below.refl _ _) | (with_reducible assumption) | (with_reducible refine Below.drew ?_) | ((with_reducible refine Below.alloc ?_ ?_ _); rotate_left; (focus first | omega | (simp; done) | (simp; omega))) | ((with_reducible refine Below.setCell ?_ ?_ _); rotate_left; (focus first | omega | (simp; done) | (simp; omega))) | ((with_reducible refine bl_step (by assumption) ?_ ?_); rotate_left; (focus first | omega | (simp; done) | (simp; omega))))))); clear hHeld hK K; have hHeld := hHeldN; clear hHeldN; (try simp only [Act.put, List.setIfInBounds_toArray, List.set_cons_zero, List.set_cons_succ]))
  (refine doOne (i := 13) rfl ?_ (fun K hK => ?_); (focus kernel_rfl))
  ((first | fail | go_simp); (first | ((first | fail); go_wp2_with fail) | skip); refine hK.out _ _ ?_ (fun hHeldN => ?_); (focus (have hq := hHeld; (try dsimp only at hq); go_split_ands; exact hS _ (by show Below _ _ _; repeat (first | (with_reducible exact Below.refl _ _) | (with_reducible assumption) | (with_reducible refine Below.drew ?_) | ((with_reducible refine Below.alloc ?_ ?_ _); rotate_left; (focus first | omega | (simp; done) | (simp; omega))) | ((with_reducible refine Below.setCell ?_ ?_ _); rotate_left; (focus first | omega | (simp; done) | (simp; omega))) | ((with_reducible refine bl_step (by assumption) ?_ ?_); rotate_left; (focus first | omega | (simp; done) | (simp; omega))))))); clear hHeld hK K; have hHeld := hHeldN; clear hHeldN; (try simp only [Act.put, List.setIfInBounds_toArray, List.set_cons_zero, List.set_cons_succ]))
  (refine wpAnyH_done (by kernel_rfl) ?_ _)
  replace hHeld := hHeld.2.2.2
  have bR : Bk (((w.alloc (.cells #[.int .u64 0, .int .u64 0] 67)).alloc (.cells #[.int .u64 r.1, .int .u64 r.2] 67)).drew) w.heap.size #[.int .u64 0, .int .u64 0] 67 := ((Bk.new w _ _).alloc _).drew
  have bV : Bk (((w.alloc (.cells #[.int .u64 0, .int .u64 0] 67)).alloc (.cells #[.int .u64 r.1, .int .u64 r.2] 67)).drew) (w.heap.size + 1) #[.int .u64 r.1, .int .u64 r.2] 67 := by have := Bk.new (w.alloc (.cells #[.int .u64 0, .int .u64 0] 67)) #[.int .u64 r.1, .int .u64 r.2] 67; simpa using this.drew
  generalize (((w.alloc (.cells #[.int .u64 0, .int .u64 0] 67)).alloc (.cells #[.int .u64 r.1, .int .u64 r.2] 67)).drew) = W at hHeld bR bV ⊢
  clear hS q0 q1 q2 q3
  have v0 := bV.cell 0
  have v1 := bV.cell 1
  go_wp2_with fail
  refine (rsize_any _ _ _ (by omega) (by omega) (by omega) (by omega)).mono ?_
  rintro e w1 ⟨rfl, n1⟩
  rw [hsz]
  replace bR := bR.nx n1
  replace bV := bV.nx n1
  replace hHeld : Nx w w1 := bl_step n1 hHeld hHeld.size
  clear v0 v1 n1
  have v0 := bV.cell 0
  have v1 := bV.cell 1
  have hA0 := h.nx hHeld
  obtain ⟨u0, u1, u2, u3⟩ := hA0.cells
  rw [hm] at u0
  have hmc : (m : Int) ≤ c := by obtain ⟨_, _, _, hc, _⟩ := h.row; omega
  go_upto_region 10 with fail
  go_region_with fail
  all_goals
    have hA2 := (hA0.cut (k := m) (by omega)).drew
    have hB2 : Below base w (w1.setCell ⟨G, 0, none⟩ (.slice (some ⟨g, 0, none⟩) m c)).drew := ((hHeld.mono (by omega)).setCell (p := ⟨G, 0, none⟩) h.ge (.slice (some ⟨g, 0, none⟩) m c)).drew
    have cR := (bR.far ⟨G, 0, none⟩ (.slice (some ⟨g, 0, none⟩) m c) (show G ≠ _ by omega)).drew
    have cV := (bV.far ⟨G, 0, none⟩ (.slice (some ⟨g, 0, none⟩) m c) (show G ≠ _ by omega)).drew
    generalize (w1.setCell ⟨G, 0, none⟩ (.slice (some ⟨g, 0, none⟩) m c)).drew = X at hA2 hB2 cR cV ⊢
    clear u0 u1 u2 u3 v0 v1 bR bV hA0 hHeld
    obtain ⟨q0, q1, q2, q3⟩ := hA2.cells
    go_upto_region 12 with fail
    have hA3 := hA2.setTot (tot - (r.2 - r.1))
    have hB3 := hB2.setCell (p := ⟨G, 1, none⟩) h.ge (.int .u64 (tot - (r.2 - r.1)))
    have bR := cR.far ⟨G, 1, none⟩ (.int .u64 (tot - (r.2 - r.1))) (show G ≠ _ by omega)
    have bV := cV.far ⟨G, 1, none⟩ (.int .u64 (tot - (r.2 - r.1))) (show G ≠ _ by omega)
    clear q0 q1 q2 q3 cR cV hA2 hB2
    generalize X.setCell ⟨G, 1, none⟩ (.int .u64 (tot - (r.2 - r.1))) = Y at hA3 hB3 bR bV ⊢
    have hr0 := bR.cell 0
    have hr1 := bR.cell 1
    have hf0 := bR.froz 0
    have hf1 := bR.froz 1
    have v0 := bV.cell 0
    have v1 := bV.cell 1
    have bR := (bR.set 0 (.int .u64 r.1)).set 1 (.int .u64 r.2)
    have hA3 := (hA3.off ⟨w.heap.size, 0, none⟩ (.int .u64 r.1) (show w.heap.size ≠ G by omega) (show w.heap.size ≠ g by omega)).off ⟨w.heap.size, 1, none⟩ (.int .u64 r.2) (show w.heap.size ≠ G by omega) (show w.heap.size ≠ g by omega)
    have hB3 := (hB3.setCell (p := ⟨w.heap.size, 0, none⟩) (show base ≤ w.heap.size by omega) (.int .u64 r.1)).setCell (p := ⟨w.heap.size, 1, none⟩) (show base ≤ w.heap.size by omega) (.int .u64 r.2)
    go_wp2
    generalize (Y.setCell ⟨w.heap.size, 0, none⟩ (.int .u64 r.1)).setCell ⟨w.heap.size, 1, none⟩ (.int .u64 r.2) = Z at bR hA3 hB3 ⊢
    have gr0 := bR.cell 0
    have gr1 := bR.cell 1
    simp at gr0 gr1
    exact bodyPost_ret (v := .agg #[.int .u64 r.1, .int .u64 r.2]) (by simp [results, Try.results44, go_sem, *]) rfl ⟨rfl, hA3, hB3⟩
end Go.Proofs.Ytnmljgjcdofboaa
