/- The reference's Join. -/
import Derived.Test.YtnmljgjcdofboaaSq
import Derived.Test.YtnmljgjcdofboaaRl
namespace Go.Proofs.Ytnmljgjcdofboaa
open Go.RowKit
set_option linter.unusedVariables false
set_option linter.unusedSimpArgs false

theorem joinR_inB {L : List R} {r : R} (hL : InB L) (hr : 0 ≤ r.1 ∧ r.1 < 4398046511104 ∧ 0 ≤ r.2 ∧ r.2 < 4398046511104) : 0 ≤ (joinR L r).1 ∧ (joinR L r).1 < 4398046511104 ∧ 0 ≤ (joinR L r).2 ∧ (joinR L r).2 < 4398046511104 := by
  unfold joinR
  induction L generalizing r with
  | nil => exact hr
  | cons s L ih =>
    have hs := hL s (List.mem_cons_self ..)
    refine ih (fun x hx => hL x (List.mem_cons_of_mem _ hx)) ?_
    unfold jstep
    (repeat' split) <;> (first | omega | (simp only; omega))
/-- What the row that is gathered has behind an append. -/
theorem put_own {w2 : World} {base : Nat} {v' : Value} {t : TypeId} {P : List R} {s : R} (h : w2.ownsRow base t 2 v' (P.length + 1) (cellsL P ++ [.int .u64 s.1, .int .u64 s.2])) :
    w2.ownsRow base t 2 v' (P ++ [s]).length (cellsL (P ++ [s])) := by
  rw [cellsL_append, List.length_append]; exact h
theorem Bk.grownV {W w2 : World} {V base n : Nat} {cs : Array Value} {T e : TypeId} {v : Value} {xs : List Value} (h : Bk W V cs T) (hown : W.ownsRow base e 2 v n xs) (hg : W.grownBy w2 v.ownBlock) (hV : V < base) : Bk w2 V cs T :=
  (hg.block V h.lt (fun e => by have := (hown.lt V e.symm).1; omega)).trans h
theorem jput_ff {t s : R} {P : List R} (h1 : ¬ t.1 ≤ s.1) (h2 : apB s.1 s.2 t.1 t.2 = true) : jput t (P, false) s = (P ++ [s], false) := by
  unfold jput; simp [h1, h2]
theorem jput_ft {t s : R} {P : List R} (h1 : t.1 ≤ s.1) (h2 : apB s.1 s.2 t.1 t.2 = true) : jput t (P, false) s = (P ++ [t] ++ [s], true) := by
  unfold jput; simp [h1, h2]
theorem jput_fn {t s : R} {P : List R} (h1 : ¬ t.1 ≤ s.1) (h2 : apB s.1 s.2 t.1 t.2 = false) : jput t (P, false) s = (P, false) := by
  unfold jput; simp [h1, h2]
theorem jput_fm {t s : R} {P : List R} (h1 : t.1 ≤ s.1) (h2 : apB s.1 s.2 t.1 t.2 = false) : jput t (P, false) s = (P ++ [t], true) := by
  unfold jput; simp [h1, h2]
theorem jput_tt {t s : R} {P : List R} (h2 : apB s.1 s.2 t.1 t.2 = true) : jput t (P, true) s = (P ++ [s], true) := by
  unfold jput; simp [h2]
theorem jput_tn {t s : R} {P : List R} (h2 : apB s.1 s.2 t.1 t.2 = false) : jput t (P, true) s = (P, true) := by
  unfold jput; simp [h2]
set_option maxRecDepth 100000 in
set_option maxHeartbeats 6000000 in
theorem sJoin_any (A : Option Addr) (c : Nat) (L : List R) (a b : Int) (w : World) (h : SlAt w A c L) (hn : L.length ≤ 32768) (hL : InB L) (ha : 0 ≤ a ∧ a < 4398046511104 ∧ 0 ≤ b ∧ b < 4398046511104) :
    Calls Try.prog 24 #[.slice A L.length c, .agg #[.int .u64 a, .int .u64 b]] w (RetL (joinL L (a, b)) w) := by
  obtain ⟨i0, hi, hz0, hz1, hz2⟩ := info_parts info_iRange
  go_enter Try.func24, Try.ntmps24
  have bV := Bk.new w #[.int .u64 a, .int .u64 b] 24
  have hb0 : Below w.heap.size w (w.alloc (.cells #[.int .u64 a, .int .u64 b] 24)) := (Below.refl _ _).alloc (Nat.le_refl _) _
  have hs0 : w.heap.size + 1 ≤ (w.alloc (.cells #[.int .u64 a, .int .u64 b] 24)).heap.size := by simp
  go_upto_region 2 with fail
  generalize w.alloc (.cells #[.int .u64 a, .int .u64 b] 24) = U at bV hb0 hs0 ⊢
  go_wp2_with fail
  go_loopg [6] L.length (fun gn v wr => ∃ (k : Nat) (t : R), k ≤ L.length ∧ L.length - k ≤ gn ∧ v = .int .i64 k ∧ Hid (t = joinR (L.take k) (a, b)) ∧ Bk wr w.heap.size #[.int .u64 t.1, .int .u64 t.2] 24 ∧ Below w.heap.size w wr)
  case atStart => exact ⟨0, (a, b), by omega, by omega, rfl, rfl, bV, hb0⟩
  case round =>
    obtain ⟨k, t, hk, hg, rfl, ht, bV, hb⟩ := hrel
    by_cases hlt : k < L.length
    · obtain ⟨g, rfl, hgs, c0, c1⟩ := (h.below hb (Nat.le_refl _)).at hlt
      have hj := joinR_take L (a, b) k hlt
      rw [← ht.out] at hj
      have HJ := Lib.hid hj
      have hglt : g < w.heap.size := (h.at hlt).elim fun g2 e => by
        have e1 := e.1
        injection e1 with e1
        injection e1 with e1
        have := e.2.1
        omega
      generalize L[k] = s at c0 c1 HJ
      have v0 := bV.cell 0
      have v1 := bV.cell 1
      have f0 := bV.froz 0
      have f1 := bV.froz 1
      simp only [List.getElem?_toArray, List.getElem?_cons_zero, List.getElem?_cons_succ] at v0 v1
      have hki : (0 : Int) ≤ k ∧ (k : Int) < L.length := by omega
      clear hj
      by_cases e1 : s.2 = t.1
      · have hne := Lib.hid (show jstep t s = (s.1, t.2) from if_pos e1)
        have d1 : (s.2 == t.1) = true := by simpa using e1
        clear e1
        go_upto_region 5 with fail
        refine wp_region_held_drew (S := fun w' => w'.cell? ⟨g, k * 2, none⟩ = some (.int .u64 s.1) ∧ w'.cell? ⟨g, k * 2 + 1, none⟩ = some (.int .u64 s.2) ∧ w'.cell? ⟨w.heap.size, 0, none⟩ = some (.int .u64 t.1) ∧ w'.cell? ⟨w.heap.size, 1, none⟩ = some (.int .u64 t.2)) (by kernel_rfl) ?_ (fun hHeld => ?_)
        focus (exact ⟨c0, c1, v0, v1⟩)
        (refine takeT (i := 0) (v := ?_) rfl ?_ (fun _ _ _ h => h) rfl hHeld ?_ ?_; rotate_left; (focus kernel_rfl); (focus (intro w hSw; (try dsimp only at hSw); go_simp; (try with_reducible rfl))); (try simp only [Act.put, List.setIfInBounds_toArray, List.set_cons_zero, List.set_cons_succ]))
        (refine takeT (i := 1) (v := ?_) rfl ?_ (fun _ _ _ h => h) rfl hHeld ?_ ?_; rotate_left; (focus kernel_rfl); (focus (intro w hSw; (try dsimp only at hSw); go_simp; (try with_reducible rfl))); (try simp only [Act.put, List.setIfInBounds_toArray, List.set_cons_zero, List.set_cons_succ]))
        (refine takeT (i := 2) (v := ?_) rfl ?_ (fun _ _ _ h => h) rfl hHeld ?_ ?_; rotate_left; (focus kernel_rfl); (focus (intro w hSw; (try dsimp only at hSw); go_simp; (try with_reducible rfl))); (try simp only [Act.put, List.setIfInBounds_toArray, List.set_cons_zero, List.set_cons_succ]))
        (refine takeT (i := 3) (v := ?_) rfl ?_ (fun _ _ _ h => h) rfl hHeld ?_ ?_; rotate_left; (focus kernel_rfl); (focus (intro w hSw; (try dsimp only at hSw); go_simp; (try with_reducible rfl))); (try simp only [Act.put, List.setIfInBounds_toArray, List.set_cons_zero, List.set_cons_succ]))
        (refine takeT (i := 4) (v := ?_) rfl ?_ (fun _ _ _ h => h) rfl hHeld ?_ ?_; rotate_left; (focus kernel_rfl); (focus (intro w hSw; (try dsimp only at hSw); go_simp; (try with_reducible rfl))); (try simp only [Act.put, List.setIfInBounds_toArray, List.set_cons_zero, List.set_cons_succ]))
        (refine takeT (i := 5) (v := ?_) rfl ?_ (fun _ _ _ h => h) rfl hHeld ?_ ?_; rotate_left; (focus kernel_rfl); (focus (intro w hSw; (try dsimp only at hSw); go_simp; (try with_reducible rfl))); (try simp only [Act.put, List.setIfInBounds_toArray, List.set_cons_zero, List.set_cons_succ]))
        (refine takeT (i := 6) (v := ?_) rfl ?_ (fun _ _ _ h => h) rfl hHeld ?_ ?_; rotate_left; (focus kernel_rfl); (focus (intro w hSw; (try dsimp only at hSw); go_simp; (try with_reducible rfl))); (try simp only [Act.put, List.setIfInBounds_toArray, List.set_cons_zero, List.set_cons_succ]))
        (refine takeT (i := 7) (v := ?_) rfl ?_ (fun _ _ _ h => h) rfl hHeld ?_ ?_; rotate_left; (focus kernel_rfl); (focus (intro w hSw; (try dsimp only at hSw); go_simp; (try with_reducible rfl))); (try simp only [Act.put, List.setIfInBounds_toArray, List.set_cons_zero, List.set_cons_succ]))
        (refine takeT (i := 8) (v := ?_) rfl ?_ (fun _ _ _ h => h) rfl hHeld ?_ ?_; rotate_left; (focus kernel_rfl); (focus (intro w hSw; (try dsimp only at hSw); go_simp; (try with_reducible rfl))); (try simp only [Act.put, List.setIfInBounds_toArray, List.set_cons_zero, List.set_cons_succ]))
        (refine wpAnyH_done (by kernel_rfl) ?_ _)
        clear hHeld
        go_wp2
        go_roundg (L.length - (k + 1))
        case measure => omega
        case rel => exact ⟨k + 1, (s.1, t.2), by omega, by omega, by go_num, by show _ = _; rw [HJ.out, hne.out], (by have := (bV.set 0 (.int .u64 s.1)).drew; simpa using this), (hb.setCell (p := ⟨w.heap.size, 0, none⟩) (Nat.le_refl _) _).drew⟩
      · have d1 : (s.2 == t.1) = false := by simpa using e1
        by_cases e2 : t.2 = s.1
        · have hne := Lib.hid (show jstep t s = (t.1, s.2) by unfold jstep; rw [if_neg e1, if_pos e2])
          have d2 : (t.2 == s.1) = true := by simpa using e2
          clear e1 e2
          go_upto_region 5 with fail
          refine wp_region_held_drew (S := fun w' => w'.cell? ⟨g, k * 2, none⟩ = some (.int .u64 s.1) ∧ w'.cell? ⟨g, k * 2 + 1, none⟩ = some (.int .u64 s.2) ∧ w'.cell? ⟨w.heap.size, 0, none⟩ = some (.int .u64 t.1) ∧ w'.cell? ⟨w.heap.size, 1, none⟩ = some (.int .u64 t.2)) (by kernel_rfl) ?_ (fun hHeld => ?_)
          focus (exact ⟨c0, c1, v0, v1⟩)
          (refine takeT (i := 0) (v := ?_) rfl ?_ (fun _ _ _ h => h) rfl hHeld ?_ ?_; rotate_left; (focus kernel_rfl); (focus (intro w hSw; (try dsimp only at hSw); go_simp; (try with_reducible rfl))); (try simp only [Act.put, List.setIfInBounds_toArray, List.set_cons_zero, List.set_cons_succ]))
          (refine takeT (i := 1) (v := ?_) rfl ?_ (fun _ _ _ h => h) rfl hHeld ?_ ?_; rotate_left; (focus kernel_rfl); (focus (intro w hSw; (try dsimp only at hSw); go_simp; (try with_reducible rfl))); (try simp only [Act.put, List.setIfInBounds_toArray, List.set_cons_zero, List.set_cons_succ]))
          (refine takeT (i := 2) (v := ?_) rfl ?_ (fun _ _ _ h => h) rfl hHeld ?_ ?_; rotate_left; (focus kernel_rfl); (focus (intro w hSw; (try dsimp only at hSw); go_simp; (try with_reducible rfl))); (try simp only [Act.put, List.setIfInBounds_toArray, List.set_cons_zero, List.set_cons_succ]))
          (refine takeT (i := 3) (v := ?_) rfl ?_ (fun _ _ _ h => h) rfl hHeld ?_ ?_; rotate_left; (focus kernel_rfl); (focus (intro w hSw; (try dsimp only at hSw); go_simp; (try with_reducible rfl))); (try simp only [Act.put, List.setIfInBounds_toArray, List.set_cons_zero, List.set_cons_succ]))
          (refine takeT (i := 4) (v := ?_) rfl ?_ (fun _ _ _ h => h) rfl hHeld ?_ ?_; rotate_left; (focus kernel_rfl); (focus (intro w hSw; (try dsimp only at hSw); go_simp; (try with_reducible rfl))); (try simp only [Act.put, List.setIfInBounds_toArray, List.set_cons_zero, List.set_cons_succ]))
          (refine takeT (i := 5) (v := ?_) rfl ?_ (fun _ _ _ h => h) rfl hHeld ?_ ?_; rotate_left; (focus kernel_rfl); (focus (intro w hSw; (try dsimp only at hSw); go_simp; (try with_reducible rfl))); (try simp only [Act.put, List.setIfInBounds_toArray, List.set_cons_zero, List.set_cons_succ]))
          (refine takeT (i := 6) (v := ?_) rfl ?_ (fun _ _ _ h => h) rfl hHeld ?_ ?_; rotate_left; (focus kernel_rfl); (focus (intro w hSw; (try dsimp only at hSw); go_simp; (try with_reducible rfl))); (try simp only [Act.put, List.setIfInBounds_toArray, List.set_cons_zero, List.set_cons_succ]))
          (refine takeT (i := 7) (v := ?_) rfl ?_ (fun _ _ _ h => h) rfl hHeld ?_ ?_; rotate_left; (focus kernel_rfl); (focus (intro w hSw; (try dsimp only at hSw); go_simp; (try with_reducible rfl))); (try simp only [Act.put, List.setIfInBounds_toArray, List.set_cons_zero, List.set_cons_succ]))
          (refine takeT (i := 8) (v := ?_) rfl ?_ (fun _ _ _ h => h) rfl hHeld ?_ ?_; rotate_left; (focus kernel_rfl); (focus (intro w hSw; (try dsimp only at hSw); go_simp; (try with_reducible rfl))); (try simp only [Act.put, List.setIfInBounds_toArray, List.set_cons_zero, List.set_cons_succ]))
          (refine wpAnyH_done (by kernel_rfl) ?_ _)
          clear hHeld
          go_upto_region 7 with fail
          refine wp_region_held_drew (S := fun w' => w'.cell? ⟨g, k * 2, none⟩ = some (.int .u64 s.1) ∧ w'.cell? ⟨g, k * 2 + 1, none⟩ = some (.int .u64 s.2) ∧ w'.cell? ⟨w.heap.size, 0, none⟩ = some (.int .u64 t.1) ∧ w'.cell? ⟨w.heap.size, 1, none⟩ = some (.int .u64 t.2)) (by kernel_rfl) ?_ (fun hHeld => ?_)
          focus (exact ⟨c0, c1, v0, v1⟩)
          (refine takeT (i := 0) (v := ?_) rfl ?_ (fun _ _ _ h => h) rfl hHeld ?_ ?_; rotate_left; (focus kernel_rfl); (focus (intro w hSw; (try dsimp only at hSw); go_simp; (try with_reducible rfl))); (try simp only [Act.put, List.setIfInBounds_toArray, List.set_cons_zero, List.set_cons_succ]))
          (refine takeT (i := 1) (v := ?_) rfl ?_ (fun _ _ _ h => h) rfl hHeld ?_ ?_; rotate_left; (focus kernel_rfl); (focus (intro w hSw; (try dsimp only at hSw); go_simp; (try with_reducible rfl))); (try simp only [Act.put, List.setIfInBounds_toArray, List.set_cons_zero, List.set_cons_succ]))
          (refine takeT (i := 2) (v := ?_) rfl ?_ (fun _ _ _ h => h) rfl hHeld ?_ ?_; rotate_left; (focus kernel_rfl); (focus (intro w hSw; (try dsimp only at hSw); go_simp; (try with_reducible rfl))); (try simp only [Act.put, List.setIfInBounds_toArray, List.set_cons_zero, List.set_cons_succ]))
          (refine takeT (i := 3) (v := ?_) rfl ?_ (fun _ _ _ h => h) rfl hHeld ?_ ?_; rotate_left; (focus kernel_rfl); (focus (intro w hSw; (try dsimp only at hSw); go_simp; (try with_reducible rfl))); (try simp only [Act.put, List.setIfInBounds_toArray, List.set_cons_zero, List.set_cons_succ]))
          (refine takeT (i := 4) (v := ?_) rfl ?_ (fun _ _ _ h => h) rfl hHeld ?_ ?_; rotate_left; (focus kernel_rfl); (focus (intro w hSw; (try dsimp only at hSw); go_simp; (try with_reducible rfl))); (try simp only [Act.put, List.setIfInBounds_toArray, List.set_cons_zero, List.set_cons_succ]))
          (refine takeT (i := 5) (v := ?_) rfl ?_ (fun _ _ _ h => h) rfl hHeld ?_ ?_; rotate_left; (focus kernel_rfl); (focus (intro w hSw; (try dsimp only at hSw); go_simp; (try with_reducible rfl))); (try simp only [Act.put, List.setIfInBounds_toArray, List.set_cons_zero, List.set_cons_succ]))
          (refine takeT (i := 6) (v := ?_) rfl ?_ (fun _ _ _ h => h) rfl hHeld ?_ ?_; rotate_left; (focus kernel_rfl); (focus (intro w hSw; (try dsimp only at hSw); go_simp; (try with_reducible rfl))); (try simp only [Act.put, List.setIfInBounds_toArray, List.set_cons_zero, List.set_cons_succ]))
          (refine takeT (i := 7) (v := ?_) rfl ?_ (fun _ _ _ h => h) rfl hHeld ?_ ?_; rotate_left; (focus kernel_rfl); (focus (intro w hSw; (try dsimp only at hSw); go_simp; (try with_reducible rfl))); (try simp only [Act.put, List.setIfInBounds_toArray, List.set_cons_zero, List.set_cons_succ]))
          (refine takeT (i := 8) (v := ?_) rfl ?_ (fun _ _ _ h => h) rfl hHeld ?_ ?_; rotate_left; (focus kernel_rfl); (focus (intro w hSw; (try dsimp only at hSw); go_simp; (try with_reducible rfl))); (try simp only [Act.put, List.setIfInBounds_toArray, List.set_cons_zero, List.set_cons_succ]))
          (refine wpAnyH_done (by kernel_rfl) ?_ _)
          clear hHeld
          go_wp2
          go_roundg (L.length - (k + 1))
          case measure => omega
          case rel => exact ⟨k + 1, (t.1, s.2), by omega, by omega, by go_num, by show _ = _; rw [HJ.out, hne.out], (by have := (bV.set 1 (.int .u64 s.2)).drew.drew; simpa using this), (hb.setCell (p := ⟨w.heap.size, 1, none⟩) (Nat.le_refl _) _).drew.drew⟩
        · have hne := Lib.hid (show jstep t s = t by unfold jstep; rw [if_neg e1, if_neg e2])
          have d2 : (t.2 == s.1) = false := by simpa using e2
          clear e1 e2
          go_upto_region 5 with fail
          refine wp_region_held_drew (S := fun w' => w'.cell? ⟨g, k * 2, none⟩ = some (.int .u64 s.1) ∧ w'.cell? ⟨g, k * 2 + 1, none⟩ = some (.int .u64 s.2) ∧ w'.cell? ⟨w.heap.size, 0, none⟩ = some (.int .u64 t.1) ∧ w'.cell? ⟨w.heap.size, 1, none⟩ = some (.int .u64 t.2)) (by kernel_rfl) ?_ (fun hHeld => ?_)
          focus (exact ⟨c0, c1, v0, v1⟩)
          (refine takeT (i := 0) (v := ?_) rfl ?_ (fun _ _ _ h => h) rfl hHeld ?_ ?_; rotate_left; (focus kernel_rfl); (focus (intro w hSw; (try dsimp only at hSw); go_simp; (try with_reducible rfl))); (try simp only [Act.put, List.setIfInBounds_toArray, List.set_cons_zero, List.set_cons_succ]))
          (refine takeT (i := 1) (v := ?_) rfl ?_ (fun _ _ _ h => h) rfl hHeld ?_ ?_; rotate_left; (focus kernel_rfl); (focus (intro w hSw; (try dsimp only at hSw); go_simp; (try with_reducible rfl))); (try simp only [Act.put, List.setIfInBounds_toArray, List.set_cons_zero, List.set_cons_succ]))
          (refine takeT (i := 2) (v := ?_) rfl ?_ (fun _ _ _ h => h) rfl hHeld ?_ ?_; rotate_left; (focus kernel_rfl); (focus (intro w hSw; (try dsimp only at hSw); go_simp; (try with_reducible rfl))); (try simp only [Act.put, List.setIfInBounds_toArray, List.set_cons_zero, List.set_cons_succ]))
          (refine takeT (i := 3) (v := ?_) rfl ?_ (fun _ _ _ h => h) rfl hHeld ?_ ?_; rotate_left; (focus kernel_rfl); (focus (intro w hSw; (try dsimp only at hSw); go_simp; (try with_reducible rfl))); (try simp only [Act.put, List.setIfInBounds_toArray, List.set_cons_zero, List.set_cons_succ]))
          (refine takeT (i := 4) (v := ?_) rfl ?_ (fun _ _ _ h => h) rfl hHeld ?_ ?_; rotate_left; (focus kernel_rfl); (focus (intro w hSw; (try dsimp only at hSw); go_simp; (try with_reducible rfl))); (try simp only [Act.put, List.setIfInBounds_toArray, List.set_cons_zero, List.set_cons_succ]))
          (refine takeT (i := 5) (v := ?_) rfl ?_ (fun _ _ _ h => h) rfl hHeld ?_ ?_; rotate_left; (focus kernel_rfl); (focus (intro w hSw; (try dsimp only at hSw); go_simp; (try with_reducible rfl))); (try simp only [Act.put, List.setIfInBounds_toArray, List.set_cons_zero, List.set_cons_succ]))
          (refine takeT (i := 6) (v := ?_) rfl ?_ (fun _ _ _ h => h) rfl hHeld ?_ ?_; rotate_left; (focus kernel_rfl); (focus (intro w hSw; (try dsimp only at hSw); go_simp; (try with_reducible rfl))); (try simp only [Act.put, List.setIfInBounds_toArray, List.set_cons_zero, List.set_cons_succ]))
          (refine takeT (i := 7) (v := ?_) rfl ?_ (fun _ _ _ h => h) rfl hHeld ?_ ?_; rotate_left; (focus kernel_rfl); (focus (intro w hSw; (try dsimp only at hSw); go_simp; (try with_reducible rfl))); (try simp only [Act.put, List.setIfInBounds_toArray, List.set_cons_zero, List.set_cons_succ]))
          (refine takeT (i := 8) (v := ?_) rfl ?_ (fun _ _ _ h => h) rfl hHeld ?_ ?_; rotate_left; (focus kernel_rfl); (focus (intro w hSw; (try dsimp only at hSw); go_simp; (try with_reducible rfl))); (try simp only [Act.put, List.setIfInBounds_toArray, List.set_cons_zero, List.set_cons_succ]))
          (refine wpAnyH_done (by kernel_rfl) ?_ _)
          clear hHeld
          go_upto_region 7 with fail
          refine wp_region_held_drew (S := fun w' => w'.cell? ⟨g, k * 2, none⟩ = some (.int .u64 s.1) ∧ w'.cell? ⟨g, k * 2 + 1, none⟩ = some (.int .u64 s.2) ∧ w'.cell? ⟨w.heap.size, 0, none⟩ = some (.int .u64 t.1) ∧ w'.cell? ⟨w.heap.size, 1, none⟩ = some (.int .u64 t.2)) (by kernel_rfl) ?_ (fun hHeld => ?_)
          focus (exact ⟨c0, c1, v0, v1⟩)
          (refine takeT (i := 0) (v := ?_) rfl ?_ (fun _ _ _ h => h) rfl hHeld ?_ ?_; rotate_left; (focus kernel_rfl); (focus (intro w hSw; (try dsimp only at hSw); go_simp; (try with_reducible rfl))); (try simp only [Act.put, List.setIfInBounds_toArray, List.set_cons_zero, List.set_cons_succ]))
          (refine takeT (i := 1) (v := ?_) rfl ?_ (fun _ _ _ h => h) rfl hHeld ?_ ?_; rotate_left; (focus kernel_rfl); (focus (intro w hSw; (try dsimp only at hSw); go_simp; (try with_reducible rfl))); (try simp only [Act.put, List.setIfInBounds_toArray, List.set_cons_zero, List.set_cons_succ]))
          (refine takeT (i := 2) (v := ?_) rfl ?_ (fun _ _ _ h => h) rfl hHeld ?_ ?_; rotate_left; (focus kernel_rfl); (focus (intro w hSw; (try dsimp only at hSw); go_simp; (try with_reducible rfl))); (try simp only [Act.put, List.setIfInBounds_toArray, List.set_cons_zero, List.set_cons_succ]))
          (refine takeT (i := 3) (v := ?_) rfl ?_ (fun _ _ _ h => h) rfl hHeld ?_ ?_; rotate_left; (focus kernel_rfl); (focus (intro w hSw; (try dsimp only at hSw); go_simp; (try with_reducible rfl))); (try simp only [Act.put, List.setIfInBounds_toArray, List.set_cons_zero, List.set_cons_succ]))
          (refine takeT (i := 4) (v := ?_) rfl ?_ (fun _ _ _ h => h) rfl hHeld ?_ ?_; rotate_left; (focus kernel_rfl); (focus (intro w hSw; (try dsimp only at hSw); go_simp; (try with_reducible rfl))); (try simp only [Act.put, List.setIfInBounds_toArray, List.set_cons_zero, List.set_cons_succ]))
          (refine takeT (i := 5) (v := ?_) rfl ?_ (fun _ _ _ h => h) rfl hHeld ?_ ?_; rotate_left; (focus kernel_rfl); (focus (intro w hSw; (try dsimp only at hSw); go_simp; (try with_reducible rfl))); (try simp only [Act.put, List.setIfInBounds_toArray, List.set_cons_zero, List.set_cons_succ]))
          (refine takeT (i := 6) (v := ?_) rfl ?_ (fun _ _ _ h => h) rfl hHeld ?_ ?_; rotate_left; (focus kernel_rfl); (focus (intro w hSw; (try dsimp only at hSw); go_simp; (try with_reducible rfl))); (try simp only [Act.put, List.setIfInBounds_toArray, List.set_cons_zero, List.set_cons_succ]))
          (refine takeT (i := 7) (v := ?_) rfl ?_ (fun _ _ _ h => h) rfl hHeld ?_ ?_; rotate_left; (focus kernel_rfl); (focus (intro w hSw; (try dsimp only at hSw); go_simp; (try with_reducible rfl))); (try simp only [Act.put, List.setIfInBounds_toArray, List.set_cons_zero, List.set_cons_succ]))
          (refine takeT (i := 8) (v := ?_) rfl ?_ (fun _ _ _ h => h) rfl hHeld ?_ ?_; rotate_left; (focus kernel_rfl); (focus (intro w hSw; (try dsimp only at hSw); go_simp; (try with_reducible rfl))); (try simp only [Act.put, List.setIfInBounds_toArray, List.set_cons_zero, List.set_cons_succ]))
          (refine wpAnyH_done (by kernel_rfl) ?_ _)
          clear hHeld
          go_wp2
          go_roundg (L.length - (k + 1))
          case measure => omega
          case rel => exact ⟨k + 1, t, by omega, by omega, by go_num, by show _ = _; rw [HJ.out, hne.out], bV.drew.drew, hb.drew.drew⟩
    · have hkl : k = L.length := by omega
      have htL : t = joinR L (a, b) := by have := ht.out; rwa [hkl, List.take_length] at this
      have hjb := joinR_inB hL (r := (a, b)) ha
      rw [← htL] at hjb
      have HL := Lib.hid htL
      clear ht htL hkl
      go_wp2_with fail
      go_loopg [5, 7, 8] L.length (fun gn sv dv v wr => ∃ (k : Nat) (P : List R) (d : Bool), k ≤ L.length ∧ L.length - k ≤ gn ∧ v = .int .i64 k ∧ dv = .bool d ∧ Hid (joinO t (L.take k) = (P, d)) ∧ P.length ≤ 2 * k ∧ wr.ownsRow (w.heap.size + 1) 24 2 sv P.length (cellsL P) ∧ Bk wr w.heap.size #[.int .u64 t.1, .int .u64 t.2] 24 ∧ Below w.heap.size w wr)
      case atStart => exact ⟨0, [], false, by omega, by omega, rfl, rfl, rfl, by simp, World.ownsRow_nil _ _ _ _, bV, hb⟩
      case round =>
        clear bV hb
        obtain ⟨k, P, d, hk, hg, rfl, rfl, hJO, hPl, hown, bV, hb⟩ := hrel
        by_cases hlt : k < L.length
        · obtain ⟨g, rfl, hg0, e0, e1⟩ := h.at hlt
          have HO := Lib.hid (joinO_take t L k hlt)
          generalize L[k] = s at e0 e1 HO
          have hki : (0 : Int) ≤ k ∧ (k : Int) < L.length := by omega
          have CP := Lib.hid (fun W => sApart_any s.1 s.2 t.1 t.2 W)
          have c0 := (Below.cell hb (p := ⟨g, k * 2, none⟩) hg0).trans e0
          have c1 := (Below.cell hb (p := ⟨g, k * 2 + 1, none⟩) hg0).trans e1
          have v0 := bV.cell 0
          have v1 := bV.cell 1
          simp only [List.getElem?_toArray, List.getElem?_cons_zero, List.getElem?_cons_succ] at v0 v1
          cases d with
          | true =>
            go_upto_region 13 with fail
            refine wp_region_held_drew (S := fun w' => w'.cell? ⟨g, k * 2, none⟩ = some (.int .u64 s.1) ∧ w'.cell? ⟨g, k * 2 + 1, none⟩ = some (.int .u64 s.2) ∧ w'.cell? ⟨w.heap.size, 0, none⟩ = some (.int .u64 t.1) ∧ w'.cell? ⟨w.heap.size, 1, none⟩ = some (.int .u64 t.2)) (by kernel_rfl) ?_ (fun hHeld => ?_)
            focus (exact ⟨c0, c1, v0, v1⟩)
            (refine takeT (i := 0) (v := ?_) rfl ?_ (fun _ _ _ h => h) rfl hHeld ?_ ?_; rotate_left; (focus kernel_rfl); (focus (intro w hSw; (try dsimp only at hSw); go_simp; (try with_reducible rfl))); (try simp only [Act.put, List.setIfInBounds_toArray, List.set_cons_zero, List.set_cons_succ]))
            (refine takeT (i := 1) (v := ?_) rfl ?_ (fun _ _ _ h => h) rfl hHeld ?_ ?_; rotate_left; (focus kernel_rfl); (focus (intro w hSw; (try dsimp only at hSw); go_simp; (try with_reducible rfl))); (try simp only [Act.put, List.setIfInBounds_toArray, List.set_cons_zero, List.set_cons_succ]))
            (refine takeT (i := 2) (v := ?_) rfl ?_ (fun _ _ _ h => h) rfl hHeld ?_ ?_; rotate_left; (focus kernel_rfl); (focus (intro w hSw; (try dsimp only at hSw); go_simp; (try with_reducible rfl))); (try simp only [Act.put, List.setIfInBounds_toArray, List.set_cons_zero, List.set_cons_succ]))
            (refine takeF (i := 3) rfl ?_ (fun _ _ _ h => h) rfl hHeld ?_; (focus kernel_rfl); (try simp only [Act.put, List.setIfInBounds_toArray, List.set_cons_zero, List.set_cons_succ]))
            (refine takeF (i := 4) rfl ?_ (fun _ _ _ h => h) rfl hHeld ?_; (focus kernel_rfl); (try simp only [Act.put, List.setIfInBounds_toArray, List.set_cons_zero, List.set_cons_succ]))
            (refine takeF (i := 5) rfl ?_ (fun _ _ _ h => h) rfl hHeld ?_; (focus kernel_rfl); (try simp only [Act.put, List.setIfInBounds_toArray, List.set_cons_zero, List.set_cons_succ]))
            (refine takeF (i := 6) rfl ?_ (fun _ _ _ h => h) rfl hHeld ?_; (focus kernel_rfl); (try simp only [Act.put, List.setIfInBounds_toArray, List.set_cons_zero, List.set_cons_succ]))
            (refine takeF (i := 7) rfl ?_ (fun _ _ _ h => h) rfl hHeld ?_; (focus kernel_rfl); (try simp only [Act.put, List.setIfInBounds_toArray, List.set_cons_zero, List.set_cons_succ]))
            (refine takeF (i := 8) rfl ?_ (fun _ _ _ h => h) rfl hHeld ?_; (focus kernel_rfl); (try simp only [Act.put, List.setIfInBounds_toArray, List.set_cons_zero, List.set_cons_succ]))
            (refine takeF (i := 9) rfl ?_ (fun _ _ _ h => h) rfl hHeld ?_; (focus kernel_rfl); (try simp only [Act.put, List.setIfInBounds_toArray, List.set_cons_zero, List.set_cons_succ]))
            (refine takeF (i := 10) rfl ?_ (fun _ _ _ h => h) rfl hHeld ?_; (focus kernel_rfl); (try simp only [Act.put, List.setIfInBounds_toArray, List.set_cons_zero, List.set_cons_succ]))
            (refine takeT (i := 11) (v := ?_) rfl ?_ (fun _ _ _ h => h) rfl hHeld ?_ ?_; rotate_left; (focus kernel_rfl); (focus (intro w hSw; (try dsimp only at hSw); go_simp; (try with_reducible rfl))); (try simp only [Act.put, List.setIfInBounds_toArray, List.set_cons_zero, List.set_cons_succ]))
            (refine wpAnyH_done (by kernel_rfl) ?_ _)
            clear hHeld
            replace bV := bV.drew
            replace hb := hb.drew
            replace hown := own_nx hown ((Below.refl _ _).drew)
            clear c0 c1 v0 v1
            generalize wr.drew = W at bV hb hown ⊢
            have c0 := (Below.cell hb (p := ⟨g, k * 2, none⟩) hg0).trans e0
            have c1 := (Below.cell hb (p := ⟨g, k * 2 + 1, none⟩) hg0).trans e1
            have v0 := bV.cell 0
            have v1 := bV.cell 1
            simp only [List.getElem?_toArray, List.getElem?_cons_zero, List.getElem?_cons_succ] at v0 v1
            rcases hap : apB s.1 s.2 t.1 t.2 with _ | _
            · rw [hap] at CP
              have HAP := Lib.hid hap
              clear hap
              have hS : ∀ w', Nx W w' → w'.cell? ⟨g, k * 2, none⟩ = some (.int .u64 s.1) ∧ w'.cell? ⟨g, k * 2 + 1, none⟩ = some (.int .u64 s.2) ∧ w'.cell? ⟨w.heap.size, 0, none⟩ = some (.int .u64 t.1) ∧ w'.cell? ⟨w.heap.size, 1, none⟩ = some (.int .u64 t.2) ∧ Nx W w' := fun w' q => ⟨(Below.cell q (p := ⟨g, k * 2, none⟩) (World.block_lt_of_cell? W _ c0)).trans c0, (Below.cell q (p := ⟨g, k * 2 + 1, none⟩) (World.block_lt_of_cell? W _ c1)).trans c1, (bV.nx q).cell 0, (bV.nx q).cell 1, q⟩
              go_upto_region 16 with fail
              refine wp_region_held_drew (S := fun w' => w'.cell? ⟨g, k * 2, none⟩ = some (.int .u64 s.1) ∧ w'.cell? ⟨g, k * 2 + 1, none⟩ = some (.int .u64 s.2) ∧ w'.cell? ⟨w.heap.size, 0, none⟩ = some (.int .u64 t.1) ∧ w'.cell? ⟨w.heap.size, 1, none⟩ = some (.int .u64 t.2) ∧ Nx W w') (by kernel_rfl) ?_ (fun hHeld => ?_)
              focus (exact hS _ ((Below.refl _ _).drew))
              (refine takeT (i := 0) (v := ?_) rfl ?_ (fun _ _ _ h => h) rfl hHeld ?_ ?_; rotate_left; (focus kernel_rfl); (focus (intro w hSw; (try dsimp only at hSw); go_simp; (try with_reducible rfl))); (try simp only [Act.put, List.setIfInBounds_toArray, List.set_cons_zero, List.set_cons_succ]))
              (refine takeT (i := 1) (v := ?_) rfl ?_ (fun _ _ _ h => h) rfl hHeld ?_ ?_; rotate_left; (focus kernel_rfl); (focus (intro w hSw; (try dsimp only at hSw); go_simp; (try with_reducible rfl))); (try simp only [Act.put, List.setIfInBounds_toArray, List.set_cons_zero, List.set_cons_succ]))
              (refine takeT (i := 2) (v := ?_) rfl ?_ (fun _ _ _ h => h) rfl hHeld ?_ ?_; rotate_left; (focus kernel_rfl); (focus (intro w hSw; (try dsimp only at hSw); go_simp; (try with_reducible rfl))); (try simp only [Act.put, List.setIfInBounds_toArray, List.set_cons_zero, List.set_cons_succ]))
              (refine takeT (i := 3) (v := ?_) rfl ?_ (fun _ _ _ h => h) rfl hHeld ?_ ?_; rotate_left; (focus kernel_rfl); (focus (intro w hSw; (try dsimp only at hSw); go_simp; (try with_reducible rfl))); (try simp only [Act.put, List.setIfInBounds_toArray, List.set_cons_zero, List.set_cons_succ]))
              (refine takeT (i := 4) (v := ?_) rfl ?_ (fun _ _ _ h => h) rfl hHeld ?_ ?_; rotate_left; (focus kernel_rfl); (focus (intro w hSw; (try dsimp only at hSw); go_simp; (try with_reducible rfl))); (try simp only [Act.put, List.setIfInBounds_toArray, List.set_cons_zero, List.set_cons_succ]))
              (refine doOne (i := 5) rfl ?_ (fun K hK => ?_); (focus kernel_rfl))
              ((first | fail | go_simp); (first | ((first | (go_at_call 23; refine (CP.out _).mono ?_; rintro e wh ⟨rfl, nh⟩)); go_wp2_with fail) | skip); refine hK.out _ _ ?_ (fun hHeldN => ?_); (focus (exact hS _ (bl_step nh hHeld.2.2.2.2 (Below.size hHeld.2.2.2.2)))); clear hHeld hK K; have hHeld := hHeldN; clear hHeldN; (try simp only [Act.put, List.setIfInBounds_toArray, List.set_cons_zero, List.set_cons_succ]))
              (refine wpAnyH_done (by kernel_rfl) ?_ _)
              have kk := hHeld.2.2.2.2
              replace bV := bV.nx kk
              replace hown := own_nx hown kk
              replace hb : Below w.heap.size w wh := bl_step kk hb hb.size
              clear hHeld hS kk nh c0 c1 v0 v1
              go_wp2
              go_roundg (L.length - (k + 1))
              case measure => omega
              case rel => exact ⟨k + 1, P, true, by omega, by omega, by go_num, rfl, by show joinO t (L.take (k + 1)) = _; rw [HO.out, hJO.out]; exact jput_tn HAP.out, by first | omega | (simp; omega), hown, bV, hb⟩
            · rw [hap] at CP
              have HAP := Lib.hid hap
              clear hap
              have hS : ∀ w', Nx W w' → w'.cell? ⟨g, k * 2, none⟩ = some (.int .u64 s.1) ∧ w'.cell? ⟨g, k * 2 + 1, none⟩ = some (.int .u64 s.2) ∧ w'.cell? ⟨w.heap.size, 0, none⟩ = some (.int .u64 t.1) ∧ w'.cell? ⟨w.heap.size, 1, none⟩ = some (.int .u64 t.2) ∧ Nx W w' := fun w' q => ⟨(Below.cell q (p := ⟨g, k * 2, none⟩) (World.block_lt_of_cell? W _ c0)).trans c0, (Below.cell q (p := ⟨g, k * 2 + 1, none⟩) (World.block_lt_of_cell? W _ c1)).trans c1, (bV.nx q).cell 0, (bV.nx q).cell 1, q⟩
              go_upto_region 16 with fail
              refine wp_region_held_drew (S := fun w' => w'.cell? ⟨g, k * 2, none⟩ = some (.int .u64 s.1) ∧ w'.cell? ⟨g, k * 2 + 1, none⟩ = some (.int .u64 s.2) ∧ w'.cell? ⟨w.heap.size, 0, none⟩ = some (.int .u64 t.1) ∧ w'.cell? ⟨w.heap.size, 1, none⟩ = some (.int .u64 t.2) ∧ Nx W w') (by kernel_rfl) ?_ (fun hHeld => ?_)
              focus (exact hS _ ((Below.refl _ _).drew))
              (refine takeT (i := 0) (v := ?_) rfl ?_ (fun _ _ _ h => h) rfl hHeld ?_ ?_; rotate_left; (focus kernel_rfl); (focus (intro w hSw; (try dsimp only at hSw); go_simp; (try with_reducible rfl))); (try simp only [Act.put, List.setIfInBounds_toArray, List.set_cons_zero, List.set_cons_succ]))
              (refine takeT (i := 1) (v := ?_) rfl ?_ (fun _ _ _ h => h) rfl hHeld ?_ ?_; rotate_left; (focus kernel_rfl); (focus (intro w hSw; (try dsimp only at hSw); go_simp; (try with_reducible rfl))); (try simp only [Act.put, List.setIfInBounds_toArray, List.set_cons_zero, List.set_cons_succ]))
              (refine takeT (i := 2) (v := ?_) rfl ?_ (fun _ _ _ h => h) rfl hHeld ?_ ?_; rotate_left; (focus kernel_rfl); (focus (intro w hSw; (try dsimp only at hSw); go_simp; (try with_reducible rfl))); (try simp only [Act.put, List.setIfInBounds_toArray, List.set_cons_zero, List.set_cons_succ]))
              (refine takeT (i := 3) (v := ?_) rfl ?_ (fun _ _ _ h => h) rfl hHeld ?_ ?_; rotate_left; (focus kernel_rfl); (focus (intro w hSw; (try dsimp only at hSw); go_simp; (try with_reducible rfl))); (try simp only [Act.put, List.setIfInBounds_toArray, List.set_cons_zero, List.set_cons_succ]))
              (refine takeT (i := 4) (v := ?_) rfl ?_ (fun _ _ _ h => h) rfl hHeld ?_ ?_; rotate_left; (focus kernel_rfl); (focus (intro w hSw; (try dsimp only at hSw); go_simp; (try with_reducible rfl))); (try simp only [Act.put, List.setIfInBounds_toArray, List.set_cons_zero, List.set_cons_succ]))
              (refine doOne (i := 5) rfl ?_ (fun K hK => ?_); (focus kernel_rfl))
              ((first | fail | go_simp); (first | ((first | (go_at_call 23; refine (CP.out _).mono ?_; rintro e wh ⟨rfl, nh⟩)); go_wp2_with fail) | skip); refine hK.out _ _ ?_ (fun hHeldN => ?_); (focus (exact hS _ (bl_step nh hHeld.2.2.2.2 (Below.size hHeld.2.2.2.2)))); clear hHeld hK K; have hHeld := hHeldN; clear hHeldN; (try simp only [Act.put, List.setIfInBounds_toArray, List.set_cons_zero, List.set_cons_succ]))
              (refine wpAnyH_done (by kernel_rfl) ?_ _)
              have kk := hHeld.2.2.2.2
              replace bV := bV.nx kk
              replace hown := own_nx hown kk
              replace hb : Below w.heap.size w wh := bl_step kk hb hb.size
              clear hHeld hS kk nh c0 c1 v0 v1
              have c0 := (Below.cell hb (p := ⟨g, k * 2, none⟩) hg0).trans e0
              have c1 := (Below.cell hb (p := ⟨g, k * 2 + 1, none⟩) hg0).trans e1
              have v0 := bV.cell 0
              have v1 := bV.cell 1
              simp only [List.getElem?_toArray, List.getElem?_cons_zero, List.getElem?_cons_succ] at v0 v1
              have hVl := bV.lt
              go_wp2_with (first | (at_builtin; refine wpList_append_own _ rfl _ _ 28 rfl (w.heap.size + 1) 24 i0 (.agg #[.int .u64 0, .int .u64 0]) 2 16 Try.underlying28 hi hz0 hz1 hz2 rfl (by decide) _ _ _ rfl (hown.alloc _) ⟨wh.heap.size, 0, none⟩ 1 1 [.int .u64 s.1, .int .u64 s.2] rfl rfl (pair_new _ _ _ _ rfl) (cellsL_one [(s.1, s.2)]) (by unfold maxLen; omega) (by omega) (by simp; omega) ?_))
              intro vN wN hown' hgrow _
              replace bV := (bV.alloc (.cells #[.int .u64 s.1, .int .u64 s.2] 24)).grownV (hown.alloc _) hgrow (Nat.lt_succ_self _)
              replace hb : Below w.heap.size w wN := (hb.alloc (by omega) _).grown hgrow (by simp; omega) (fun g' e => by have := (hown.lt g' e).1; omega)
              replace hown := put_own hown'
              clear hown' hgrow hVl c0 c1 v0 v1
              go_wp2
              go_roundg (L.length - (k + 1))
              case measure => omega
              case rel => exact ⟨k + 1, P ++ [s], true, by omega, by omega, by go_num, rfl, by show joinO t (L.take (k + 1)) = _; rw [HO.out, hJO.out]; exact jput_tt HAP.out, by first | omega | (simp; omega), hown, bV, hb⟩
          | false =>
            by_cases hts : t.1 ≤ s.1
            · have HTS := Lib.hid hts
              go_upto_region 13 with fail
              refine wp_region_held_drew (S := fun w' => w'.cell? ⟨g, k * 2, none⟩ = some (.int .u64 s.1) ∧ w'.cell? ⟨g, k * 2 + 1, none⟩ = some (.int .u64 s.2) ∧ w'.cell? ⟨w.heap.size, 0, none⟩ = some (.int .u64 t.1) ∧ w'.cell? ⟨w.heap.size, 1, none⟩ = some (.int .u64 t.2)) (by kernel_rfl) ?_ (fun hHeld => ?_)
              focus (exact ⟨c0, c1, v0, v1⟩)
              (refine takeT (i := 0) (v := ?_) rfl ?_ (fun _ _ _ h => h) rfl hHeld ?_ ?_; rotate_left; (focus kernel_rfl); (focus (intro w hSw; (try dsimp only at hSw); go_simp; (try with_reducible rfl))); (try simp only [Act.put, List.setIfInBounds_toArray, List.set_cons_zero, List.set_cons_succ]))
              (refine takeT (i := 1) (v := ?_) rfl ?_ (fun _ _ _ h => h) rfl hHeld ?_ ?_; rotate_left; (focus kernel_rfl); (focus (intro w hSw; (try dsimp only at hSw); go_simp; (try with_reducible rfl))); (try simp only [Act.put, List.setIfInBounds_toArray, List.set_cons_zero, List.set_cons_succ]))
              (refine takeT (i := 2) (v := ?_) rfl ?_ (fun _ _ _ h => h) rfl hHeld ?_ ?_; rotate_left; (focus kernel_rfl); (focus (intro w hSw; (try dsimp only at hSw); go_simp; (try with_reducible rfl))); (try simp only [Act.put, List.setIfInBounds_toArray, List.set_cons_zero, List.set_cons_succ]))
              (refine takeT (i := 3) (v := ?_) rfl ?_ (fun _ _ _ h => h) rfl hHeld ?_ ?_; rotate_left; (focus kernel_rfl); (focus (intro w hSw; (try dsimp only at hSw); go_simp; (try with_reducible rfl))); (try simp only [Act.put, List.setIfInBounds_toArray, List.set_cons_zero, List.set_cons_succ]))
              (refine takeT (i := 4) (v := ?_) rfl ?_ (fun _ _ _ h => h) rfl hHeld ?_ ?_; rotate_left; (focus kernel_rfl); (focus (intro w hSw; (try dsimp only at hSw); go_simp; (try with_reducible rfl))); (try simp only [Act.put, List.setIfInBounds_toArray, List.set_cons_zero, List.set_cons_succ]))
              (refine takeT (i := 5) (v := ?_) rfl ?_ (fun _ _ _ h => h) rfl hHeld ?_ ?_; rotate_left; (focus kernel_rfl); (focus (intro w hSw; (try dsimp only at hSw); go_simp; (try with_reducible rfl))); (try simp only [Act.put, List.setIfInBounds_toArray, List.set_cons_zero, List.set_cons_succ]))
              (refine takeT (i := 6) (v := ?_) rfl ?_ (fun _ _ _ h => h) rfl hHeld ?_ ?_; rotate_left; (focus kernel_rfl); (focus (intro w hSw; (try dsimp only at hSw); go_simp; (try with_reducible rfl))); (try simp only [Act.put, List.setIfInBounds_toArray, List.set_cons_zero, List.set_cons_succ]))
              (refine takeT (i := 7) (v := ?_) rfl ?_ (fun _ _ _ h => h) rfl hHeld ?_ ?_; rotate_left; (focus kernel_rfl); (focus (intro w hSw; (try dsimp only at hSw); go_simp; (try with_reducible rfl))); (try simp only [Act.put, List.setIfInBounds_toArray, List.set_cons_zero, List.set_cons_succ]))
              (refine takeT (i := 8) (v := ?_) rfl ?_ (fun _ _ _ h => h) rfl hHeld ?_ ?_; rotate_left; (focus kernel_rfl); (focus (intro w hSw; (try dsimp only at hSw); go_simp; (try with_reducible rfl))); (try simp only [Act.put, List.setIfInBounds_toArray, List.set_cons_zero, List.set_cons_succ]))
              (refine takeT (i := 9) (v := ?_) rfl ?_ (fun _ _ _ h => h) rfl hHeld ?_ ?_; rotate_left; (focus kernel_rfl); (focus (intro w hSw; (try dsimp only at hSw); go_simp; (try with_reducible rfl))); (try simp only [Act.put, List.setIfInBounds_toArray, List.set_cons_zero, List.set_cons_succ]))
              (refine takeT (i := 10) (v := ?_) rfl ?_ (fun _ _ _ h => h) rfl hHeld ?_ ?_; rotate_left; (focus kernel_rfl); (focus (intro w hSw; (try dsimp only at hSw); go_simp; (try with_reducible rfl))); (try simp only [Act.put, List.setIfInBounds_toArray, List.set_cons_zero, List.set_cons_succ]))
              (refine takeT (i := 11) (v := ?_) rfl ?_ (fun _ _ _ h => h) rfl hHeld ?_ ?_; rotate_left; (focus kernel_rfl); (focus (intro w hSw; (try dsimp only at hSw); go_simp; (try with_reducible rfl))); (try simp only [Act.put, List.setIfInBounds_toArray, List.set_cons_zero, List.set_cons_succ]))
              (refine wpAnyH_done (by kernel_rfl) ?_ _)
              clear hHeld
              replace bV := bV.drew
              replace hb := hb.drew
              replace hown := own_nx hown ((Below.refl _ _).drew)
              clear c0 c1 v0 v1
              generalize wr.drew = W at bV hb hown ⊢
              have c0 := (Below.cell hb (p := ⟨g, k * 2, none⟩) hg0).trans e0
              have c1 := (Below.cell hb (p := ⟨g, k * 2 + 1, none⟩) hg0).trans e1
              have v0 := bV.cell 0
              have v1 := bV.cell 1
              simp only [List.getElem?_toArray, List.getElem?_cons_zero, List.getElem?_cons_succ] at v0 v1
              have hVl := bV.lt
              go_wp2_with (first | (at_builtin; refine wpList_append_own _ rfl _ _ 28 rfl (w.heap.size + 1) 24 i0 (.agg #[.int .u64 0, .int .u64 0]) 2 16 Try.underlying28 hi hz0 hz1 hz2 rfl (by decide) _ _ _ rfl (hown.alloc _) ⟨W.heap.size, 0, none⟩ 1 1 [.int .u64 t.1, .int .u64 t.2] rfl rfl (pair_new _ _ _ _ rfl) (cellsL_one [(t.1, t.2)]) (by unfold maxLen; omega) (by omega) (by simp; omega) ?_))
              intro vN wN hown' hgrow _
              replace bV := (bV.alloc (.cells #[.int .u64 t.1, .int .u64 t.2] 24)).grownV (hown.alloc _) hgrow (Nat.lt_succ_self _)
              replace hb : Below w.heap.size w wN := (hb.alloc (by omega) _).grown hgrow (by simp; omega) (fun g' e => by have := (hown.lt g' e).1; omega)
              replace hown := put_own hown'
              clear hown' hgrow hVl c0 c1 v0 v1
              have c0 := (Below.cell hb (p := ⟨g, k * 2, none⟩) hg0).trans e0
              have c1 := (Below.cell hb (p := ⟨g, k * 2 + 1, none⟩) hg0).trans e1
              have v0 := bV.cell 0
              have v1 := bV.cell 1
              simp only [List.getElem?_toArray, List.getElem?_cons_zero, List.getElem?_cons_succ] at v0 v1
              generalize wN = W2 at *
              obtain ⟨P2, hP2⟩ : ∃ P2, P2 = P ++ [t] := ⟨_, rfl⟩
              rw [← hP2] at hown
              have hPl2 : P2.length ≤ 2 * k + 1 := by rw [hP2]; simp; omega
              have HP2 := Lib.hid hP2
              clear hP2
              rcases hap : apB s.1 s.2 t.1 t.2 with _ | _
              · rw [hap] at CP
                have HAP := Lib.hid hap
                clear hap
                have hS : ∀ w', Nx W2 w' → w'.cell? ⟨g, k * 2, none⟩ = some (.int .u64 s.1) ∧ w'.cell? ⟨g, k * 2 + 1, none⟩ = some (.int .u64 s.2) ∧ w'.cell? ⟨w.heap.size, 0, none⟩ = some (.int .u64 t.1) ∧ w'.cell? ⟨w.heap.size, 1, none⟩ = some (.int .u64 t.2) ∧ Nx W2 w' := fun w' q => ⟨(Below.cell q (p := ⟨g, k * 2, none⟩) (World.block_lt_of_cell? W2 _ c0)).trans c0, (Below.cell q (p := ⟨g, k * 2 + 1, none⟩) (World.block_lt_of_cell? W2 _ c1)).trans c1, (bV.nx q).cell 0, (bV.nx q).cell 1, q⟩
                go_upto_region 16 with fail
                refine wp_region_held_drew (S := fun w' => w'.cell? ⟨g, k * 2, none⟩ = some (.int .u64 s.1) ∧ w'.cell? ⟨g, k * 2 + 1, none⟩ = some (.int .u64 s.2) ∧ w'.cell? ⟨w.heap.size, 0, none⟩ = some (.int .u64 t.1) ∧ w'.cell? ⟨w.heap.size, 1, none⟩ = some (.int .u64 t.2) ∧ Nx W2 w') (by kernel_rfl) ?_ (fun hHeld => ?_)
                focus (exact hS _ ((Below.refl _ _).drew))
                (refine takeT (i := 0) (v := ?_) rfl ?_ (fun _ _ _ h => h) rfl hHeld ?_ ?_; rotate_left; (focus kernel_rfl); (focus (intro w hSw; (try dsimp only at hSw); go_simp; (try with_reducible rfl))); (try simp only [Act.put, List.setIfInBounds_toArray, List.set_cons_zero, List.set_cons_succ]))
                (refine takeT (i := 1) (v := ?_) rfl ?_ (fun _ _ _ h => h) rfl hHeld ?_ ?_; rotate_left; (focus kernel_rfl); (focus (intro w hSw; (try dsimp only at hSw); go_simp; (try with_reducible rfl))); (try simp only [Act.put, List.setIfInBounds_toArray, List.set_cons_zero, List.set_cons_succ]))
                (refine takeT (i := 2) (v := ?_) rfl ?_ (fun _ _ _ h => h) rfl hHeld ?_ ?_; rotate_left; (focus kernel_rfl); (focus (intro w hSw; (try dsimp only at hSw); go_simp; (try with_reducible rfl))); (try simp only [Act.put, List.setIfInBounds_toArray, List.set_cons_zero, List.set_cons_succ]))
                (refine takeT (i := 3) (v := ?_) rfl ?_ (fun _ _ _ h => h) rfl hHeld ?_ ?_; rotate_left; (focus kernel_rfl); (focus (intro w hSw; (try dsimp only at hSw); go_simp; (try with_reducible rfl))); (try simp only [Act.put, List.setIfInBounds_toArray, List.set_cons_zero, List.set_cons_succ]))
                (refine takeT (i := 4) (v := ?_) rfl ?_ (fun _ _ _ h => h) rfl hHeld ?_ ?_; rotate_left; (focus kernel_rfl); (focus (intro w hSw; (try dsimp only at hSw); go_simp; (try with_reducible rfl))); (try simp only [Act.put, List.setIfInBounds_toArray, List.set_cons_zero, List.set_cons_succ]))
                (refine doOne (i := 5) rfl ?_ (fun K hK => ?_); (focus kernel_rfl))
                ((first | fail | go_simp); (first | ((first | (go_at_call 23; refine (CP.out _).mono ?_; rintro e wh ⟨rfl, nh⟩)); go_wp2_with fail) | skip); refine hK.out _ _ ?_ (fun hHeldN => ?_); (focus (exact hS _ (bl_step nh hHeld.2.2.2.2 (Below.size hHeld.2.2.2.2)))); clear hHeld hK K; have hHeld := hHeldN; clear hHeldN; (try simp only [Act.put, List.setIfInBounds_toArray, List.set_cons_zero, List.set_cons_succ]))
                (refine wpAnyH_done (by kernel_rfl) ?_ _)
                have kk := hHeld.2.2.2.2
                replace bV := bV.nx kk
                replace hown := own_nx hown kk
                replace hb : Below w.heap.size w wh := bl_step kk hb hb.size
                clear hHeld hS kk nh c0 c1 v0 v1
                go_wp2
                go_roundg (L.length - (k + 1))
                case measure => omega
                case rel => exact ⟨k + 1, P2, true, by omega, by omega, by go_num, rfl, by show joinO t (L.take (k + 1)) = _; rw [HO.out, hJO.out]; exact (by rw [HP2.out]; exact jput_fm HTS.out HAP.out), by first | omega | (simp; omega), hown, bV, hb⟩
              · rw [hap] at CP
                have HAP := Lib.hid hap
                clear hap
                have hS : ∀ w', Nx W2 w' → w'.cell? ⟨g, k * 2, none⟩ = some (.int .u64 s.1) ∧ w'.cell? ⟨g, k * 2 + 1, none⟩ = some (.int .u64 s.2) ∧ w'.cell? ⟨w.heap.size, 0, none⟩ = some (.int .u64 t.1) ∧ w'.cell? ⟨w.heap.size, 1, none⟩ = some (.int .u64 t.2) ∧ Nx W2 w' := fun w' q => ⟨(Below.cell q (p := ⟨g, k * 2, none⟩) (World.block_lt_of_cell? W2 _ c0)).trans c0, (Below.cell q (p := ⟨g, k * 2 + 1, none⟩) (World.block_lt_of_cell? W2 _ c1)).trans c1, (bV.nx q).cell 0, (bV.nx q).cell 1, q⟩
                go_upto_region 16 with fail
                refine wp_region_held_drew (S := fun w' => w'.cell? ⟨g, k * 2, none⟩ = some (.int .u64 s.1) ∧ w'.cell? ⟨g, k * 2 + 1, none⟩ = some (.int .u64 s.2) ∧ w'.cell? ⟨w.heap.size, 0, none⟩ = some (.int .u64 t.1) ∧ w'.cell? ⟨w.heap.size, 1, none⟩ = some (.int .u64 t.2) ∧ Nx W2 w') (by kernel_rfl) ?_ (fun hHeld => ?_)
                focus (exact hS _ ((Below.refl _ _).drew))
                (refine takeT (i := 0) (v := ?_) rfl ?_ (fun _ _ _ h => h) rfl hHeld ?_ ?_; rotate_left; (focus kernel_rfl); (focus (intro w hSw; (try dsimp only at hSw); go_simp; (try with_reducible rfl))); (try simp only [Act.put, List.setIfInBounds_toArray, List.set_cons_zero, List.set_cons_succ]))
                (refine takeT (i := 1) (v := ?_) rfl ?_ (fun _ _ _ h => h) rfl hHeld ?_ ?_; rotate_left; (focus kernel_rfl); (focus (intro w hSw; (try dsimp only at hSw); go_simp; (try with_reducible rfl))); (try simp only [Act.put, List.setIfInBounds_toArray, List.set_cons_zero, List.set_cons_succ]))
                (refine takeT (i := 2) (v := ?_) rfl ?_ (fun _ _ _ h => h) rfl hHeld ?_ ?_; rotate_left; (focus kernel_rfl); (focus (intro w hSw; (try dsimp only at hSw); go_simp; (try with_reducible rfl))); (try simp only [Act.put, List.setIfInBounds_toArray, List.set_cons_zero, List.set_cons_succ]))
                (refine takeT (i := 3) (v := ?_) rfl ?_ (fun _ _ _ h => h) rfl hHeld ?_ ?_; rotate_left; (focus kernel_rfl); (focus (intro w hSw; (try dsimp only at hSw); go_simp; (try with_reducible rfl))); (try simp only [Act.put, List.setIfInBounds_toArray, List.set_cons_zero, List.set_cons_succ]))
                (refine takeT (i := 4) (v := ?_) rfl ?_ (fun _ _ _ h => h) rfl hHeld ?_ ?_; rotate_left; (focus kernel_rfl); (focus (intro w hSw; (try dsimp only at hSw); go_simp; (try with_reducible rfl))); (try simp only [Act.put, List.setIfInBounds_toArray, List.set_cons_zero, List.set_cons_succ]))
                (refine doOne (i := 5) rfl ?_ (fun K hK => ?_); (focus kernel_rfl))
                ((first | fail | go_simp); (first | ((first | (go_at_call 23; refine (CP.out _).mono ?_; rintro e wh ⟨rfl, nh⟩)); go_wp2_with fail) | skip); refine hK.out _ _ ?_ (fun hHeldN => ?_); (focus (exact hS _ (bl_step nh hHeld.2.2.2.2 (Below.size hHeld.2.2.2.2)))); clear hHeld hK K; have hHeld := hHeldN; clear hHeldN; (try simp only [Act.put, List.setIfInBounds_toArray, List.set_cons_zero, List.set_cons_succ]))
                (refine wpAnyH_done (by kernel_rfl) ?_ _)
                have kk := hHeld.2.2.2.2
                replace bV := bV.nx kk
                replace hown := own_nx hown kk
                replace hb : Below w.heap.size w wh := bl_step kk hb hb.size
                clear hHeld hS kk nh c0 c1 v0 v1
                have c0 := (Below.cell hb (p := ⟨g, k * 2, none⟩) hg0).trans e0
                have c1 := (Below.cell hb (p := ⟨g, k * 2 + 1, none⟩) hg0).trans e1
                have v0 := bV.cell 0
                have v1 := bV.cell 1
                simp only [List.getElem?_toArray, List.getElem?_cons_zero, List.getElem?_cons_succ] at v0 v1
                have hVl := bV.lt
                go_wp2_with (first | (at_builtin; refine wpList_append_own _ rfl _ _ 28 rfl (w.heap.size + 1) 24 i0 (.agg #[.int .u64 0, .int .u64 0]) 2 16 Try.underlying28 hi hz0 hz1 hz2 rfl (by decide) _ _ _ rfl (hown.alloc _) ⟨wh.heap.size, 0, none⟩ 1 1 [.int .u64 s.1, .int .u64 s.2] rfl rfl (pair_new _ _ _ _ rfl) (cellsL_one [(s.1, s.2)]) (by unfold maxLen; omega) (by omega) (by simp; omega) ?_))
                intro vN wN hown' hgrow _
                replace bV := (bV.alloc (.cells #[.int .u64 s.1, .int .u64 s.2] 24)).grownV (hown.alloc _) hgrow (Nat.lt_succ_self _)
                replace hb : Below w.heap.size w wN := (hb.alloc (by omega) _).grown hgrow (by simp; omega) (fun g' e => by have := (hown.lt g' e).1; omega)
                replace hown := put_own hown'
                clear hown' hgrow hVl c0 c1 v0 v1
                go_wp2
                go_roundg (L.length - (k + 1))
                case measure => omega
                case rel => exact ⟨k + 1, P2 ++ [s], true, by omega, by omega, by go_num, rfl, by show joinO t (L.take (k + 1)) = _; rw [HO.out, hJO.out]; exact (by rw [HP2.out]; exact jput_ft HTS.out HAP.out), by first | omega | (simp; omega), hown, bV, hb⟩
            · have HTS := Lib.hid hts
              go_upto_region 13 with fail
              refine wp_region_held_drew (S := fun w' => w'.cell? ⟨g, k * 2, none⟩ = some (.int .u64 s.1) ∧ w'.cell? ⟨g, k * 2 + 1, none⟩ = some (.int .u64 s.2) ∧ w'.cell? ⟨w.heap.size, 0, none⟩ = some (.int .u64 t.1) ∧ w'.cell? ⟨w.heap.size, 1, none⟩ = some (.int .u64 t.2)) (by kernel_rfl) ?_ (fun hHeld => ?_)
              focus (exact ⟨c0, c1, v0, v1⟩)
              (refine takeT (i := 0) (v := ?_) rfl ?_ (fun _ _ _ h => h) rfl hHeld ?_ ?_; rotate_left; (focus kernel_rfl); (focus (intro w hSw; (try dsimp only at hSw); go_simp; (try with_reducible rfl))); (try simp only [Act.put, List.setIfInBounds_toArray, List.set_cons_zero, List.set_cons_succ]))
              (refine takeT (i := 1) (v := ?_) rfl ?_ (fun _ _ _ h => h) rfl hHeld ?_ ?_; rotate_left; (focus kernel_rfl); (focus (intro w hSw; (try dsimp only at hSw); go_simp; (try with_reducible rfl))); (try simp only [Act.put, List.setIfInBounds_toArray, List.set_cons_zero, List.set_cons_succ]))
              (refine takeT (i := 2) (v := ?_) rfl ?_ (fun _ _ _ h => h) rfl hHeld ?_ ?_; rotate_left; (focus kernel_rfl); (focus (intro w hSw; (try dsimp only at hSw); go_simp; (try with_reducible rfl))); (try simp only [Act.put, List.setIfInBounds_toArray, List.set_cons_zero, List.set_cons_succ]))
              (refine takeT (i := 3) (v := ?_) rfl ?_ (fun _ _ _ h => h) rfl hHeld ?_ ?_; rotate_left; (focus kernel_rfl); (focus (intro w hSw; (try dsimp only at hSw); go_simp; (try with_reducible rfl))); (try simp only [Act.put, List.setIfInBounds_toArray, List.set_cons_zero, List.set_cons_succ]))
              (refine takeT (i := 4) (v := ?_) rfl ?_ (fun _ _ _ h => h) rfl hHeld ?_ ?_; rotate_left; (focus kernel_rfl); (focus (intro w hSw; (try dsimp only at hSw); go_simp; (try with_reducible rfl))); (try simp only [Act.put, List.setIfInBounds_toArray, List.set_cons_zero, List.set_cons_succ]))
              (refine takeT (i := 5) (v := ?_) rfl ?_ (fun _ _ _ h => h) rfl hHeld ?_ ?_; rotate_left; (focus kernel_rfl); (focus (intro w hSw; (try dsimp only at hSw); go_simp; (try with_reducible rfl))); (try simp only [Act.put, List.setIfInBounds_toArray, List.set_cons_zero, List.set_cons_succ]))
              (refine takeT (i := 6) (v := ?_) rfl ?_ (fun _ _ _ h => h) rfl hHeld ?_ ?_; rotate_left; (focus kernel_rfl); (focus (intro w hSw; (try dsimp only at hSw); go_simp; (try with_reducible rfl))); (try simp only [Act.put, List.setIfInBounds_toArray, List.set_cons_zero, List.set_cons_succ]))
              (refine takeT (i := 7) (v := ?_) rfl ?_ (fun _ _ _ h => h) rfl hHeld ?_ ?_; rotate_left; (focus kernel_rfl); (focus (intro w hSw; (try dsimp only at hSw); go_simp; (try with_reducible rfl))); (try simp only [Act.put, List.setIfInBounds_toArray, List.set_cons_zero, List.set_cons_succ]))
              (refine takeT (i := 8) (v := ?_) rfl ?_ (fun _ _ _ h => h) rfl hHeld ?_ ?_; rotate_left; (focus kernel_rfl); (focus (intro w hSw; (try dsimp only at hSw); go_simp; (try with_reducible rfl))); (try simp only [Act.put, List.setIfInBounds_toArray, List.set_cons_zero, List.set_cons_succ]))
              (refine takeT (i := 9) (v := ?_) rfl ?_ (fun _ _ _ h => h) rfl hHeld ?_ ?_; rotate_left; (focus kernel_rfl); (focus (intro w hSw; (try dsimp only at hSw); go_simp; (try with_reducible rfl))); (try simp only [Act.put, List.setIfInBounds_toArray, List.set_cons_zero, List.set_cons_succ]))
              (refine takeT (i := 10) (v := ?_) rfl ?_ (fun _ _ _ h => h) rfl hHeld ?_ ?_; rotate_left; (focus kernel_rfl); (focus (intro w hSw; (try dsimp only at hSw); go_simp; (try with_reducible rfl))); (try simp only [Act.put, List.setIfInBounds_toArray, List.set_cons_zero, List.set_cons_succ]))
              (refine takeT (i := 11) (v := ?_) rfl ?_ (fun _ _ _ h => h) rfl hHeld ?_ ?_; rotate_left; (focus kernel_rfl); (focus (intro w hSw; (try dsimp only at hSw); go_simp; (try with_reducible rfl))); (try simp only [Act.put, List.setIfInBounds_toArray, List.set_cons_zero, List.set_cons_succ]))
              (refine wpAnyH_done (by kernel_rfl) ?_ _)
              clear hHeld
              replace bV := bV.drew
              replace hb := hb.drew
              replace hown := own_nx hown ((Below.refl _ _).drew)
              clear c0 c1 v0 v1
              generalize wr.drew = W at bV hb hown ⊢
              have c0 := (Below.cell hb (p := ⟨g, k * 2, none⟩) hg0).trans e0
              have c1 := (Below.cell hb (p := ⟨g, k * 2 + 1, none⟩) hg0).trans e1
              have v0 := bV.cell 0
              have v1 := bV.cell 1
              simp only [List.getElem?_toArray, List.getElem?_cons_zero, List.getElem?_cons_succ] at v0 v1
              rcases hap : apB s.1 s.2 t.1 t.2 with _ | _
              · rw [hap] at CP
                have HAP := Lib.hid hap
                clear hap
                have hS : ∀ w', Nx W w' → w'.cell? ⟨g, k * 2, none⟩ = some (.int .u64 s.1) ∧ w'.cell? ⟨g, k * 2 + 1, none⟩ = some (.int .u64 s.2) ∧ w'.cell? ⟨w.heap.size, 0, none⟩ = some (.int .u64 t.1) ∧ w'.cell? ⟨w.heap.size, 1, none⟩ = some (.int .u64 t.2) ∧ Nx W w' := fun w' q => ⟨(Below.cell q (p := ⟨g, k * 2, none⟩) (World.block_lt_of_cell? W _ c0)).trans c0, (Below.cell q (p := ⟨g, k * 2 + 1, none⟩) (World.block_lt_of_cell? W _ c1)).trans c1, (bV.nx q).cell 0, (bV.nx q).cell 1, q⟩
                go_upto_region 16 with fail
                refine wp_region_held_drew (S := fun w' => w'.cell? ⟨g, k * 2, none⟩ = some (.int .u64 s.1) ∧ w'.cell? ⟨g, k * 2 + 1, none⟩ = some (.int .u64 s.2) ∧ w'.cell? ⟨w.heap.size, 0, none⟩ = some (.int .u64 t.1) ∧ w'.cell? ⟨w.heap.size, 1, none⟩ = some (.int .u64 t.2) ∧ Nx W w') (by kernel_rfl) ?_ (fun hHeld => ?_)
                focus (exact hS _ ((Below.refl _ _).drew))
                (refine takeT (i := 0) (v := ?_) rfl ?_ (fun _ _ _ h => h) rfl hHeld ?_ ?_; rotate_left; (focus kernel_rfl); (focus (intro w hSw; (try dsimp only at hSw); go_simp; (try with_reducible rfl))); (try simp only [Act.put, List.setIfInBounds_toArray, List.set_cons_zero, List.set_cons_succ]))
                (refine takeT (i := 1) (v := ?_) rfl ?_ (fun _ _ _ h => h) rfl hHeld ?_ ?_; rotate_left; (focus kernel_rfl); (focus (intro w hSw; (try dsimp only at hSw); go_simp; (try with_reducible rfl))); (try simp only [Act.put, List.setIfInBounds_toArray, List.set_cons_zero, List.set_cons_succ]))
                (refine takeT (i := 2) (v := ?_) rfl ?_ (fun _ _ _ h => h) rfl hHeld ?_ ?_; rotate_left; (focus kernel_rfl); (focus (intro w hSw; (try dsimp only at hSw); go_simp; (try with_reducible rfl))); (try simp only [Act.put, List.setIfInBounds_toArray, List.set_cons_zero, List.set_cons_succ]))
                (refine takeT (i := 3) (v := ?_) rfl ?_ (fun _ _ _ h => h) rfl hHeld ?_ ?_; rotate_left; (focus kernel_rfl); (focus (intro w hSw; (try dsimp only at hSw); go_simp; (try with_reducible rfl))); (try simp only [Act.put, List.setIfInBounds_toArray, List.set_cons_zero, List.set_cons_succ]))
                (refine takeT (i := 4) (v := ?_) rfl ?_ (fun _ _ _ h => h) rfl hHeld ?_ ?_; rotate_left; (focus kernel_rfl); (focus (intro w hSw; (try dsimp only at hSw); go_simp; (try with_reducible rfl))); (try simp only [Act.put, List.setIfInBounds_toArray, List.set_cons_zero, List.set_cons_succ]))
                (refine doOne (i := 5) rfl ?_ (fun K hK => ?_); (focus kernel_rfl))
                ((first | fail | go_simp); (first | ((first | (go_at_call 23; refine (CP.out _).mono ?_; rintro e wh ⟨rfl, nh⟩)); go_wp2_with fail) | skip); refine hK.out _ _ ?_ (fun hHeldN => ?_); (focus (exact hS _ (bl_step nh hHeld.2.2.2.2 (Below.size hHeld.2.2.2.2)))); clear hHeld hK K; have hHeld := hHeldN; clear hHeldN; (try simp only [Act.put, List.setIfInBounds_toArray, List.set_cons_zero, List.set_cons_succ]))
                (refine wpAnyH_done (by kernel_rfl) ?_ _)
                have kk := hHeld.2.2.2.2
                replace bV := bV.nx kk
                replace hown := own_nx hown kk
                replace hb : Below w.heap.size w wh := bl_step kk hb hb.size
                clear hHeld hS kk nh c0 c1 v0 v1
                go_wp2
                go_roundg (L.length - (k + 1))
                case measure => omega
                case rel => exact ⟨k + 1, P, false, by omega, by omega, by go_num, rfl, by show joinO t (L.take (k + 1)) = _; rw [HO.out, hJO.out]; exact jput_fn (by have := HTS.out; omega) HAP.out, by first | omega | (simp; omega), hown, bV, hb⟩
              · rw [hap] at CP
                have HAP := Lib.hid hap
                clear hap
                have hS : ∀ w', Nx W w' → w'.cell? ⟨g, k * 2, none⟩ = some (.int .u64 s.1) ∧ w'.cell? ⟨g, k * 2 + 1, none⟩ = some (.int .u64 s.2) ∧ w'.cell? ⟨w.heap.size, 0, none⟩ = some (.int .u64 t.1) ∧ w'.cell? ⟨w.heap.size, 1, none⟩ = some (.int .u64 t.2) ∧ Nx W w' := fun w' q => ⟨(Below.cell q (p := ⟨g, k * 2, none⟩) (World.block_lt_of_cell? W _ c0)).trans c0, (Below.cell q (p := ⟨g, k * 2 + 1, none⟩) (World.block_lt_of_cell? W _ c1)).trans c1, (bV.nx q).cell 0, (bV.nx q).cell 1, q⟩
                go_upto_region 16 with fail
                refine wp_region_held_drew (S := fun w' => w'.cell? ⟨g, k * 2, none⟩ = some (.int .u64 s.1) ∧ w'.cell? ⟨g, k * 2 + 1, none⟩ = some (.int .u64 s.2) ∧ w'.cell? ⟨w.heap.size, 0, none⟩ = some (.int .u64 t.1) ∧ w'.cell? ⟨w.heap.size, 1, none⟩ = some (.int .u64 t.2) ∧ Nx W w') (by kernel_rfl) ?_ (fun hHeld => ?_)
                focus (exact hS _ ((Below.refl _ _).drew))
                (refine takeT (i := 0) (v := ?_) rfl ?_ (fun _ _ _ h => h) rfl hHeld ?_ ?_; rotate_left; (focus kernel_rfl); (focus (intro w hSw; (try dsimp only at hSw); go_simp; (try with_reducible rfl))); (try simp only [Act.put, List.setIfInBounds_toArray, List.set_cons_zero, List.set_cons_succ]))
                (refine takeT (i := 1) (v := ?_) rfl ?_ (fun _ _ _ h => h) rfl hHeld ?_ ?_; rotate_left; (focus kernel_rfl); (focus (intro w hSw; (try dsimp only at hSw); go_simp; (try with_reducible rfl))); (try simp only [Act.put, List.setIfInBounds_toArray, List.set_cons_zero, List.set_cons_succ]))
                (refine takeT (i := 2) (v := ?_) rfl ?_ (fun _ _ _ h => h) rfl hHeld ?_ ?_; rotate_left; (focus kernel_rfl); (focus (intro w hSw; (try dsimp only at hSw); go_simp; (try with_reducible rfl))); (try simp only [Act.put, List.setIfInBounds_toArray, List.set_cons_zero, List.set_cons_succ]))
                (refine takeT (i := 3) (v := ?_) rfl ?_ (fun _ _ _ h => h) rfl hHeld ?_ ?_; rotate_left; (focus kernel_rfl); (focus (intro w hSw; (try dsimp only at hSw); go_simp; (try with_reducible rfl))); (try simp only [Act.put, List.setIfInBounds_toArray, List.set_cons_zero, List.set_cons_succ]))
                (refine takeT (i := 4) (v := ?_) rfl ?_ (fun _ _ _ h => h) rfl hHeld ?_ ?_; rotate_left; (focus kernel_rfl); (focus (intro w hSw; (try dsimp only at hSw); go_simp; (try with_reducible rfl))); (try simp only [Act.put, List.setIfInBounds_toArray, List.set_cons_zero, List.set_cons_succ]))
                (refine doOne (i := 5) rfl ?_ (fun K hK => ?_); (focus kernel_rfl))
                ((first | fail | go_simp); (first | ((first | (go_at_call 23; refine (CP.out _).mono ?_; rintro e wh ⟨rfl, nh⟩)); go_wp2_with fail) | skip); refine hK.out _ _ ?_ (fun hHeldN => ?_); (focus (exact hS _ (bl_step nh hHeld.2.2.2.2 (Below.size hHeld.2.2.2.2)))); clear hHeld hK K; have hHeld := hHeldN; clear hHeldN; (try simp only [Act.put, List.setIfInBounds_toArray, List.set_cons_zero, List.set_cons_succ]))
                (refine wpAnyH_done (by kernel_rfl) ?_ _)
                have kk := hHeld.2.2.2.2
                replace bV := bV.nx kk
                replace hown := own_nx hown kk
                replace hb : Below w.heap.size w wh := bl_step kk hb hb.size
                clear hHeld hS kk nh c0 c1 v0 v1
                have c0 := (Below.cell hb (p := ⟨g, k * 2, none⟩) hg0).trans e0
                have c1 := (Below.cell hb (p := ⟨g, k * 2 + 1, none⟩) hg0).trans e1
                have v0 := bV.cell 0
                have v1 := bV.cell 1
                simp only [List.getElem?_toArray, List.getElem?_cons_zero, List.getElem?_cons_succ] at v0 v1
                have hVl := bV.lt
                go_wp2_with (first | (at_builtin; refine wpList_append_own _ rfl _ _ 28 rfl (w.heap.size + 1) 24 i0 (.agg #[.int .u64 0, .int .u64 0]) 2 16 Try.underlying28 hi hz0 hz1 hz2 rfl (by decide) _ _ _ rfl (hown.alloc _) ⟨wh.heap.size, 0, none⟩ 1 1 [.int .u64 s.1, .int .u64 s.2] rfl rfl (pair_new _ _ _ _ rfl) (cellsL_one [(s.1, s.2)]) (by unfold maxLen; omega) (by omega) (by simp; omega) ?_))
                intro vN wN hown' hgrow _
                replace bV := (bV.alloc (.cells #[.int .u64 s.1, .int .u64 s.2] 24)).grownV (hown.alloc _) hgrow (Nat.lt_succ_self _)
                replace hb : Below w.heap.size w wN := (hb.alloc (by omega) _).grown hgrow (by simp; omega) (fun g' e => by have := (hown.lt g' e).1; omega)
                replace hown := put_own hown'
                clear hown' hgrow hVl c0 c1 v0 v1
                go_wp2
                go_roundg (L.length - (k + 1))
                case measure => omega
                case rel => exact ⟨k + 1, P ++ [s], false, by omega, by omega, by go_num, rfl, by show joinO t (L.take (k + 1)) = _; rw [HO.out, hJO.out]; exact jput_ff (by have := HTS.out; omega) HAP.out, by first | omega | (simp; omega), hown, bV, hb⟩
        · have hkl : k = L.length := by omega
          have hJL : joinO t L = (P, d) := by have := hJO.out; rwa [hkl, List.take_length] at this
          have v0 := bV.cell 0
          have v1 := bV.cell 1
          simp only [List.getElem?_toArray, List.getElem?_cons_zero, List.getElem?_cons_succ] at v0 v1
          cases d with
          | true =>
            have hR := Lib.hid (show joinL L (a, b) = P by unfold joinL; rw [← HL.out, hJL]; simp)
            clear hJL hJO hkl
            go_wp2
            go_ret
            exact retL (base := w.heap.size + 1) (by rw [hR.out]; exact hown) hb
          | false =>
            have hR := Lib.hid (show joinL L (a, b) = P ++ [t] by unfold joinL; rw [← HL.out, hJL]; simp)
            clear hJL hJO hkl
            have hVl := bV.lt
            go_wp2_with (first | (at_builtin; refine wpList_append_own _ rfl _ _ 28 rfl (w.heap.size + 1) 24 i0 (.agg #[.int .u64 0, .int .u64 0]) 2 16 Try.underlying28 hi hz0 hz1 hz2 rfl (by decide) _ _ _ rfl (hown.alloc _) ⟨wr.heap.size, 0, none⟩ 1 1 [.int .u64 t.1, .int .u64 t.2] rfl rfl (pair_new _ _ _ _ rfl) (cellsL_one [(t.1, t.2)]) (by unfold maxLen; omega) (by omega) (by simp; omega) ?_))
            intro vN wN hown' hgrow _
            replace bV := (bV.alloc (.cells #[.int .u64 t.1, .int .u64 t.2] 24)).grownV (hown.alloc _) hgrow (Nat.lt_succ_self _)
            replace hb : Below w.heap.size w wN := (hb.alloc (by omega) _).grown hgrow (by simp; omega) (fun g' e => by have := (hown.lt g' e).1; omega)
            replace hown := put_own hown'
            clear hown' hgrow hVl v0 v1
            go_wp2
            go_ret
            exact retL (base := w.heap.size + 1) (by rw [hR.out]; exact hown) hb
end Go.Proofs.Ytnmljgjcdofboaa
