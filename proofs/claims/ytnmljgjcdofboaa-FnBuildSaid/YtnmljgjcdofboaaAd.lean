/- One more range next to one of the list. -/
import Derived.Test.YtnmljgjcdofboaaAc
import Derived.Deep.LoopGhost
import Derived.Deep.RegionLaw
import Derived.Deep.DeepCutAuto
namespace Go.Proofs.Ytnmljgjcdofboaa
open Go.RowKit
set_option linter.unusedVariables false
set_option linter.unusedSimpArgs false

set_option maxRecDepth 100000 in
set_option maxHeartbeats 4000000 in
theorem ladd_down (base G g c i : Nat) (L : List R) (a b : Int) (w : World) (h : ArAt base w G g c L (totL L)) (hn : L.length < 65536) (hL : InB L) (hT : Td L) (ha : 0 ≤ a) (hab : a < b) (hb : b < 4398046511104) (hA : ApartL L (a, b)) (hS : SuccAt L a i) (hdn : dnB L i a = true) (hup : upB L i b = false) :
    Calls Try.prog 42 #[.pointer (some ⟨G, 0, none⟩), .agg #[.int .u64 a, .int .u64 b]] w (AddAr base G L (a, b) w) := by
  have HDN := Lib.hid hdn
  have HUP := Lib.hid hup
  have HS := Lib.hid hS
  clear hdn hup hS
  have hge := h.ge
  have hgg := h.gge
  have hlt := h.lt
  have hne := h.ne
  have hz := Lib.hid (szI_pos hab)
  have hz0 : (b - a == 0) = false := by rw [beq_eq_false_iff_ne]; omega
  go_enter Try.func42, Try.ntmps42
  have bV := Bk.new w #[.int .u64 a, .int .u64 b] 67
  have hA1 := h.alloc (.cells #[.int .u64 a, .int .u64 b] 67)
  have hB1 : Nx w (w.alloc (.cells #[.int .u64 a, .int .u64 b] 67)) := (Below.refl _ _).alloc (Nat.le_refl _) _
  clear h
  go_upto_region 1 with fail
  generalize w.alloc (.cells #[.int .u64 a, .int .u64 b] 67) = U at bV hA1 hB1 ⊢
  have v0 := bV.cell 0
  have v1 := bV.cell 1
  go_wp2_with fail
  refine (rsize_any a b _ (by omega) (by omega) (by omega) (by omega)).mono ?_
  rintro e w1 ⟨rfl, n1⟩
  rw [hz.out]
  replace bV := bV.nx n1
  replace hA1 := hA1.nx n1
  replace hB1 : Nx w w1 := bl_step n1 hB1 hB1.size
  clear n1 v0 v1
  have v0 := bV.cell 0
  have v1 := bV.cell 1
  go_wp2_with fail
  refine (oaddr_any a _).mono ?_
  rintro e w2 ⟨rfl, n2⟩
  replace bV := bV.nx n2
  replace hA1 := hA1.nx n2
  replace hB1 : Nx w w2 := bl_step n2 hB1 hB1.size
  clear n2 v0 v1
  go_wp2_with fail
  refine (lfindSucc_any base G g c L _ a _ hA1 (by omega) hL hT (by omega) (by omega)).mono ?_
  rintro e w3 ⟨i', rfl, hs, n3⟩
  obtain rfl := succ_unique HS.out hs
  clear HS
  replace bV := bV.nx n3
  replace hA1 := hA1.nx n3
  replace hB1 : Nx w w3 := bl_step n3 hB1 hB1.size
  clear n3
  have hil := hs.le
  obtain ⟨cur, _, _, hcap, _, _, _⟩ := hA1.row
  have hlw := hB1.size
  obtain ⟨q0, q1, q2, q3⟩ := hA1.cells
  have v0 := bV.cell 0
  have v1 := bV.cell 1
  have HS := Lib.hid hs
  clear hs
  go_upto_region 4 with fail
  go_cut [5] (fun v wc => v = .bool (dnB L i a) ∧ Nx w3 wc)
  case first =>
    cases i with
    | zero =>
      exact absurd HDN.out (by simp [dnB])
    | succ m =>
      have hm : m < L.length := hil
      have hd := Lib.hid (show dnB L (m + 1) a = ((L[m]).2 == a) by show ((L.getD m (0, 0)).2 == a) = _; rw [List.getD_eq_getElem?_getD, List.getElem?_eq_getElem hm]; rfl)
      obtain ⟨c0, c1⟩ := hA1.at hm
      generalize L[m] = s at c0 c1 hd
      have hi0 : (0 : Int) < (m : Int) + 1 := by omega
      have hi1 : (0 : Int) ≤ (m : Int) ∧ (m : Int) < L.length := by omega
      have hwi : IntKind.i64.wrap (m : Int) = m := IntWalk.i64_in _ (by omega)
      have k : Hd w3 [(G, 0, .slice (some ⟨g, 0, none⟩) L.length c), (g, m * 2 + 1, .int .u64 s.2), (w.heap.size, 0, .int .u64 a)] w3 := ⟨Below.refl _ _, by
        intro c hc
        simp only [List.mem_cons, List.not_mem_nil, or_false] at hc
        rcases hc with rfl | rfl | rfl
        · exact q0
        · exact c1
        · exact v0⟩
      refine wp_region_held_drew (S := fun w' => w'.cell? ⟨G, 0, none⟩ = some (.slice (some ⟨g, 0, none⟩) L.length c) ∧ w'.cell? ⟨g, m * 2 + 1, none⟩ = some (.int .u64 s.2) ∧ w'.cell? ⟨w.heap.size, 0, none⟩ = some (.int .u64 a) ∧ Hd w3 [(G, 0, .slice (some ⟨g, 0, none⟩) L.length c), (g, m * 2 + 1, .int .u64 s.2), (w.heap.size, 0, .int .u64 a)] w') (by kernel_rfl) ?_ (fun hHeld => ?_)
      focus (have k := Hd.drew (w := w3) (cs := [(G, 0, .slice (some ⟨g, 0, none⟩) L.length c), (g, m * 2 + 1, .int .u64 s.2), (w.heap.size, 0, .int .u64 a)]) (by assumption); exact ⟨k.at (G) (0) (.slice (some ⟨g, 0, none⟩) L.length c) (by simp), k.at (g) (m * 2 + 1) (.int .u64 s.2) (by simp), k.at (w.heap.size) (0) (.int .u64 a) (by simp), k⟩)
      (refine takeT (i := 0) (v := ?_) rfl ?_ (fun _ _ _ h => h) rfl hHeld ?_ ?_; rotate_left; (focus kernel_rfl); (focus (intro w hSw; (try dsimp only at hSw); go_simp; (try with_reducible rfl))); (try simp only [Act.put, List.setIfInBounds_toArray, List.set_cons_zero, List.set_cons_succ]))
      (refine takeT (i := 1) (v := ?_) rfl ?_ (fun _ _ _ h => h) rfl hHeld ?_ ?_; rotate_left; (focus kernel_rfl); (focus (intro w hSw; (try dsimp only at hSw); go_simp; (try with_reducible rfl))); (try simp only [Act.put, List.setIfInBounds_toArray, List.set_cons_zero, List.set_cons_succ]))
      (refine takeT (i := 2) (v := ?_) rfl ?_ (fun _ _ _ h => h) rfl hHeld ?_ ?_; rotate_left; (focus kernel_rfl); (focus (intro w hSw; (try dsimp only at hSw); go_simp; (try with_reducible rfl))); (try simp only [Act.put, List.setIfInBounds_toArray, List.set_cons_zero, List.set_cons_succ]))
      (refine takeT (i := 3) (v := ?_) rfl ?_ (fun _ _ _ h => h) rfl hHeld ?_ ?_; rotate_left; (focus kernel_rfl); (focus (intro w hSw; (try dsimp only at hSw); go_simp; (try with_reducible rfl))); (try simp only [Act.put, List.setIfInBounds_toArray, List.set_cons_zero, List.set_cons_succ]))
      (refine takeT (i := 4) (v := ?_) rfl ?_ (fun _ _ _ h => h) rfl hHeld ?_ ?_; rotate_left; (focus kernel_rfl); (focus (intro w hSw; (try dsimp only at hSw); go_simp; (try with_reducible rfl))); (try simp only [Act.put, List.setIfInBounds_toArray, List.set_cons_zero, List.set_cons_succ]))
      (refine takeT (i := 5) (v := ?_) rfl ?_ (fun _ _ _ h => h) rfl hHeld ?_ ?_; rotate_left; (focus kernel_rfl); (focus (intro w hSw; (try dsimp only at hSw); go_simp; (try with_reducible rfl))); (try simp only [Act.put, List.setIfInBounds_toArray, List.set_cons_zero, List.set_cons_succ]))
      (refine takeT (i := 6) (v := ?_) rfl ?_ (fun _ _ _ h => h) rfl hHeld ?_ ?_; rotate_left; (focus kernel_rfl); (focus (intro w hSw; (try dsimp only at hSw); go_simp; (try with_reducible rfl))); (try simp only [Act.put, List.setIfInBounds_toArray, List.set_cons_zero, List.set_cons_succ]))
      (refine takeT (i := 7) (v := ?_) rfl ?_ (fun _ _ _ h => h) rfl hHeld ?_ ?_; rotate_left; (focus kernel_rfl); (focus (intro w hSw; (try dsimp only at hSw); go_simp; (try with_reducible rfl))); (try simp only [Act.put, List.setIfInBounds_toArray, List.set_cons_zero, List.set_cons_succ]))
      (refine takeT (i := 8) (v := ?_) rfl ?_ (fun _ _ _ h => h) rfl hHeld ?_ ?_; rotate_left; (focus kernel_rfl); (focus (intro w hSw; (try dsimp only at hSw); go_simp; (try with_reducible rfl))); (try simp only [Act.put, List.setIfInBounds_toArray, List.set_cons_zero, List.set_cons_succ]))
      (refine takeT (i := 9) (v := ?_) rfl ?_ (fun _ _ _ h => h) rfl hHeld ?_ ?_; rotate_left; (focus kernel_rfl); (focus (intro w hSw; (try dsimp only at hSw); go_simp; (try with_reducible rfl))); (try simp only [Act.put, List.setIfInBounds_toArray, List.set_cons_zero, List.set_cons_succ]))
      (refine takeT (i := 10) (v := ?_) rfl ?_ (fun _ _ _ h => h) rfl hHeld ?_ ?_; rotate_left; (focus kernel_rfl); (focus (intro w hSw; (try dsimp only at hSw); go_simp; (try with_reducible rfl))); (try simp only [Act.put, List.setIfInBounds_toArray, List.set_cons_zero, List.set_cons_succ]))
      (refine takeT (i := 11) (v := ?_) rfl ?_ (fun _ _ _ h => h) rfl hHeld ?_ ?_; rotate_left; (focus kernel_rfl); (focus (intro w hSw; (try dsimp only at hSw); go_simp; (try with_reducible rfl))); (try simp only [Act.put, List.setIfInBounds_toArray, List.set_cons_zero, List.set_cons_succ]))
      (refine takeT (i := 12) (v := ?_) rfl ?_ (fun _ _ _ h => h) rfl hHeld ?_ ?_; rotate_left; (focus kernel_rfl); (focus (intro w hSw; (try dsimp only at hSw); go_simp; (try with_reducible rfl))); (try simp only [Act.put, List.setIfInBounds_toArray, List.set_cons_zero, List.set_cons_succ]))
      (refine takeT (i := 13) (v := ?_) rfl ?_ (fun _ _ _ h => h) rfl hHeld ?_ ?_; rotate_left; (focus kernel_rfl); (focus (intro w hSw; (try dsimp only at hSw); go_simp; (try with_reducible rfl))); (try simp only [Act.put, List.setIfInBounds_toArray, List.set_cons_zero, List.set_cons_succ]))
      (refine doOne (i := 14) rfl ?_ (fun K hK => ?_); (focus kernel_rfl))
      ((first | fail | go_simp); (first | ((first | (go_at_call 52; refine (oequal_any _ _ _).mono ?_; rintro e wh ⟨rfl, nh⟩)); go_wp2_with fail) | skip); refine hK.out _ _ ?_ (fun hHeldN => ?_); (focus (have hq := hHeld; (try dsimp only at hq); have k := Hd.nx (w := w3) (cs := [(G, 0, .slice (some ⟨g, 0, none⟩) L.length c), (g, m * 2 + 1, .int .u64 s.2), (w.heap.size, 0, .int .u64 a)]) (by go_split_ands; assumption) (by assumption); exact ⟨k.at (G) (0) (.slice (some ⟨g, 0, none⟩) L.length c) (by simp), k.at (g) (m * 2 + 1) (.int .u64 s.2) (by simp), k.at (w.heap.size) (0) (.int .u64 a) (by simp), k⟩)); clear hHeld hK K; have hHeld := hHeldN; clear hHeldN; (try simp only [Act.put, List.setIfInBounds_toArray, List.set_cons_zero, List.set_cons_succ]))
      (refine takeT (i := 15) (v := ?_) rfl ?_ (fun _ _ _ h => h) rfl hHeld ?_ ?_; rotate_left; (focus kernel_rfl); (focus (intro w hSw; (try dsimp only at hSw); go_simp; (try with_reducible rfl))); (try simp only [Act.put, List.setIfInBounds_toArray, List.set_cons_zero, List.set_cons_succ]))
      (refine takeT (i := 16) (v := ?_) rfl ?_ (fun _ _ _ h => h) rfl hHeld ?_ ?_; rotate_left; (focus kernel_rfl); (focus (intro w hSw; (try dsimp only at hSw); go_simp; (try with_reducible rfl))); (try simp only [Act.put, List.setIfInBounds_toArray, List.set_cons_zero, List.set_cons_succ]))
      (refine wpAnyH_done (by kernel_rfl) ?_ _)
      obtain ⟨kc0, kc1, kc2, k⟩ := hHeld
      go_wp2_with fail
      go_meet
      exact ⟨by rw [hd.out], k.below⟩
  case rest =>
    obtain ⟨rfl, n4⟩ := hcut
    rw [HDN.out]
    replace bV := bV.nx n4
    replace hA1 := hA1.nx n4
    replace hB1 : Nx w wc := bl_step n4 hB1 hB1.size
    generalize wc = w4 at *
    clear n4 q0 q1 q2 q3 v0 v1
    obtain ⟨q0, q1, q2, q3⟩ := hA1.cells
    have v0 := bV.cell 0
    have v1 := bV.cell 1
    go_upto_region 5 with fail
    go_cut [6] (fun v wc => v = .bool (upB L i b) ∧ Nx w4 wc)
    case first =>
      by_cases hi : i < L.length
      · have hd := Lib.hid (show upB L i b = (b == (L[i]).1) by unfold upB; rw [if_pos hi, List.getD_eq_getElem?_getD, List.getElem?_eq_getElem hi]; rfl)
        obtain ⟨c0, c1⟩ := hA1.at hi
        generalize L[i] = s at c0 c1 hd
        have hi0 : (i : Int) < (L.length : Int) := by omega
        have k : Hd w4 [(G, 0, .slice (some ⟨g, 0, none⟩) L.length c), (g, i * 2, .int .u64 s.1), (w.heap.size, 1, .int .u64 b)] w4 := ⟨Below.refl _ _, by
          intro c hc
          simp only [List.mem_cons, List.not_mem_nil, or_false] at hc
          rcases hc with rfl | rfl | rfl
          · exact q0
          · exact c0
          · exact v1⟩
        refine wp_region_held_drew (S := fun w' => w'.cell? ⟨G, 0, none⟩ = some (.slice (some ⟨g, 0, none⟩) L.length c) ∧ w'.cell? ⟨g, i * 2, none⟩ = some (.int .u64 s.1) ∧ w'.cell? ⟨w.heap.size, 1, none⟩ = some (.int .u64 b) ∧ Hd w4 [(G, 0, .slice (some ⟨g, 0, none⟩) L.length c), (g, i * 2, .int .u64 s.1), (w.heap.size, 1, .int .u64 b)] w') (by kernel_rfl) ?_ (fun hHeld => ?_)
        focus (have k := Hd.drew (w := w4) (cs := [(G, 0, .slice (some ⟨g, 0, none⟩) L.length c), (g, i * 2, .int .u64 s.1), (w.heap.size, 1, .int .u64 b)]) (by assumption); exact ⟨k.at (G) (0) (.slice (some ⟨g, 0, none⟩) L.length c) (by simp), k.at (g) (i * 2) (.int .u64 s.1) (by simp), k.at (w.heap.size) (1) (.int .u64 b) (by simp), k⟩)
        (refine takeT (i := 0) (v := ?_) rfl ?_ (fun _ _ _ h => h) rfl hHeld ?_ ?_; rotate_left; (focus kernel_rfl); (focus (intro w hSw; (try dsimp only at hSw); go_simp; (try with_reducible rfl))); (try simp only [Act.put, List.setIfInBounds_toArray, List.set_cons_zero, List.set_cons_succ]))
        (refine takeT (i := 1) (v := ?_) rfl ?_ (fun _ _ _ h => h) rfl hHeld ?_ ?_; rotate_left; (focus kernel_rfl); (focus (intro w hSw; (try dsimp only at hSw); go_simp; (try with_reducible rfl))); (try simp only [Act.put, List.setIfInBounds_toArray, List.set_cons_zero, List.set_cons_succ]))
        (refine takeT (i := 2) (v := ?_) rfl ?_ (fun _ _ _ h => h) rfl hHeld ?_ ?_; rotate_left; (focus kernel_rfl); (focus (intro w hSw; (try dsimp only at hSw); go_simp; (try with_reducible rfl))); (try simp only [Act.put, List.setIfInBounds_toArray, List.set_cons_zero, List.set_cons_succ]))
        (refine takeT (i := 3) (v := ?_) rfl ?_ (fun _ _ _ h => h) rfl hHeld ?_ ?_; rotate_left; (focus kernel_rfl); (focus (intro w hSw; (try dsimp only at hSw); go_simp; (try with_reducible rfl))); (try simp only [Act.put, List.setIfInBounds_toArray, List.set_cons_zero, List.set_cons_succ]))
        (refine takeT (i := 4) (v := ?_) rfl ?_ (fun _ _ _ h => h) rfl hHeld ?_ ?_; rotate_left; (focus kernel_rfl); (focus (intro w hSw; (try dsimp only at hSw); go_simp; (try with_reducible rfl))); (try simp only [Act.put, List.setIfInBounds_toArray, List.set_cons_zero, List.set_cons_succ]))
        (refine takeT (i := 5) (v := ?_) rfl ?_ (fun _ _ _ h => h) rfl hHeld ?_ ?_; rotate_left; (focus kernel_rfl); (focus (intro w hSw; (try dsimp only at hSw); go_simp; (try with_reducible rfl))); (try simp only [Act.put, List.setIfInBounds_toArray, List.set_cons_zero, List.set_cons_succ]))
        (refine takeT (i := 6) (v := ?_) rfl ?_ (fun _ _ _ h => h) rfl hHeld ?_ ?_; rotate_left; (focus kernel_rfl); (focus (intro w hSw; (try dsimp only at hSw); go_simp; (try with_reducible rfl))); (try simp only [Act.put, List.setIfInBounds_toArray, List.set_cons_zero, List.set_cons_succ]))
        (refine takeT (i := 7) (v := ?_) rfl ?_ (fun _ _ _ h => h) rfl hHeld ?_ ?_; rotate_left; (focus kernel_rfl); (focus (intro w hSw; (try dsimp only at hSw); go_simp; (try with_reducible rfl))); (try simp only [Act.put, List.setIfInBounds_toArray, List.set_cons_zero, List.set_cons_succ]))
        (refine takeT (i := 8) (v := ?_) rfl ?_ (fun _ _ _ h => h) rfl hHeld ?_ ?_; rotate_left; (focus kernel_rfl); (focus (intro w hSw; (try dsimp only at hSw); go_simp; (try with_reducible rfl))); (try simp only [Act.put, List.setIfInBounds_toArray, List.set_cons_zero, List.set_cons_succ]))
        (refine takeT (i := 9) (v := ?_) rfl ?_ (fun _ _ _ h => h) rfl hHeld ?_ ?_; rotate_left; (focus kernel_rfl); (focus (intro w hSw; (try dsimp only at hSw); go_simp; (try with_reducible rfl))); (try simp only [Act.put, List.setIfInBounds_toArray, List.set_cons_zero, List.set_cons_succ]))
        (refine takeT (i := 10) (v := ?_) rfl ?_ (fun _ _ _ h => h) rfl hHeld ?_ ?_; rotate_left; (focus kernel_rfl); (focus (intro w hSw; (try dsimp only at hSw); go_simp; (try with_reducible rfl))); (try simp only [Act.put, List.setIfInBounds_toArray, List.set_cons_zero, List.set_cons_succ]))
        (refine takeT (i := 11) (v := ?_) rfl ?_ (fun _ _ _ h => h) rfl hHeld ?_ ?_; rotate_left; (focus kernel_rfl); (focus (intro w hSw; (try dsimp only at hSw); go_simp; (try with_reducible rfl))); (try simp only [Act.put, List.setIfInBounds_toArray, List.set_cons_zero, List.set_cons_succ]))
        (refine takeT (i := 12) (v := ?_) rfl ?_ (fun _ _ _ h => h) rfl hHeld ?_ ?_; rotate_left; (focus kernel_rfl); (focus (intro w hSw; (try dsimp only at hSw); go_simp; (try with_reducible rfl))); (try simp only [Act.put, List.setIfInBounds_toArray, List.set_cons_zero, List.set_cons_succ]))
        (refine takeT (i := 13) (v := ?_) rfl ?_ (fun _ _ _ h => h) rfl hHeld ?_ ?_; rotate_left; (focus kernel_rfl); (focus (intro w hSw; (try dsimp only at hSw); go_simp; (try with_reducible rfl))); (try simp only [Act.put, List.setIfInBounds_toArray, List.set_cons_zero, List.set_cons_succ]))
        (refine takeT (i := 14) (v := ?_) rfl ?_ (fun _ _ _ h => h) rfl hHeld ?_ ?_; rotate_left; (focus kernel_rfl); (focus (intro w hSw; (try dsimp only at hSw); go_simp; (try with_reducible rfl))); (try simp only [Act.put, List.setIfInBounds_toArray, List.set_cons_zero, List.set_cons_succ]))
        (refine takeT (i := 15) (v := ?_) rfl ?_ (fun _ _ _ h => h) rfl hHeld ?_ ?_; rotate_left; (focus kernel_rfl); (focus (intro w hSw; (try dsimp only at hSw); go_simp; (try with_reducible rfl))); (try simp only [Act.put, List.setIfInBounds_toArray, List.set_cons_zero, List.set_cons_succ]))
        (refine takeT (i := 16) (v := ?_) rfl ?_ (fun _ _ _ h => h) rfl hHeld ?_ ?_; rotate_left; (focus kernel_rfl); (focus (intro w hSw; (try dsimp only at hSw); go_simp; (try with_reducible rfl))); (try simp only [Act.put, List.setIfInBounds_toArray, List.set_cons_zero, List.set_cons_succ]))
        (refine takeT (i := 17) (v := ?_) rfl ?_ (fun _ _ _ h => h) rfl hHeld ?_ ?_; rotate_left; (focus kernel_rfl); (focus (intro w hSw; (try dsimp only at hSw); go_simp; (try with_reducible rfl))); (try simp only [Act.put, List.setIfInBounds_toArray, List.set_cons_zero, List.set_cons_succ]))
        (refine doOne (i := 18) rfl ?_ (fun K hK => ?_); (focus kernel_rfl))
        ((first | fail | go_simp); (first | ((first | (go_at_call 52; refine (oequal_any _ _ _).mono ?_; rintro e wh ⟨rfl, nh⟩)); go_wp2_with fail) | skip); refine hK.out _ _ ?_ (fun hHeldN => ?_); (focus (have hq := hHeld; (try dsimp only at hq); have k := Hd.nx (w := w4) (cs := [(G, 0, .slice (some ⟨g, 0, none⟩) L.length c), (g, i * 2, .int .u64 s.1), (w.heap.size, 1, .int .u64 b)]) (by go_split_ands; assumption) (by assumption); exact ⟨k.at (G) (0) (.slice (some ⟨g, 0, none⟩) L.length c) (by simp), k.at (g) (i * 2) (.int .u64 s.1) (by simp), k.at (w.heap.size) (1) (.int .u64 b) (by simp), k⟩)); clear hHeld hK K; have hHeld := hHeldN; clear hHeldN; (try simp only [Act.put, List.setIfInBounds_toArray, List.set_cons_zero, List.set_cons_succ]))
        (refine takeT (i := 19) (v := ?_) rfl ?_ (fun _ _ _ h => h) rfl hHeld ?_ ?_; rotate_left; (focus kernel_rfl); (focus (intro w hSw; (try dsimp only at hSw); go_simp; (try with_reducible rfl))); (try simp only [Act.put, List.setIfInBounds_toArray, List.set_cons_zero, List.set_cons_succ]))
        (refine takeT (i := 20) (v := ?_) rfl ?_ (fun _ _ _ h => h) rfl hHeld ?_ ?_; rotate_left; (focus kernel_rfl); (focus (intro w hSw; (try dsimp only at hSw); go_simp; (try with_reducible rfl))); (try simp only [Act.put, List.setIfInBounds_toArray, List.set_cons_zero, List.set_cons_succ]))
        (refine wpAnyH_done (by kernel_rfl) ?_ _)
        obtain ⟨kc0, kc1, kc2, k⟩ := hHeld
        go_wp2_with fail
        go_meet
        exact ⟨by rw [hd.out], k.below⟩
      · have hd := Lib.hid (show upB L i b = false by unfold upB; rw [if_neg hi])
        have hi0 : ¬ (i : Int) < (L.length : Int) := by omega
        have k : Hd w4 [(G, 0, .slice (some ⟨g, 0, none⟩) L.length c)] w4 := ⟨Below.refl _ _, by
          intro c hc
          simp only [List.mem_cons, List.not_mem_nil, or_false] at hc
          subst hc
          exact q0⟩
        refine wp_region_held_drew (S := fun w' => w'.cell? ⟨G, 0, none⟩ = some (.slice (some ⟨g, 0, none⟩) L.length c) ∧ Hd w4 [(G, 0, .slice (some ⟨g, 0, none⟩) L.length c)] w') (by kernel_rfl) ?_ (fun hHeld => ?_)
        focus (have k := Hd.drew (w := w4) (cs := [(G, 0, .slice (some ⟨g, 0, none⟩) L.length c)]) (by assumption); exact ⟨k.at (G) (0) (.slice (some ⟨g, 0, none⟩) L.length c) (by simp), k⟩)
        (refine takeT (i := 0) (v := ?_) rfl ?_ (fun _ _ _ h => h) rfl hHeld ?_ ?_; rotate_left; (focus kernel_rfl); (focus (intro w hSw; (try dsimp only at hSw); go_simp; (try with_reducible rfl))); (try simp only [Act.put, List.setIfInBounds_toArray, List.set_cons_zero, List.set_cons_succ]))
        (refine takeT (i := 1) (v := ?_) rfl ?_ (fun _ _ _ h => h) rfl hHeld ?_ ?_; rotate_left; (focus kernel_rfl); (focus (intro w hSw; (try dsimp only at hSw); go_simp; (try with_reducible rfl))); (try simp only [Act.put, List.setIfInBounds_toArray, List.set_cons_zero, List.set_cons_succ]))
        (refine takeT (i := 2) (v := ?_) rfl ?_ (fun _ _ _ h => h) rfl hHeld ?_ ?_; rotate_left; (focus kernel_rfl); (focus (intro w hSw; (try dsimp only at hSw); go_simp; (try with_reducible rfl))); (try simp only [Act.put, List.setIfInBounds_toArray, List.set_cons_zero, List.set_cons_succ]))
        (refine takeT (i := 3) (v := ?_) rfl ?_ (fun _ _ _ h => h) rfl hHeld ?_ ?_; rotate_left; (focus kernel_rfl); (focus (intro w hSw; (try dsimp only at hSw); go_simp; (try with_reducible rfl))); (try simp only [Act.put, List.setIfInBounds_toArray, List.set_cons_zero, List.set_cons_succ]))
        (refine takeT (i := 4) (v := ?_) rfl ?_ (fun _ _ _ h => h) rfl hHeld ?_ ?_; rotate_left; (focus kernel_rfl); (focus (intro w hSw; (try dsimp only at hSw); go_simp; (try with_reducible rfl))); (try simp only [Act.put, List.setIfInBounds_toArray, List.set_cons_zero, List.set_cons_succ]))
        (refine takeT (i := 5) (v := ?_) rfl ?_ (fun _ _ _ h => h) rfl hHeld ?_ ?_; rotate_left; (focus kernel_rfl); (focus (intro w hSw; (try dsimp only at hSw); go_simp; (try with_reducible rfl))); (try simp only [Act.put, List.setIfInBounds_toArray, List.set_cons_zero, List.set_cons_succ]))
        (refine takeT (i := 6) (v := ?_) rfl ?_ (fun _ _ _ h => h) rfl hHeld ?_ ?_; rotate_left; (focus kernel_rfl); (focus (intro w hSw; (try dsimp only at hSw); go_simp; (try with_reducible rfl))); (try simp only [Act.put, List.setIfInBounds_toArray, List.set_cons_zero, List.set_cons_succ]))
        (refine takeT (i := 7) (v := ?_) rfl ?_ (fun _ _ _ h => h) rfl hHeld ?_ ?_; rotate_left; (focus kernel_rfl); (focus (intro w hSw; (try dsimp only at hSw); go_simp; (try with_reducible rfl))); (try simp only [Act.put, List.setIfInBounds_toArray, List.set_cons_zero, List.set_cons_succ]))
        (refine takeF (i := 8) rfl ?_ (fun _ _ _ h => h) rfl hHeld ?_; (focus kernel_rfl); (try simp only [Act.put, List.setIfInBounds_toArray, List.set_cons_zero, List.set_cons_succ]))
        (refine takeF (i := 9) rfl ?_ (fun _ _ _ h => h) rfl hHeld ?_; (focus kernel_rfl); (try simp only [Act.put, List.setIfInBounds_toArray, List.set_cons_zero, List.set_cons_succ]))
        (refine takeF (i := 10) rfl ?_ (fun _ _ _ h => h) rfl hHeld ?_; (focus kernel_rfl); (try simp only [Act.put, List.setIfInBounds_toArray, List.set_cons_zero, List.set_cons_succ]))
        (refine takeF (i := 11) rfl ?_ (fun _ _ _ h => h) rfl hHeld ?_; (focus kernel_rfl); (try simp only [Act.put, List.setIfInBounds_toArray, List.set_cons_zero, List.set_cons_succ]))
        (refine takeF (i := 12) rfl ?_ (fun _ _ _ h => h) rfl hHeld ?_; (focus kernel_rfl); (try simp only [Act.put, List.setIfInBounds_toArray, List.set_cons_zero, List.set_cons_succ]))
        (refine takeF (i := 13) rfl ?_ (fun _ _ _ h => h) rfl hHeld ?_; (focus kernel_rfl); (try simp only [Act.put, List.setIfInBounds_toArray, List.set_cons_zero, List.set_cons_succ]))
        (refine takeF (i := 14) rfl ?_ (fun _ _ _ h => h) rfl hHeld ?_; (focus kernel_rfl); (try simp only [Act.put, List.setIfInBounds_toArray, List.set_cons_zero, List.set_cons_succ]))
        (refine takeF (i := 15) rfl ?_ (fun _ _ _ h => h) rfl hHeld ?_; (focus kernel_rfl); (try simp only [Act.put, List.setIfInBounds_toArray, List.set_cons_zero, List.set_cons_succ]))
        (refine takeF (i := 16) rfl ?_ (fun _ _ _ h => h) rfl hHeld ?_; (focus kernel_rfl); (try simp only [Act.put, List.setIfInBounds_toArray, List.set_cons_zero, List.set_cons_succ]))
        (refine takeF (i := 17) rfl ?_ (fun _ _ _ h => h) rfl hHeld ?_; (focus kernel_rfl); (try simp only [Act.put, List.setIfInBounds_toArray, List.set_cons_zero, List.set_cons_succ]))
        (refine takeF (i := 18) rfl ?_ (fun _ _ _ h => h) rfl hHeld ?_; (focus kernel_rfl); (try simp only [Act.put, List.setIfInBounds_toArray, List.set_cons_zero, List.set_cons_succ]))
        (refine takeT (i := 19) (v := ?_) rfl ?_ (fun _ _ _ h => h) rfl hHeld ?_ ?_; rotate_left; (focus kernel_rfl); (focus (intro w hSw; (try dsimp only at hSw); go_simp; (try with_reducible rfl))); (try simp only [Act.put, List.setIfInBounds_toArray, List.set_cons_zero, List.set_cons_succ]))
        (refine takeT (i := 20) (v := ?_) rfl ?_ (fun _ _ _ h => h) rfl hHeld ?_ ?_; rotate_left; (focus kernel_rfl); (focus (intro w hSw; (try dsimp only at hSw); go_simp; (try with_reducible rfl))); (try simp only [Act.put, List.setIfInBounds_toArray, List.set_cons_zero, List.set_cons_succ]))
        (refine wpAnyH_done (by kernel_rfl) ?_ _)
        obtain ⟨kc0, k⟩ := hHeld
        go_wp2_with fail
        go_meet
        exact ⟨by rw [hd.out], k.below⟩
    case rest =>
      obtain ⟨rfl, n5⟩ := hcut
      rw [HUP.out]
      replace bV := bV.nx n5
      replace hA1 := hA1.nx n5
      replace hB1 : Nx w wc := bl_step n5 hB1 hB1.size
      generalize wc = w5 at *
      clear n5 q0 q1 q2 q3 v0 v1
      have hgG : g ≠ G := fun e => hne e.symm
      have hgV : g ≠ w.heap.size := by omega
      have htb := totL_bd L hL
      have hwt : IntKind.u64.wrap (totL L + (b - a)) = totL L + (b - a) := IntWalk.u64_in _ (by omega)
      clear htb
      have hGV : G ≠ w.heap.size := by omega
      replace hB1 : Below base w w5 := hB1.mono (by omega)
      have FD := Lib.hid (dn_yes hil HDN.out)
      have FU := Lib.hid (up_no HUP.out)
      clear HDN HUP
      obtain ⟨m, hm, rfl, he⟩ := FD.out
      have hM := add_down hT HS.out hA hab hm he FU.out
      obtain ⟨q0, q1, q2, q3⟩ := hA1.cells
      have u1 := (hA1.at hm).2
      have hf := hA1.own.frozenAt (m * 2 + 1)
      have v1 := bV.cell 1
      simp only [List.getElem?_toArray, List.getElem?_cons_zero, List.getElem?_cons_succ] at v1
      have hq0 := hA1.drew.cells.1
      have z1 := bV.drew.cell 1
      simp only [List.getElem?_toArray, List.getElem?_cons_zero, List.getElem?_cons_succ] at z1
      have hwi : IntKind.i64.wrap (m : Int) = m := IntWalk.i64_in _ (by omega)
      have hmi : (0 : Int) ≤ m ∧ (m : Int) < L.length := by omega
      have HM := Lib.hid hM
      clear hM he
      go_upto_region 11 with fail
      refine wp_region_held_drew (S := fun w' => w'.cell? ⟨G, 0, none⟩ = some (.slice (some ⟨g, 0, none⟩) L.length c) ∧ w'.cell? ⟨w.heap.size, 1, none⟩ = some (.int .u64 b)) (by kernel_rfl) ?_ (fun hHeld => ?_)
      focus (exact ⟨hq0, z1⟩)
      (refine takeT (i := 0) (v := ?_) rfl ?_ (fun _ _ _ h => h) rfl hHeld ?_ ?_; rotate_left; (focus kernel_rfl); (focus (intro w hSw; (try dsimp only at hSw); go_simp; (try with_reducible rfl))); (try simp only [Act.put, List.setIfInBounds_toArray, List.set_cons_zero, List.set_cons_succ]))
      (refine takeT (i := 1) (v := ?_) rfl ?_ (fun _ _ _ h => h) rfl hHeld ?_ ?_; rotate_left; (focus kernel_rfl); (focus (intro w hSw; (try dsimp only at hSw); go_simp; (try with_reducible rfl))); (try simp only [Act.put, List.setIfInBounds_toArray, List.set_cons_zero, List.set_cons_succ]))
      (refine takeT (i := 2) (v := ?_) rfl ?_ (fun _ _ _ h => h) rfl hHeld ?_ ?_; rotate_left; (focus kernel_rfl); (focus (intro w hSw; (try dsimp only at hSw); go_simp; (try with_reducible rfl))); (try simp only [Act.put, List.setIfInBounds_toArray, List.set_cons_zero, List.set_cons_succ]))
      (refine takeT (i := 3) (v := ?_) rfl ?_ (fun _ _ _ h => h) rfl hHeld ?_ ?_; rotate_left; (focus kernel_rfl); (focus (intro w hSw; (try dsimp only at hSw); go_simp; (try with_reducible rfl))); (try simp only [Act.put, List.setIfInBounds_toArray, List.set_cons_zero, List.set_cons_succ]))
      (refine takeT (i := 4) (v := ?_) rfl ?_ (fun _ _ _ h => h) rfl hHeld ?_ ?_; rotate_left; (focus kernel_rfl); (focus (intro w hSw; (try dsimp only at hSw); go_simp; (try with_reducible rfl))); (try simp only [Act.put, List.setIfInBounds_toArray, List.set_cons_zero, List.set_cons_succ]))
      (refine takeT (i := 5) (v := ?_) rfl ?_ (fun _ _ _ h => h) rfl hHeld ?_ ?_; rotate_left; (focus kernel_rfl); (focus (intro w hSw; (try dsimp only at hSw); go_simp; (try with_reducible rfl))); (try simp only [Act.put, List.setIfInBounds_toArray, List.set_cons_zero, List.set_cons_succ]))
      (refine takeT (i := 6) (v := ?_) rfl ?_ (fun _ _ _ h => h) rfl hHeld ?_ ?_; rotate_left; (focus kernel_rfl); (focus (intro w hSw; (try dsimp only at hSw); go_simp; (try with_reducible rfl))); (try simp only [Act.put, List.setIfInBounds_toArray, List.set_cons_zero, List.set_cons_succ]))
      (refine takeT (i := 7) (v := ?_) rfl ?_ (fun _ _ _ h => h) rfl hHeld ?_ ?_; rotate_left; (focus kernel_rfl); (focus (intro w hSw; (try dsimp only at hSw); go_simp; (try with_reducible rfl))); (try simp only [Act.put, List.setIfInBounds_toArray, List.set_cons_zero, List.set_cons_succ]))
      (refine takeT (i := 8) (v := ?_) rfl ?_ (fun _ _ _ h => h) rfl hHeld ?_ ?_; rotate_left; (focus kernel_rfl); (focus (intro w hSw; (try dsimp only at hSw); go_simp; (try with_reducible rfl))); (try simp only [Act.put, List.setIfInBounds_toArray, List.set_cons_zero, List.set_cons_succ]))
      (refine takeT (i := 9) (v := ?_) rfl ?_ (fun _ _ _ h => h) rfl hHeld ?_ ?_; rotate_left; (focus kernel_rfl); (focus (intro w hSw; (try dsimp only at hSw); go_simp; (try with_reducible rfl))); (try simp only [Act.put, List.setIfInBounds_toArray, List.set_cons_zero, List.set_cons_succ]))
      (refine doOne (i := 10) rfl ?_ (fun K hK => ?_); (focus kernel_rfl))
      ((first | fail | go_simp); (first | ((first | fail); go_wp2_with fail) | skip); refine hK.out _ _ ?_ (fun hHeldN => ?_); (focus (exact ⟨(World.cell?_setCell_far _ _ _ _ hgG).trans hHeld.1, (World.cell?_setCell_far _ _ _ _ hgV).trans hHeld.2⟩)); clear hHeld hK K; have hHeld := hHeldN; clear hHeldN; (try simp only [Act.put, List.setIfInBounds_toArray, List.set_cons_zero, List.set_cons_succ]))
      (refine wpAnyH_done (by kernel_rfl) ?_ _)
      have hM := HM.out
      replace hA1 := (hA1.setLim hm b).drew
      replace hB1 := (hB1.setCell (p := ⟨g, m * 2 + 1, none⟩) hgg (.int .u64 b)).drew
      replace bV := (bV.far ⟨g, m * 2 + 1, none⟩ (.int .u64 b) hgV).drew
      clear q0 q1 q2 q3 hf v1 u1 hq0 z1 hHeld
      generalize (w5.setCell ⟨g, m * 2 + 1, none⟩ (.int .u64 b)).drew = X at hA1 hB1 bV ⊢
      go_upto_region 22 with fail
      obtain ⟨q0, q1, q2, q3⟩ := hA1.cells
      have v0 := bV.cell 0
      have v1 := bV.cell 1
      simp only [List.getElem?_toArray, List.getElem?_cons_zero, List.getElem?_cons_succ] at v0 v1
      go_region_law (first | (go_simp; go_at_call 38; refine (rsize_any a b _ (by omega) (by omega) (by omega) (by omega)).mono ?_; rintro e wz ⟨rfl, nz⟩; rw [hz.out]; obtain ⟨y0, y1, y2, y3⟩ := (hA1.drew.nx nz).cells))
      all_goals
        have hA9 := (hA1.drew.nx nz).setTot (totL L + (b - a))
        have hB9 : Below base w (wz.setCell ⟨G, 1, none⟩ (.int .u64 (totL L + (b - a)))) := (bl_step nz hB1.drew (by have := hB1.drew.size; omega)).setCell (p := ⟨G, 1, none⟩) hge _
        go_wp2
        all_goals exact bodyPost_ret (v := .tuple #[]) (by simp [results, Try.results42, go_sem]) rfl ⟨rfl, _, _, _, hM, by rw [hM.tot]; exact hA9, hB9⟩
set_option maxRecDepth 100000 in
set_option maxHeartbeats 4000000 in
theorem ladd_up (base G g c i : Nat) (L : List R) (a b : Int) (w : World) (h : ArAt base w G g c L (totL L)) (hn : L.length < 65536) (hL : InB L) (hT : Td L) (ha : 0 ≤ a) (hab : a < b) (hb : b < 4398046511104) (hA : ApartL L (a, b)) (hS : SuccAt L a i) (hdn : dnB L i a = false) (hup : upB L i b = true) :
    Calls Try.prog 42 #[.pointer (some ⟨G, 0, none⟩), .agg #[.int .u64 a, .int .u64 b]] w (AddAr base G L (a, b) w) := by
  have HDN := Lib.hid hdn
  have HUP := Lib.hid hup
  have HS := Lib.hid hS
  clear hdn hup hS
  have hge := h.ge
  have hgg := h.gge
  have hlt := h.lt
  have hne := h.ne
  have hz := Lib.hid (szI_pos hab)
  have hz0 : (b - a == 0) = false := by rw [beq_eq_false_iff_ne]; omega
  go_enter Try.func42, Try.ntmps42
  have bV := Bk.new w #[.int .u64 a, .int .u64 b] 67
  have hA1 := h.alloc (.cells #[.int .u64 a, .int .u64 b] 67)
  have hB1 : Nx w (w.alloc (.cells #[.int .u64 a, .int .u64 b] 67)) := (Below.refl _ _).alloc (Nat.le_refl _) _
  clear h
  go_upto_region 1 with fail
  generalize w.alloc (.cells #[.int .u64 a, .int .u64 b] 67) = U at bV hA1 hB1 ⊢
  have v0 := bV.cell 0
  have v1 := bV.cell 1
  go_wp2_with fail
  refine (rsize_any a b _ (by omega) (by omega) (by omega) (by omega)).mono ?_
  rintro e w1 ⟨rfl, n1⟩
  rw [hz.out]
  replace bV := bV.nx n1
  replace hA1 := hA1.nx n1
  replace hB1 : Nx w w1 := bl_step n1 hB1 hB1.size
  clear n1 v0 v1
  have v0 := bV.cell 0
  have v1 := bV.cell 1
  go_wp2_with fail
  refine (oaddr_any a _).mono ?_
  rintro e w2 ⟨rfl, n2⟩
  replace bV := bV.nx n2
  replace hA1 := hA1.nx n2
  replace hB1 : Nx w w2 := bl_step n2 hB1 hB1.size
  clear n2 v0 v1
  go_wp2_with fail
  refine (lfindSucc_any base G g c L _ a _ hA1 (by omega) hL hT (by omega) (by omega)).mono ?_
  rintro e w3 ⟨i', rfl, hs, n3⟩
  obtain rfl := succ_unique HS.out hs
  clear HS
  replace bV := bV.nx n3
  replace hA1 := hA1.nx n3
  replace hB1 : Nx w w3 := bl_step n3 hB1 hB1.size
  clear n3
  have hil := hs.le
  obtain ⟨cur, _, _, hcap, _, _, _⟩ := hA1.row
  have hlw := hB1.size
  obtain ⟨q0, q1, q2, q3⟩ := hA1.cells
  have v0 := bV.cell 0
  have v1 := bV.cell 1
  have HS := Lib.hid hs
  clear hs
  go_upto_region 4 with fail
  go_cut [5] (fun v wc => v = .bool (dnB L i a) ∧ Nx w3 wc)
  case first =>
    cases i with
    | zero =>
      have k : Hd w3 [(G, 0, .slice (some ⟨g, 0, none⟩) L.length c)] w3 := ⟨Below.refl _ _, by
        intro c hc
        simp only [List.mem_cons, List.not_mem_nil, or_false] at hc
        subst hc
        exact q0⟩
      refine wp_region_held_drew (S := fun w' => w'.cell? ⟨G, 0, none⟩ = some (.slice (some ⟨g, 0, none⟩) L.length c) ∧ Hd w3 [(G, 0, .slice (some ⟨g, 0, none⟩) L.length c)] w') (by kernel_rfl) ?_ (fun hHeld => ?_)
      focus (have k := Hd.drew (w := w3) (cs := [(G, 0, .slice (some ⟨g, 0, none⟩) L.length c)]) (by assumption); exact ⟨k.at (G) (0) (.slice (some ⟨g, 0, none⟩) L.length c) (by simp), k⟩)
      (refine takeT (i := 0) (v := ?_) rfl ?_ (fun _ _ _ h => h) rfl hHeld ?_ ?_; rotate_left; (focus kernel_rfl); (focus (intro w hSw; (try dsimp only at hSw); go_simp; (try with_reducible rfl))); (try simp only [Act.put, List.setIfInBounds_toArray, List.set_cons_zero, List.set_cons_succ]))
      (refine takeT (i := 1) (v := ?_) rfl ?_ (fun _ _ _ h => h) rfl hHeld ?_ ?_; rotate_left; (focus kernel_rfl); (focus (intro w hSw; (try dsimp only at hSw); go_simp; (try with_reducible rfl))); (try simp only [Act.put, List.setIfInBounds_toArray, List.set_cons_zero, List.set_cons_succ]))
      (refine takeT (i := 2) (v := ?_) rfl ?_ (fun _ _ _ h => h) rfl hHeld ?_ ?_; rotate_left; (focus kernel_rfl); (focus (intro w hSw; (try dsimp only at hSw); go_simp; (try with_reducible rfl))); (try simp only [Act.put, List.setIfInBounds_toArray, List.set_cons_zero, List.set_cons_succ]))
      (refine takeF (i := 3) rfl ?_ (fun _ _ _ h => h) rfl hHeld ?_; (focus kernel_rfl); (try simp only [Act.put, List.setIfInBounds_toArray, List.set_cons_zero, List.set_cons_succ]))
      (refine takeF (i := 4) rfl ?_ (fun _ _ _ h => h) rfl hHeld ?_; (focus kernel_rfl); (try simp only [Act.put, List.setIfInBounds_toArray, List.set_cons_zero, List.set_cons_succ]))
      (refine takeF (i := 5) rfl ?_ (fun _ _ _ h => h) rfl hHeld ?_; (focus kernel_rfl); (try simp only [Act.put, List.setIfInBounds_toArray, List.set_cons_zero, List.set_cons_succ]))
      (refine takeF (i := 6) rfl ?_ (fun _ _ _ h => h) rfl hHeld ?_; (focus kernel_rfl); (try simp only [Act.put, List.setIfInBounds_toArray, List.set_cons_zero, List.set_cons_succ]))
      (refine takeF (i := 7) rfl ?_ (fun _ _ _ h => h) rfl hHeld ?_; (focus kernel_rfl); (try simp only [Act.put, List.setIfInBounds_toArray, List.set_cons_zero, List.set_cons_succ]))
      (refine takeF (i := 8) rfl ?_ (fun _ _ _ h => h) rfl hHeld ?_; (focus kernel_rfl); (try simp only [Act.put, List.setIfInBounds_toArray, List.set_cons_zero, List.set_cons_succ]))
      (refine takeF (i := 9) rfl ?_ (fun _ _ _ h => h) rfl hHeld ?_; (focus kernel_rfl); (try simp only [Act.put, List.setIfInBounds_toArray, List.set_cons_zero, List.set_cons_succ]))
      (refine takeF (i := 10) rfl ?_ (fun _ _ _ h => h) rfl hHeld ?_; (focus kernel_rfl); (try simp only [Act.put, List.setIfInBounds_toArray, List.set_cons_zero, List.set_cons_succ]))
      (refine takeF (i := 11) rfl ?_ (fun _ _ _ h => h) rfl hHeld ?_; (focus kernel_rfl); (try simp only [Act.put, List.setIfInBounds_toArray, List.set_cons_zero, List.set_cons_succ]))
      (refine takeF (i := 12) rfl ?_ (fun _ _ _ h => h) rfl hHeld ?_; (focus kernel_rfl); (try simp only [Act.put, List.setIfInBounds_toArray, List.set_cons_zero, List.set_cons_succ]))
      (refine takeF (i := 13) rfl ?_ (fun _ _ _ h => h) rfl hHeld ?_; (focus kernel_rfl); (try simp only [Act.put, List.setIfInBounds_toArray, List.set_cons_zero, List.set_cons_succ]))
      (refine takeF (i := 14) rfl ?_ (fun _ _ _ h => h) rfl hHeld ?_; (focus kernel_rfl); (try simp only [Act.put, List.setIfInBounds_toArray, List.set_cons_zero, List.set_cons_succ]))
      (refine takeT (i := 15) (v := ?_) rfl ?_ (fun _ _ _ h => h) rfl hHeld ?_ ?_; rotate_left; (focus kernel_rfl); (focus (intro w hSw; (try dsimp only at hSw); go_simp; (try with_reducible rfl))); (try simp only [Act.put, List.setIfInBounds_toArray, List.set_cons_zero, List.set_cons_succ]))
      (refine takeT (i := 16) (v := ?_) rfl ?_ (fun _ _ _ h => h) rfl hHeld ?_ ?_; rotate_left; (focus kernel_rfl); (focus (intro w hSw; (try dsimp only at hSw); go_simp; (try with_reducible rfl))); (try simp only [Act.put, List.setIfInBounds_toArray, List.set_cons_zero, List.set_cons_succ]))
      (refine wpAnyH_done (by kernel_rfl) ?_ _)
      obtain ⟨kc0, k⟩ := hHeld
      go_wp2_with fail
      go_meet
      exact ⟨rfl, k.below⟩
    | succ m =>
      have hm : m < L.length := hil
      have hd := Lib.hid (show dnB L (m + 1) a = ((L[m]).2 == a) by show ((L.getD m (0, 0)).2 == a) = _; rw [List.getD_eq_getElem?_getD, List.getElem?_eq_getElem hm]; rfl)
      obtain ⟨c0, c1⟩ := hA1.at hm
      generalize L[m] = s at c0 c1 hd
      have hi0 : (0 : Int) < (m : Int) + 1 := by omega
      have hi1 : (0 : Int) ≤ (m : Int) ∧ (m : Int) < L.length := by omega
      have hwi : IntKind.i64.wrap (m : Int) = m := IntWalk.i64_in _ (by omega)
      have k : Hd w3 [(G, 0, .slice (some ⟨g, 0, none⟩) L.length c), (g, m * 2 + 1, .int .u64 s.2), (w.heap.size, 0, .int .u64 a)] w3 := ⟨Below.refl _ _, by
        intro c hc
        simp only [List.mem_cons, List.not_mem_nil, or_false] at hc
        rcases hc with rfl | rfl | rfl
        · exact q0
        · exact c1
        · exact v0⟩
      refine wp_region_held_drew (S := fun w' => w'.cell? ⟨G, 0, none⟩ = some (.slice (some ⟨g, 0, none⟩) L.length c) ∧ w'.cell? ⟨g, m * 2 + 1, none⟩ = some (.int .u64 s.2) ∧ w'.cell? ⟨w.heap.size, 0, none⟩ = some (.int .u64 a) ∧ Hd w3 [(G, 0, .slice (some ⟨g, 0, none⟩) L.length c), (g, m * 2 + 1, .int .u64 s.2), (w.heap.size, 0, .int .u64 a)] w') (by kernel_rfl) ?_ (fun hHeld => ?_)
      focus (have k := Hd.drew (w := w3) (cs := [(G, 0, .slice (some ⟨g, 0, none⟩) L.length c), (g, m * 2 + 1, .int .u64 s.2), (w.heap.size, 0, .int .u64 a)]) (by assumption); exact ⟨k.at (G) (0) (.slice (some ⟨g, 0, none⟩) L.length c) (by simp), k.at (g) (m * 2 + 1) (.int .u64 s.2) (by simp), k.at (w.heap.size) (0) (.int .u64 a) (by simp), k⟩)
      (refine takeT (i := 0) (v := ?_) rfl ?_ (fun _ _ _ h => h) rfl hHeld ?_ ?_; rotate_left; (focus kernel_rfl); (focus (intro w hSw; (try dsimp only at hSw); go_simp; (try with_reducible rfl))); (try simp only [Act.put, List.setIfInBounds_toArray, List.set_cons_zero, List.set_cons_succ]))
      (refine takeT (i := 1) (v := ?_) rfl ?_ (fun _ _ _ h => h) rfl hHeld ?_ ?_; rotate_left; (focus kernel_rfl); (focus (intro w hSw; (try dsimp only at hSw); go_simp; (try with_reducible rfl))); (try simp only [Act.put, List.setIfInBounds_toArray, List.set_cons_zero, List.set_cons_succ]))
      (refine takeT (i := 2) (v := ?_) rfl ?_ (fun _ _ _ h => h) rfl hHeld ?_ ?_; rotate_left; (focus kernel_rfl); (focus (intro w hSw; (try dsimp only at hSw); go_simp; (try with_reducible rfl))); (try simp only [Act.put, List.setIfInBounds_toArray, List.set_cons_zero, List.set_cons_succ]))
      (refine takeT (i := 3) (v := ?_) rfl ?_ (fun _ _ _ h => h) rfl hHeld ?_ ?_; rotate_left; (focus kernel_rfl); (focus (intro w hSw; (try dsimp only at hSw); go_simp; (try with_reducible rfl))); (try simp only [Act.put, List.setIfInBounds_toArray, List.set_cons_zero, List.set_cons_succ]))
      (refine takeT (i := 4) (v := ?_) rfl ?_ (fun _ _ _ h => h) rfl hHeld ?_ ?_; rotate_left; (focus kernel_rfl); (focus (intro w hSw; (try dsimp only at hSw); go_simp; (try with_reducible rfl))); (try simp only [Act.put, List.setIfInBounds_toArray, List.set_cons_zero, List.set_cons_succ]))
      (refine takeT (i := 5) (v := ?_) rfl ?_ (fun _ _ _ h => h) rfl hHeld ?_ ?_; rotate_left; (focus kernel_rfl); (focus (intro w hSw; (try dsimp only at hSw); go_simp; (try with_reducible rfl))); (try simp only [Act.put, List.setIfInBounds_toArray, List.set_cons_zero, List.set_cons_succ]))
      (refine takeT (i := 6) (v := ?_) rfl ?_ (fun _ _ _ h => h) rfl hHeld ?_ ?_; rotate_left; (focus kernel_rfl); (focus (intro w hSw; (try dsimp only at hSw); go_simp; (try with_reducible rfl))); (try simp only [Act.put, List.setIfInBounds_toArray, List.set_cons_zero, List.set_cons_succ]))
      (refine takeT (i := 7) (v := ?_) rfl ?_ (fun _ _ _ h => h) rfl hHeld ?_ ?_; rotate_left; (focus kernel_rfl); (focus (intro w hSw; (try dsimp only at hSw); go_simp; (try with_reducible rfl))); (try simp only [Act.put, List.setIfInBounds_toArray, List.set_cons_zero, List.set_cons_succ]))
      (refine takeT (i := 8) (v := ?_) rfl ?_ (fun _ _ _ h => h) rfl hHeld ?_ ?_; rotate_left; (focus kernel_rfl); (focus (intro w hSw; (try dsimp only at hSw); go_simp; (try with_reducible rfl))); (try simp only [Act.put, List.setIfInBounds_toArray, List.set_cons_zero, List.set_cons_succ]))
      (refine takeT (i := 9) (v := ?_) rfl ?_ (fun _ _ _ h => h) rfl hHeld ?_ ?_; rotate_left; (focus kernel_rfl); (focus (intro w hSw; (try dsimp only at hSw); go_simp; (try with_reducible rfl))); (try simp only [Act.put, List.setIfInBounds_toArray, List.set_cons_zero, List.set_cons_succ]))
      (refine takeT (i := 10) (v := ?_) rfl ?_ (fun _ _ _ h => h) rfl hHeld ?_ ?_; rotate_left; (focus kernel_rfl); (focus (intro w hSw; (try dsimp only at hSw); go_simp; (try with_reducible rfl))); (try simp only [Act.put, List.setIfInBounds_toArray, List.set_cons_zero, List.set_cons_succ]))
      (refine takeT (i := 11) (v := ?_) rfl ?_ (fun _ _ _ h => h) rfl hHeld ?_ ?_; rotate_left; (focus kernel_rfl); (focus (intro w hSw; (try dsimp only at hSw); go_simp; (try with_reducible rfl))); (try simp only [Act.put, List.setIfInBounds_toArray, List.set_cons_zero, List.set_cons_succ]))
      (refine takeT (i := 12) (v := ?_) rfl ?_ (fun _ _ _ h => h) rfl hHeld ?_ ?_; rotate_left; (focus kernel_rfl); (focus (intro w hSw; (try dsimp only at hSw); go_simp; (try with_reducible rfl))); (try simp only [Act.put, List.setIfInBounds_toArray, List.set_cons_zero, List.set_cons_succ]))
      (refine takeT (i := 13) (v := ?_) rfl ?_ (fun _ _ _ h => h) rfl hHeld ?_ ?_; rotate_left; (focus kernel_rfl); (focus (intro w hSw; (try dsimp only at hSw); go_simp; (try with_reducible rfl))); (try simp only [Act.put, List.setIfInBounds_toArray, List.set_cons_zero, List.set_cons_succ]))
      (refine doOne (i := 14) rfl ?_ (fun K hK => ?_); (focus kernel_rfl))
      ((first | fail | go_simp); (first | ((first | (go_at_call 52; refine (oequal_any _ _ _).mono ?_; rintro e wh ⟨rfl, nh⟩)); go_wp2_with fail) | skip); refine hK.out _ _ ?_ (fun hHeldN => ?_); (focus (have hq := hHeld; (try dsimp only at hq); have k := Hd.nx (w := w3) (cs := [(G, 0, .slice (some ⟨g, 0, none⟩) L.length c), (g, m * 2 + 1, .int .u64 s.2), (w.heap.size, 0, .int .u64 a)]) (by go_split_ands; assumption) (by assumption); exact ⟨k.at (G) (0) (.slice (some ⟨g, 0, none⟩) L.length c) (by simp), k.at (g) (m * 2 + 1) (.int .u64 s.2) (by simp), k.at (w.heap.size) (0) (.int .u64 a) (by simp), k⟩)); clear hHeld hK K; have hHeld := hHeldN; clear hHeldN; (try simp only [Act.put, List.setIfInBounds_toArray, List.set_cons_zero, List.set_cons_succ]))
      (refine takeT (i := 15) (v := ?_) rfl ?_ (fun _ _ _ h => h) rfl hHeld ?_ ?_; rotate_left; (focus kernel_rfl); (focus (intro w hSw; (try dsimp only at hSw); go_simp; (try with_reducible rfl))); (try simp only [Act.put, List.setIfInBounds_toArray, List.set_cons_zero, List.set_cons_succ]))
      (refine takeT (i := 16) (v := ?_) rfl ?_ (fun _ _ _ h => h) rfl hHeld ?_ ?_; rotate_left; (focus kernel_rfl); (focus (intro w hSw; (try dsimp only at hSw); go_simp; (try with_reducible rfl))); (try simp only [Act.put, List.setIfInBounds_toArray, List.set_cons_zero, List.set_cons_succ]))
      (refine wpAnyH_done (by kernel_rfl) ?_ _)
      obtain ⟨kc0, kc1, kc2, k⟩ := hHeld
      go_wp2_with fail
      go_meet
      exact ⟨by rw [hd.out], k.below⟩
  case rest =>
    obtain ⟨rfl, n4⟩ := hcut
    rw [HDN.out]
    replace bV := bV.nx n4
    replace hA1 := hA1.nx n4
    replace hB1 : Nx w wc := bl_step n4 hB1 hB1.size
    generalize wc = w4 at *
    clear n4 q0 q1 q2 q3 v0 v1
    obtain ⟨q0, q1, q2, q3⟩ := hA1.cells
    have v0 := bV.cell 0
    have v1 := bV.cell 1
    go_upto_region 5 with fail
    go_cut [6] (fun v wc => v = .bool (upB L i b) ∧ Nx w4 wc)
    case first =>
      by_cases hi : i < L.length
      · have hd := Lib.hid (show upB L i b = (b == (L[i]).1) by unfold upB; rw [if_pos hi, List.getD_eq_getElem?_getD, List.getElem?_eq_getElem hi]; rfl)
        obtain ⟨c0, c1⟩ := hA1.at hi
        generalize L[i] = s at c0 c1 hd
        have hi0 : (i : Int) < (L.length : Int) := by omega
        have k : Hd w4 [(G, 0, .slice (some ⟨g, 0, none⟩) L.length c), (g, i * 2, .int .u64 s.1), (w.heap.size, 1, .int .u64 b)] w4 := ⟨Below.refl _ _, by
          intro c hc
          simp only [List.mem_cons, List.not_mem_nil, or_false] at hc
          rcases hc with rfl | rfl | rfl
          · exact q0
          · exact c0
          · exact v1⟩
        refine wp_region_held_drew (S := fun w' => w'.cell? ⟨G, 0, none⟩ = some (.slice (some ⟨g, 0, none⟩) L.length c) ∧ w'.cell? ⟨g, i * 2, none⟩ = some (.int .u64 s.1) ∧ w'.cell? ⟨w.heap.size, 1, none⟩ = some (.int .u64 b) ∧ Hd w4 [(G, 0, .slice (some ⟨g, 0, none⟩) L.length c), (g, i * 2, .int .u64 s.1), (w.heap.size, 1, .int .u64 b)] w') (by kernel_rfl) ?_ (fun hHeld => ?_)
        focus (have k := Hd.drew (w := w4) (cs := [(G, 0, .slice (some ⟨g, 0, none⟩) L.length c), (g, i * 2, .int .u64 s.1), (w.heap.size, 1, .int .u64 b)]) (by assumption); exact ⟨k.at (G) (0) (.slice (some ⟨g, 0, none⟩) L.length c) (by simp), k.at (g) (i * 2) (.int .u64 s.1) (by simp), k.at (w.heap.size) (1) (.int .u64 b) (by simp), k⟩)
        (refine takeT (i := 0) (v := ?_) rfl ?_ (fun _ _ _ h => h) rfl hHeld ?_ ?_; rotate_left; (focus kernel_rfl); (focus (intro w hSw; (try dsimp only at hSw); go_simp; (try with_reducible rfl))); (try simp only [Act.put, List.setIfInBounds_toArray, List.set_cons_zero, List.set_cons_succ]))
        (refine takeT (i := 1) (v := ?_) rfl ?_ (fun _ _ _ h => h) rfl hHeld ?_ ?_; rotate_left; (focus kernel_rfl); (focus (intro w hSw; (try dsimp only at hSw); go_simp; (try with_reducible rfl))); (try simp only [Act.put, List.setIfInBounds_toArray, List.set_cons_zero, List.set_cons_succ]))
        (refine takeT (i := 2) (v := ?_) rfl ?_ (fun _ _ _ h => h) rfl hHeld ?_ ?_; rotate_left; (focus kernel_rfl); (focus (intro w hSw; (try dsimp only at hSw); go_simp; (try with_reducible rfl))); (try simp only [Act.put, List.setIfInBounds_toArray, List.set_cons_zero, List.set_cons_succ]))
        (refine takeT (i := 3) (v := ?_) rfl ?_ (fun _ _ _ h => h) rfl hHeld ?_ ?_; rotate_left; (focus kernel_rfl); (focus (intro w hSw; (try dsimp only at hSw); go_simp; (try with_reducible rfl))); (try simp only [Act.put, List.setIfInBounds_toArray, List.set_cons_zero, List.set_cons_succ]))
        (refine takeT (i := 4) (v := ?_) rfl ?_ (fun _ _ _ h => h) rfl hHeld ?_ ?_; rotate_left; (focus kernel_rfl); (focus (intro w hSw; (try dsimp only at hSw); go_simp; (try with_reducible rfl))); (try simp only [Act.put, List.setIfInBounds_toArray, List.set_cons_zero, List.set_cons_succ]))
        (refine takeT (i := 5) (v := ?_) rfl ?_ (fun _ _ _ h => h) rfl hHeld ?_ ?_; rotate_left; (focus kernel_rfl); (focus (intro w hSw; (try dsimp only at hSw); go_simp; (try with_reducible rfl))); (try simp only [Act.put, List.setIfInBounds_toArray, List.set_cons_zero, List.set_cons_succ]))
        (refine takeT (i := 6) (v := ?_) rfl ?_ (fun _ _ _ h => h) rfl hHeld ?_ ?_; rotate_left; (focus kernel_rfl); (focus (intro w hSw; (try dsimp only at hSw); go_simp; (try with_reducible rfl))); (try simp only [Act.put, List.setIfInBounds_toArray, List.set_cons_zero, List.set_cons_succ]))
        (refine takeT (i := 7) (v := ?_) rfl ?_ (fun _ _ _ h => h) rfl hHeld ?_ ?_; rotate_left; (focus kernel_rfl); (focus (intro w hSw; (try dsimp only at hSw); go_simp; (try with_reducible rfl))); (try simp only [Act.put, List.setIfInBounds_toArray, List.set_cons_zero, List.set_cons_succ]))
        (refine takeT (i := 8) (v := ?_) rfl ?_ (fun _ _ _ h => h) rfl hHeld ?_ ?_; rotate_left; (focus kernel_rfl); (focus (intro w hSw; (try dsimp only at hSw); go_simp; (try with_reducible rfl))); (try simp only [Act.put, List.setIfInBounds_toArray, List.set_cons_zero, List.set_cons_succ]))
        (refine takeT (i := 9) (v := ?_) rfl ?_ (fun _ _ _ h => h) rfl hHeld ?_ ?_; rotate_left; (focus kernel_rfl); (focus (intro w hSw; (try dsimp only at hSw); go_simp; (try with_reducible rfl))); (try simp only [Act.put, List.setIfInBounds_toArray, List.set_cons_zero, List.set_cons_succ]))
        (refine takeT (i := 10) (v := ?_) rfl ?_ (fun _ _ _ h => h) rfl hHeld ?_ ?_; rotate_left; (focus kernel_rfl); (focus (intro w hSw; (try dsimp only at hSw); go_simp; (try with_reducible rfl))); (try simp only [Act.put, List.setIfInBounds_toArray, List.set_cons_zero, List.set_cons_succ]))
        (refine takeT (i := 11) (v := ?_) rfl ?_ (fun _ _ _ h => h) rfl hHeld ?_ ?_; rotate_left; (focus kernel_rfl); (focus (intro w hSw; (try dsimp only at hSw); go_simp; (try with_reducible rfl))); (try simp only [Act.put, List.setIfInBounds_toArray, List.set_cons_zero, List.set_cons_succ]))
        (refine takeT (i := 12) (v := ?_) rfl ?_ (fun _ _ _ h => h) rfl hHeld ?_ ?_; rotate_left; (focus kernel_rfl); (focus (intro w hSw; (try dsimp only at hSw); go_simp; (try with_reducible rfl))); (try simp only [Act.put, List.setIfInBounds_toArray, List.set_cons_zero, List.set_cons_succ]))
        (refine takeT (i := 13) (v := ?_) rfl ?_ (fun _ _ _ h => h) rfl hHeld ?_ ?_; rotate_left; (focus kernel_rfl); (focus (intro w hSw; (try dsimp only at hSw); go_simp; (try with_reducible rfl))); (try simp only [Act.put, List.setIfInBounds_toArray, List.set_cons_zero, List.set_cons_succ]))
        (refine takeT (i := 14) (v := ?_) rfl ?_ (fun _ _ _ h => h) rfl hHeld ?_ ?_; rotate_left; (focus kernel_rfl); (focus (intro w hSw; (try dsimp only at hSw); go_simp; (try with_reducible rfl))); (try simp only [Act.put, List.setIfInBounds_toArray, List.set_cons_zero, List.set_cons_succ]))
        (refine takeT (i := 15) (v := ?_) rfl ?_ (fun _ _ _ h => h) rfl hHeld ?_ ?_; rotate_left; (focus kernel_rfl); (focus (intro w hSw; (try dsimp only at hSw); go_simp; (try with_reducible rfl))); (try simp only [Act.put, List.setIfInBounds_toArray, List.set_cons_zero, List.set_cons_succ]))
        (refine takeT (i := 16) (v := ?_) rfl ?_ (fun _ _ _ h => h) rfl hHeld ?_ ?_; rotate_left; (focus kernel_rfl); (focus (intro w hSw; (try dsimp only at hSw); go_simp; (try with_reducible rfl))); (try simp only [Act.put, List.setIfInBounds_toArray, List.set_cons_zero, List.set_cons_succ]))
        (refine takeT (i := 17) (v := ?_) rfl ?_ (fun _ _ _ h => h) rfl hHeld ?_ ?_; rotate_left; (focus kernel_rfl); (focus (intro w hSw; (try dsimp only at hSw); go_simp; (try with_reducible rfl))); (try simp only [Act.put, List.setIfInBounds_toArray, List.set_cons_zero, List.set_cons_succ]))
        (refine doOne (i := 18) rfl ?_ (fun K hK => ?_); (focus kernel_rfl))
        ((first | fail | go_simp); (first | ((first | (go_at_call 52; refine (oequal_any _ _ _).mono ?_; rintro e wh ⟨rfl, nh⟩)); go_wp2_with fail) | skip); refine hK.out _ _ ?_ (fun hHeldN => ?_); (focus (have hq := hHeld; (try dsimp only at hq); have k := Hd.nx (w := w4) (cs := [(G, 0, .slice (some ⟨g, 0, none⟩) L.length c), (g, i * 2, .int .u64 s.1), (w.heap.size, 1, .int .u64 b)]) (by go_split_ands; assumption) (by assumption); exact ⟨k.at (G) (0) (.slice (some ⟨g, 0, none⟩) L.length c) (by simp), k.at (g) (i * 2) (.int .u64 s.1) (by simp), k.at (w.heap.size) (1) (.int .u64 b) (by simp), k⟩)); clear hHeld hK K; have hHeld := hHeldN; clear hHeldN; (try simp only [Act.put, List.setIfInBounds_toArray, List.set_cons_zero, List.set_cons_succ]))
        (refine takeT (i := 19) (v := ?_) rfl ?_ (fun _ _ _ h => h) rfl hHeld ?_ ?_; rotate_left; (focus kernel_rfl); (focus (intro w hSw; (try dsimp only at hSw); go_simp; (try with_reducible rfl))); (try simp only [Act.put, List.setIfInBounds_toArray, List.set_cons_zero, List.set_cons_succ]))
        (refine takeT (i := 20) (v := ?_) rfl ?_ (fun _ _ _ h => h) rfl hHeld ?_ ?_; rotate_left; (focus kernel_rfl); (focus (intro w hSw; (try dsimp only at hSw); go_simp; (try with_reducible rfl))); (try simp only [Act.put, List.setIfInBounds_toArray, List.set_cons_zero, List.set_cons_succ]))
        (refine wpAnyH_done (by kernel_rfl) ?_ _)
        obtain ⟨kc0, kc1, kc2, k⟩ := hHeld
        go_wp2_with fail
        go_meet
        exact ⟨by rw [hd.out], k.below⟩
      · exact absurd HUP.out (by simp [upB, hi])
    case rest =>
      obtain ⟨rfl, n5⟩ := hcut
      rw [HUP.out]
      replace bV := bV.nx n5
      replace hA1 := hA1.nx n5
      replace hB1 : Nx w wc := bl_step n5 hB1 hB1.size
      generalize wc = w5 at *
      clear n5 q0 q1 q2 q3 v0 v1
      have hgG : g ≠ G := fun e => hne e.symm
      have hgV : g ≠ w.heap.size := by omega
      have htb := totL_bd L hL
      have hwt : IntKind.u64.wrap (totL L + (b - a)) = totL L + (b - a) := IntWalk.u64_in _ (by omega)
      clear htb
      have hGV : G ≠ w.heap.size := by omega
      replace hB1 : Below base w w5 := hB1.mono (by omega)
      have FN := Lib.hid (dn_no HDN.out)
      have FU := Lib.hid (up_yes HUP.out)
      clear HDN HUP
      obtain ⟨hi, he⟩ := FU.out
      have hM := add_up hT HS.out hA hab FN.out hi he
      obtain ⟨q0, q1, q2, q3⟩ := hA1.cells
      have u1 := (hA1.at hi).1
      have hf := hA1.own.frozenAt (i * 2)
      have v0 := bV.cell 0
      simp only [List.getElem?_toArray, List.getElem?_cons_zero, List.getElem?_cons_succ] at v0
      have hq0 := hA1.drew.cells.1
      have z1 := bV.drew.cell 0
      simp only [List.getElem?_toArray, List.getElem?_cons_zero, List.getElem?_cons_succ] at z1
      have hmi : (i : Int) < L.length := by omega
      have HM := Lib.hid hM
      clear hM he
      go_upto_region 13 with fail
      refine wp_region_held_drew (S := fun w' => w'.cell? ⟨G, 0, none⟩ = some (.slice (some ⟨g, 0, none⟩) L.length c) ∧ w'.cell? ⟨w.heap.size, 0, none⟩ = some (.int .u64 a)) (by kernel_rfl) ?_ (fun hHeld => ?_)
      focus (exact ⟨hq0, z1⟩)
      (refine takeT (i := 0) (v := ?_) rfl ?_ (fun _ _ _ h => h) rfl hHeld ?_ ?_; rotate_left; (focus kernel_rfl); (focus (intro w hSw; (try dsimp only at hSw); go_simp; (try with_reducible rfl))); (try simp only [Act.put, List.setIfInBounds_toArray, List.set_cons_zero, List.set_cons_succ]))
      (refine takeT (i := 1) (v := ?_) rfl ?_ (fun _ _ _ h => h) rfl hHeld ?_ ?_; rotate_left; (focus kernel_rfl); (focus (intro w hSw; (try dsimp only at hSw); go_simp; (try with_reducible rfl))); (try simp only [Act.put, List.setIfInBounds_toArray, List.set_cons_zero, List.set_cons_succ]))
      (refine takeT (i := 2) (v := ?_) rfl ?_ (fun _ _ _ h => h) rfl hHeld ?_ ?_; rotate_left; (focus kernel_rfl); (focus (intro w hSw; (try dsimp only at hSw); go_simp; (try with_reducible rfl))); (try simp only [Act.put, List.setIfInBounds_toArray, List.set_cons_zero, List.set_cons_succ]))
      (refine takeT (i := 3) (v := ?_) rfl ?_ (fun _ _ _ h => h) rfl hHeld ?_ ?_; rotate_left; (focus kernel_rfl); (focus (intro w hSw; (try dsimp only at hSw); go_simp; (try with_reducible rfl))); (try simp only [Act.put, List.setIfInBounds_toArray, List.set_cons_zero, List.set_cons_succ]))
      (refine takeT (i := 4) (v := ?_) rfl ?_ (fun _ _ _ h => h) rfl hHeld ?_ ?_; rotate_left; (focus kernel_rfl); (focus (intro w hSw; (try dsimp only at hSw); go_simp; (try with_reducible rfl))); (try simp only [Act.put, List.setIfInBounds_toArray, List.set_cons_zero, List.set_cons_succ]))
      (refine takeT (i := 5) (v := ?_) rfl ?_ (fun _ _ _ h => h) rfl hHeld ?_ ?_; rotate_left; (focus kernel_rfl); (focus (intro w hSw; (try dsimp only at hSw); go_simp; (try with_reducible rfl))); (try simp only [Act.put, List.setIfInBounds_toArray, List.set_cons_zero, List.set_cons_succ]))
      (refine takeT (i := 6) (v := ?_) rfl ?_ (fun _ _ _ h => h) rfl hHeld ?_ ?_; rotate_left; (focus kernel_rfl); (focus (intro w hSw; (try dsimp only at hSw); go_simp; (try with_reducible rfl))); (try simp only [Act.put, List.setIfInBounds_toArray, List.set_cons_zero, List.set_cons_succ]))
      (refine takeT (i := 7) (v := ?_) rfl ?_ (fun _ _ _ h => h) rfl hHeld ?_ ?_; rotate_left; (focus kernel_rfl); (focus (intro w hSw; (try dsimp only at hSw); go_simp; (try with_reducible rfl))); (try simp only [Act.put, List.setIfInBounds_toArray, List.set_cons_zero, List.set_cons_succ]))
      (refine takeT (i := 8) (v := ?_) rfl ?_ (fun _ _ _ h => h) rfl hHeld ?_ ?_; rotate_left; (focus kernel_rfl); (focus (intro w hSw; (try dsimp only at hSw); go_simp; (try with_reducible rfl))); (try simp only [Act.put, List.setIfInBounds_toArray, List.set_cons_zero, List.set_cons_succ]))
      (refine doOne (i := 9) rfl ?_ (fun K hK => ?_); (focus kernel_rfl))
      ((first | fail | go_simp); (first | ((first | fail); go_wp2_with fail) | skip); refine hK.out _ _ ?_ (fun hHeldN => ?_); (focus (exact ⟨(World.cell?_setCell_far _ _ _ _ hgG).trans hHeld.1, (World.cell?_setCell_far _ _ _ _ hgV).trans hHeld.2⟩)); clear hHeld hK K; have hHeld := hHeldN; clear hHeldN; (try simp only [Act.put, List.setIfInBounds_toArray, List.set_cons_zero, List.set_cons_succ]))
      (refine wpAnyH_done (by kernel_rfl) ?_ _)
      have hM := HM.out
      replace hA1 := (hA1.setBase hi a).drew
      replace hB1 := (hB1.setCell (p := ⟨g, i * 2, none⟩) hgg (.int .u64 a)).drew
      replace bV := (bV.far ⟨g, i * 2, none⟩ (.int .u64 a) hgV).drew
      clear q0 q1 q2 q3 hf v0 u1 hq0 z1 hHeld
      generalize (w5.setCell ⟨g, i * 2, none⟩ (.int .u64 a)).drew = X at hA1 hB1 bV ⊢
      go_upto_region 22 with fail
      obtain ⟨q0, q1, q2, q3⟩ := hA1.cells
      have v0 := bV.cell 0
      have v1 := bV.cell 1
      simp only [List.getElem?_toArray, List.getElem?_cons_zero, List.getElem?_cons_succ] at v0 v1
      go_region_law (first | (go_simp; go_at_call 38; refine (rsize_any a b _ (by omega) (by omega) (by omega) (by omega)).mono ?_; rintro e wz ⟨rfl, nz⟩; rw [hz.out]; obtain ⟨y0, y1, y2, y3⟩ := (hA1.drew.nx nz).cells))
      all_goals
        have hA9 := (hA1.drew.nx nz).setTot (totL L + (b - a))
        have hB9 : Below base w (wz.setCell ⟨G, 1, none⟩ (.int .u64 (totL L + (b - a)))) := (bl_step nz hB1.drew (by have := hB1.drew.size; omega)).setCell (p := ⟨G, 1, none⟩) hge _
        go_wp2
        all_goals exact bodyPost_ret (v := .tuple #[]) (by simp [results, Try.results42, go_sem]) rfl ⟨rfl, _, _, _, hM, by rw [hM.tot]; exact hA9, hB9⟩
end Go.Proofs.Ytnmljgjcdofboaa
