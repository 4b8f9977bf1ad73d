/- The package's list cut at an address. -/
import Derived.Test.YtnmljgjcdofboaaRl
import Derived.Test.YtnmljgjcdofboaaMa
import Derived.Deep.LoopGhost
namespace Go.Proofs.Ytnmljgjcdofboaa
open Go.RowKit
set_option linter.unusedVariables false
set_option linter.unusedSimpArgs false

/-- The package's list is cut. -/
def CutAr (base G g c : Nat) (L : List R) (x : Int) (w : World) (e : Ending) (w' : World) : Prop := e = .returned (.tuple #[]) ∧ ArAt base w' G g c (belowL L x) (totL (belowL L x)) ∧ Below base w w'
theorem drop_at {base : Nat} {w : World} {G g c : Nat} {L : List R} {tot : Int} (h : ArAt base w G g c L tot) (k j : Nat) (hj : j < (L.drop k).length) :
    w.cell? ⟨g, k * 2 + j * 2, none⟩ = some (.int .u64 ((L.drop k)[j]).1) ∧ w.cell? ⟨g, k * 2 + j * 2 + 1, none⟩ = some (.int .u64 ((L.drop k)[j]).2) := by
  have hj' : k + j < L.length := by rw [List.length_drop] at hj; omega
  have := h.at hj'
  rw [List.getElem_drop, show k * 2 + j * 2 = (k + j) * 2 by omega]
  exact this
set_option maxRecDepth 100000 in
set_option maxHeartbeats 2000000 in
theorem lremoveGreaterEqual_any (base G g c : Nat) (L : List R) (x : Int) (w : World) (h : ArAt base w G g c L (totL L)) (hn : L.length ≤ 65536) (hL : InB L) (hT : Td L) (hx : 0 ≤ x) (hx' : x < 4398046511104) :
    Calls Try.prog 45 #[.pointer (some ⟨G, 0, none⟩), .int .u64 x] w (CutAr base G g c L x w) := by
  have hge := h.ge
  have hgg := h.gge
  have hlt := h.lt
  have hne := h.ne
  go_enter Try.func45, Try.ntmps45
  go_wp2_with fail
  refine (lfindSucc_any base G g c L _ x _ h hn hL hT hx hx').mono ?_
  rintro e w1 ⟨i, rfl, hs, n1⟩
  have hA := h.nx n1
  have hB : Below base w w1 := n1.mono (by omega)
  clear h n1
  cases i with
  | zero =>
    have hz := Lib.hid (cut_zero hT hs)
    clear hs
    obtain ⟨q0, q1, q2, q3⟩ := hA.cells
    go_upto_region 3 with fail
    have hA2 := hA.setTot 0
    have hB2 := hB.setCell (p := ⟨G, 1, none⟩) hge (.int .u64 0)
    clear q0 q1 q2 q3 hA hB
    generalize w1.setCell ⟨G, 1, none⟩ (.int .u64 0) = U at hA2 hB2 ⊢
    obtain ⟨q0, q1, q2, q3⟩ := hA2.cells
    have hA3 := hA2.cut (k := 0) (Nat.zero_le _)
    have hB3 := hB2.setCell (p := ⟨G, 0, none⟩) hge (.slice (some ⟨g, 0, none⟩) 0 c)
    go_wp2
    exact bodyPost_ret (v := .tuple #[]) (by simp [results, Try.results45, go_sem]) rfl ⟨rfl, by rw [hz.out]; exact hA3, hB3⟩
  | succ k =>
    have hk : k < L.length := hs.le
    obtain ⟨cur, _, _, hcap, _, _, _⟩ := hA.row
    have hbd := hL.at hk
    have hne2 := hT.ne k hk
    have hlo := hs.lo k hk (by omega)
    have hi0 : (((k + 1 : Nat) : Int) == 0) = false := by rw [beq_eq_false_iff_ne]; omega
    have hsplit := tot_split hk
    have htb1 := totL_bd _ (hL.take k)
    have htk : (L.take k).length ≤ 65536 := by rw [List.length_take]; omega
    have H1 := Lib.hid (fun h1 h2 => cut_hit hT hs hk h1 h2)
    have H2 := Lib.hid (fun h1 => cut_base hT hs hk h1)
    have H3 := Lib.hid (fun h2 => cut_gap hT hs hk h2)
    have hDl : (L.drop (k + 1)).length = L.length - (k + 1) := List.length_drop ..
    have hDb : InB (L.drop (k + 1)) := fun r hr => hL r (List.mem_of_mem_drop hr)
    have hD := Lib.hid (fun (W : World) (n : Nx w1 W) j hj => drop_at (hA.nx n) (k + 1) j hj)
    have hK := Lib.hid (fun (W : World) (n : Nx w1 W) => (hA.nx n).at hk)
    obtain ⟨q0, q1, q2, q3⟩ := hA.cells
    clear hs hT
    generalize hr : L[k] = r at *
    generalize hD' : L.drop (k + 1) = D at *
    have HR := Lib.hid hr
    clear hr hD'
    have HS := Lib.hid hsplit
    have hD1 : D.length ≤ L.length - (k + 1) ∧ L.length - (k + 1) ≤ D.length := by omega
    have HDl := Lib.hid hDl
    clear hsplit hDl
    have hki : (k : Int) + 1 ≤ c := by omega
    have hwi : IntKind.i64.wrap (k : Int) = k := IntWalk.i64_in _ (by omega)
    go_upto_region 5 with fail
    go_cut [30, 31, 32] (fun s n j wc => ∃ A m cc, s = .slice A m cc ∧ n = .int .i64 m ∧ j = .int .i64 0 ∧ w1 = wc ∧ m = D.length ∧ (0 < D.length → A = some ⟨g, (k + 1) * 2, none⟩))
    case first =>
      by_cases hc : k + 1 = c
      · subst hc
        go_wp2_with fail
        go_meet
        exact ⟨_, _, _, rfl, rfl, rfl, rfl, by omega, fun h => by omega⟩
      · go_wp2_with fail
        go_meet
        exact ⟨_, _, _, rfl, rfl, rfl, rfl, by omega, fun h => rfl⟩
    case rest =>
      obtain ⟨A, m, cc, rfl, rfl, rfl, rfl, rfl, hAd⟩ := hcut
      go_wp2_with fail
      go_loopg [5, 32] D.length (fun gn s v wr => ∃ j : Nat, j ≤ D.length ∧ D.length - j ≤ gn ∧ v = .int .i64 j ∧ s = .int .u64 (totL (D.take j)) ∧ Nx w1 wr)
      case atStart => exact ⟨0, by omega, by omega, rfl, rfl, Below.refl _ _⟩
      case round =>
        obtain ⟨j, hj, hg, rfl, rfl, hb⟩ := hrel
        by_cases hlt : j < D.length
        · obtain ⟨hc0, hc1⟩ := hD.out _ hb j hlt
          have hA0 := hAd (by omega)
          subst hA0
          have hdb := hDb.at hlt
          have ht := totL_take D j hlt
          have hTb := totL_bd _ (hDb.take j)
          have hTk : (D.take j).length ≤ 65536 := by rw [List.length_take]; omega
          have hSz := szI_bd (D[j]).1 (D[j]).2 (by omega) (by omega) (by omega)
          have hT0 : 0 ≤ totL (D.take j) ∧ totL (D.take j) ≤ 288230376151711744 := by omega
          clear hTb hTk
          generalize D[j] = d at hc0 hc1 ht hdb hSz
          generalize totL (D.take j) = s0 at ht hT0 ⊢
          have HT := Lib.hid ht
          clear ht
          go_wp2_with fail
          refine (rsize_any _ _ _ (by omega) (by omega) (by omega) (by omega)).mono ?_
          rintro e w2 ⟨rfl, n2⟩
          have hb2 : Nx w1 w2 := bl_step n2 (hb.alloc hb.size _) (by simp; have := hb.size; omega)
          go_wp2
          go_roundg (D.length - (j + 1))
          case measure => omega
          case rel => exact ⟨j + 1, by omega, by omega, by go_num, by rw [HT.out], hb2⟩
        · have hjD : j = D.length := by omega
          subst hjD
          rw [List.take_length]
          clear hAd hD
          have hA' := hA.nx hb
          have hB' := bl_step hb hB (by have := hB.size; omega)
          obtain ⟨c0, c1⟩ := hK.out _ hb
          clear hK q0 q1 q2 q3
          obtain ⟨q0, q1, q2, q3⟩ := hA'.cells
          have htL := totL_bd _ hL
          have htD := totL_bd _ hDb
          have hts : 0 ≤ szI r.1 r.2 ∧ szI r.1 r.2 < 4398046511104 := szI_bd _ _ (by omega) (by omega) (by omega)
          have htl : totL D + (r.2 - r.1) ≤ totL L := by have := HS.out; rw [szI_pos hne2] at this; omega
          generalize htL' : totL L = tL at *
          generalize htD' : totL D = tD at *
          clear htL' htD'
          have hwsz := hb.size
          have hws := hB.size
          by_cases h2 : x < r.2
          · have hH : hasB r.1 r.2 x = true := (hasB_iff _ _ _).2 ⟨hlo, h2⟩
            have hz := Lib.hid (szI_pos hne2)
            by_cases h1 : r.1 < x
            · have HB := Lib.hid (H1.out h1 h2).1
              have HT : Hid (totL (belowL L x) = tL - (tD + (r.2 - r.1) - (x - r.1))) := by
                have e1 := (H1.out h1 h2).2; have e2 := HS.out; have e3 := hz.out
                show totL (belowL L x) = _
                rw [e1]; omega
              have hm1 := Lib.hid (show rmB r.1 r.2 x = r.1 from if_neg (by omega))
              have hm2 := Lib.hid (show rmL r.1 r.2 x = x by unfold rmL; rw [if_neg (by omega), if_neg (by omega)])
              have hzx := Lib.hid (szI_pos h1)
              have hxr : (x - r.1 == 0) = false := by rw [beq_eq_false_iff_ne]; omega
              clear H1 H2 H3
              have bV := Bk.new wr #[.int .u64 r.1, .int .u64 r.2] 67
              have hA1 := hA'.alloc (.cells #[.int .u64 r.1, .int .u64 r.2] 67)
              have hB1 : Below base w (wr.alloc (.cells #[.int .u64 r.1, .int .u64 r.2] 67)) := hB'.alloc (by omega) _
              have v0 := bV.cell 0
              have v1 := bV.cell 1
              go_wp2_with fail
              refine (rcontains_any r.1 r.2 x _ (by omega) (by omega) (by omega) (by omega) (by omega) (by omega)).mono ?_
              rintro e w2 ⟨rfl, n2⟩
              rw [hH]
              replace bV := bV.nx n2
              replace hA1 := hA1.nx n2
              replace hB1 : Below base w w2 := bl_step n2 hB1 (by have := hB1.size; omega)
              clear n2 v0 v1
              have v0 := bV.cell 0
              have v1 := bV.cell 1
              go_wp2_with fail
              refine (rsize_any r.1 r.2 _ (by omega) (by omega) (by omega) (by omega)).mono ?_
              rintro e w3 ⟨rfl, n3⟩
              rw [hz.out]
              replace bV := bV.nx n3
              replace hA1 := hA1.nx n3
              replace hB1 : Below base w w3 := bl_step n3 hB1 (by have := hB1.size; omega)
              clear n3 v0 v1
              have v0 := bV.cell 0
              have v1 := bV.cell 1
              go_wp2_with fail
              refine (rremoveGreaterEqual_any r.1 r.2 x _ (by omega) (by omega) (by omega) (by omega) (by omega) (by omega)).mono ?_
              rintro e w4 ⟨rfl, n4⟩
              rw [hm1.out, hm2.out]
              replace bV := bV.nx n4
              replace hA1 := hA1.nx n4
              replace hB1 : Below base w w4 := bl_step n4 hB1 (by have := hB1.size; omega)
              clear n4 v0 v1
              have v0 := bV.cell 0
              have v1 := bV.cell 1
              have f0 := bV.froz 0
              have f1 := bV.froz 1
              go_upto_region 14 with fail
              replace bV := (bV.set 0 (.int .u64 (r.1))).set 1 (.int .u64 (x))
              replace hA1 := (hA1.off ⟨wr.heap.size, 0, none⟩ (.int .u64 (r.1)) (show wr.heap.size ≠ G by omega) (show wr.heap.size ≠ g by omega)).off ⟨wr.heap.size, 1, none⟩ (.int .u64 (x)) (show wr.heap.size ≠ G by omega) (show wr.heap.size ≠ g by omega)
              replace hB1 := (hB1.setCell (p := ⟨wr.heap.size, 0, none⟩) (show base ≤ wr.heap.size by omega) (.int .u64 (r.1))).setCell (p := ⟨wr.heap.size, 1, none⟩) (show base ≤ wr.heap.size by omega) (.int .u64 (x))
              clear v0 v1 f0 f1
              generalize (w4.setCell ⟨wr.heap.size, 0, none⟩ (.int .u64 (r.1))).setCell ⟨wr.heap.size, 1, none⟩ (.int .u64 (x)) = X at bV hA1 hB1 ⊢
              have v0 := bV.cell 0
              have v1 := bV.cell 1
              simp at v0 v1
              go_wp2_with fail
              refine (rsize_any r.1 x _ (by omega) (by omega) (by omega) (by omega)).mono ?_
              rintro e w5 ⟨rfl, n5⟩
              rw [hzx.out]
              replace bV := bV.nx n5
              replace hA1 := hA1.nx n5
              replace hB1 : Below base w w5 := bl_step n5 hB1 (by have := hB1.size; omega)
              clear n5 v0 v1
              have v0 := bV.cell 0
              have v1 := bV.cell 1
              go_wp2_with fail
              refine (rsize_any r.1 x _ (by omega) (by omega) (by omega) (by omega)).mono ?_
              rintro e w6 ⟨rfl, n6⟩
              rw [hzx.out]
              replace bV := bV.nx n6
              replace hA1 := hA1.nx n6
              replace hB1 : Below base w w6 := bl_step n6 hB1 (by have := hB1.size; omega)
              clear n6 v0 v1
              have v0 := bV.cell 0
              have v1 := bV.cell 1
              obtain ⟨q0, q1, q2, q3⟩ := hA1.cells
              go_upto_region 17 with fail
              have u0 := (hA1.at hk).1
              have u1 := (hA1.at hk).2
              have u2 := hA1.own.frozenAt (k * 2)
              have u3 := hA1.own.frozenAt (k * 2 + 1)
              have hq0 := hA1.drew.cells.1
              have z0 := bV.drew.cell 0
              have z1 := bV.drew.cell 1
              simp at z0 z1
              have hgV : g ≠ wr.heap.size := by omega
              have hgG : g ≠ G := fun e => hne e.symm
              clear v0 v1
              refine wp_region_held_drew (S := fun w' => w'.cell? ⟨G, 0, none⟩ = some (.slice (some ⟨g, 0, none⟩) L.length c) ∧ w'.cell? ⟨wr.heap.size, 0, none⟩ = some (.int .u64 r.1) ∧ w'.cell? ⟨wr.heap.size, 1, none⟩ = some (.int .u64 x)) (by kernel_rfl) ?_ (fun hHeld => ?_)
              focus (exact ⟨hq0, z0, z1⟩)
              (refine takeT (i := 0) (v := ?_) rfl ?_ (fun _ _ _ h => h) rfl hHeld ?_ ?_; rotate_left; (focus kernel_rfl); (focus (intro w hSw; (try dsimp only at hSw); go_simp; (try with_reducible rfl))); (try simp only [Act.put, List.setIfInBounds_toArray, List.set_cons_zero, List.set_cons_succ]))
              (refine takeT (i := 1) (v := ?_) rfl ?_ (fun _ _ _ h => h) rfl hHeld ?_ ?_; rotate_left; (focus kernel_rfl); (focus (intro w hSw; (try dsimp only at hSw); go_simp; (try with_reducible rfl))); (try simp only [Act.put, List.setIfInBounds_toArray, List.set_cons_zero, List.set_cons_succ]))
              (refine takeT (i := 2) (v := ?_) rfl ?_ (fun _ _ _ h => h) rfl hHeld ?_ ?_; rotate_left; (focus kernel_rfl); (focus (intro w hSw; (try dsimp only at hSw); go_simp; (try with_reducible rfl))); (try simp only [Act.put, List.setIfInBounds_toArray, List.set_cons_zero, List.set_cons_succ]))
              (refine takeT (i := 3) (v := ?_) rfl ?_ (fun _ _ _ h => h) rfl hHeld ?_ ?_; rotate_left; (focus kernel_rfl); (focus (intro w hSw; (try dsimp only at hSw); go_simp; (try with_reducible rfl))); (try simp only [Act.put, List.setIfInBounds_toArray, List.set_cons_zero, List.set_cons_succ]))
              (refine takeT (i := 4) (v := ?_) rfl ?_ (fun _ _ _ h => h) rfl hHeld ?_ ?_; rotate_left; (focus kernel_rfl); (focus (intro w hSw; (try dsimp only at hSw); go_simp; (try with_reducible rfl))); (try simp only [Act.put, List.setIfInBounds_toArray, List.set_cons_zero, List.set_cons_succ]))
              (refine takeT (i := 5) (v := ?_) rfl ?_ (fun _ _ _ h => h) rfl hHeld ?_ ?_; rotate_left; (focus kernel_rfl); (focus (intro w hSw; (try dsimp only at hSw); go_simp; (try with_reducible rfl))); (try simp only [Act.put, List.setIfInBounds_toArray, List.set_cons_zero, List.set_cons_succ]))
              (refine takeT (i := 6) (v := ?_) rfl ?_ (fun _ _ _ h => h) rfl hHeld ?_ ?_; rotate_left; (focus kernel_rfl); (focus (intro w hSw; (try dsimp only at hSw); go_simp; (try with_reducible rfl))); (try simp only [Act.put, List.setIfInBounds_toArray, List.set_cons_zero, List.set_cons_succ]))
              (refine takeT (i := 7) (v := ?_) rfl ?_ (fun _ _ _ h => h) rfl hHeld ?_ ?_; rotate_left; (focus kernel_rfl); (focus (intro w hSw; (try dsimp only at hSw); go_simp; (try with_reducible rfl))); (try simp only [Act.put, List.setIfInBounds_toArray, List.set_cons_zero, List.set_cons_succ]))
              (refine doOne (i := 8) rfl ?_ (fun K hK => ?_); (focus kernel_rfl))
              ((first | fail | go_simp); (first | ((first | fail); go_wp2_with fail) | skip); refine hK.out _ _ ?_ (fun hHeldN => ?_); (focus (exact ⟨((World.cell?_setCell_far _ _ _ _ hgG).trans (World.cell?_setCell_far _ _ _ _ hgG)).trans hHeld.1, ((World.cell?_setCell_far _ _ _ _ hgV).trans (World.cell?_setCell_far _ _ _ _ hgV)).trans hHeld.2.1, ((World.cell?_setCell_far _ _ _ _ hgV).trans (World.cell?_setCell_far _ _ _ _ hgV)).trans hHeld.2.2⟩)); clear hHeld hK K; have hHeld := hHeldN; clear hHeldN; (try simp only [Act.put, List.setIfInBounds_toArray, List.set_cons_zero, List.set_cons_succ]))
              (refine wpAnyH_done (by kernel_rfl) ?_ _)
              have hr' := HR.out
              have hA2 := hA1.setBase hk r.1
              rw [hr', show L.set k (r.1, r.2) = L by rw [show ((r.1, r.2) : R) = L[k] from hr'.symm]; exact List.set_getElem_self hk] at hA2
              replace hA2 := (hA2.setLim hk x).drew
              rw [hr'] at hA2
              have hB2 := ((hB1.setCell (p := ⟨g, k * 2, none⟩) hgg (.int .u64 r.1)).setCell (p := ⟨g, k * 2 + 1, none⟩) hgg (.int .u64 x)).drew
              clear u0 u1 u2 u3 hq0 z0 z1 hHeld q0 q1 q2 q3 hA1 hB1 hr'
              generalize ((w6.setCell ⟨g, k * 2, none⟩ (.int .u64 r.1)).setCell ⟨g, k * 2 + 1, none⟩ (.int .u64 x)).drew = Z at hA2 hB2 ⊢
              have hA1 := hA2
              have hB1 := hB2
              clear hA2 hB2
              obtain ⟨q0, q1, q2, q3⟩ := hA1.cells
              rw [List.length_set] at q0
              go_upto_region 19 with fail
              have hA2 := hA1.cut (k := k + 1) (by first | omega | (simp; omega))
              have hB2 := hB1.setCell (p := ⟨G, 0, none⟩) hge (.slice (some ⟨g, 0, none⟩) (k + 1) c)
              clear q0 q1 q2 q3 hA1 hB1
              generalize Z.setCell ⟨G, 0, none⟩ (.slice (some ⟨g, 0, none⟩) (k + 1) c) = Y at hA2 hB2 ⊢
              obtain ⟨q0, q1, q2, q3⟩ := hA2.cells
              have hA3 := hA2.setTot (tL - (tD + (r.2 - r.1) - (x - r.1)))
              have hB3 := hB2.setCell (p := ⟨G, 1, none⟩) hge (.int .u64 (tL - (tD + (r.2 - r.1) - (x - r.1))))
              go_wp2
              exact bodyPost_ret (v := .tuple #[]) (by simp [results, Try.results45, go_sem]) rfl ⟨rfl, by rw [HT.out, HB.out]; exact hA3, hB3⟩
              
              
            · have h1' : r.1 = x := by omega
              have HB := Lib.hid (H2.out h1')
              have HT : Hid (totL (belowL L x) = tL - (tD + (r.2 - r.1))) := by
                have e1 := H2.out h1'; have e2 := HS.out; have e3 := hz.out
                show totL (belowL L x) = _
                rw [e1]; omega
              have hm1 := Lib.hid (show rmB r.1 r.2 x = 0 from if_pos (by omega))
              have hm2 := Lib.hid (show rmL r.1 r.2 x = 0 from if_pos (by omega))
              have hz0 := Lib.hid (show szI 0 0 = 0 from rfl)
              clear H1 H2 H3 h1'
              have bV := Bk.new wr #[.int .u64 r.1, .int .u64 r.2] 67
              have hA1 := hA'.alloc (.cells #[.int .u64 r.1, .int .u64 r.2] 67)
              have hB1 : Below base w (wr.alloc (.cells #[.int .u64 r.1, .int .u64 r.2] 67)) := hB'.alloc (by omega) _
              have v0 := bV.cell 0
              have v1 := bV.cell 1
              go_wp2_with fail
              refine (rcontains_any r.1 r.2 x _ (by omega) (by omega) (by omega) (by omega) (by omega) (by omega)).mono ?_
              rintro e w2 ⟨rfl, n2⟩
              rw [hH]
              replace bV := bV.nx n2
              replace hA1 := hA1.nx n2
              replace hB1 : Below base w w2 := bl_step n2 hB1 (by have := hB1.size; omega)
              clear n2 v0 v1
              have v0 := bV.cell 0
              have v1 := bV.cell 1
              go_wp2_with fail
              refine (rsize_any r.1 r.2 _ (by omega) (by omega) (by omega) (by omega)).mono ?_
              rintro e w3 ⟨rfl, n3⟩
              rw [hz.out]
              replace bV := bV.nx n3
              replace hA1 := hA1.nx n3
              replace hB1 : Below base w w3 := bl_step n3 hB1 (by have := hB1.size; omega)
              clear n3 v0 v1
              have v0 := bV.cell 0
              have v1 := bV.cell 1
              go_wp2_with fail
              refine (rremoveGreaterEqual_any r.1 r.2 x _ (by omega) (by omega) (by omega) (by omega) (by omega) (by omega)).mono ?_
              rintro e w4 ⟨rfl, n4⟩
              rw [hm1.out, hm2.out]
              replace bV := bV.nx n4
              replace hA1 := hA1.nx n4
              replace hB1 : Below base w w4 := bl_step n4 hB1 (by have := hB1.size; omega)
              clear n4 v0 v1
              have v0 := bV.cell 0
              have v1 := bV.cell 1
              have f0 := bV.froz 0
              have f1 := bV.froz 1
              go_upto_region 14 with fail
              replace bV := (bV.set 0 (.int .u64 (0))).set 1 (.int .u64 (0))
              replace hA1 := (hA1.off ⟨wr.heap.size, 0, none⟩ (.int .u64 (0)) (show wr.heap.size ≠ G by omega) (show wr.heap.size ≠ g by omega)).off ⟨wr.heap.size, 1, none⟩ (.int .u64 (0)) (show wr.heap.size ≠ G by omega) (show wr.heap.size ≠ g by omega)
              replace hB1 := (hB1.setCell (p := ⟨wr.heap.size, 0, none⟩) (show base ≤ wr.heap.size by omega) (.int .u64 (0))).setCell (p := ⟨wr.heap.size, 1, none⟩) (show base ≤ wr.heap.size by omega) (.int .u64 (0))
              clear v0 v1 f0 f1
              generalize (w4.setCell ⟨wr.heap.size, 0, none⟩ (.int .u64 (0))).setCell ⟨wr.heap.size, 1, none⟩ (.int .u64 (0)) = X at bV hA1 hB1 ⊢
              have v0 := bV.cell 0
              have v1 := bV.cell 1
              simp at v0 v1
              go_wp2_with fail
              refine (rsize_any 0 0 _ (by omega) (by omega) (by omega) (by omega)).mono ?_
              rintro e w5 ⟨rfl, n5⟩
              rw [hz0.out]
              replace bV := bV.nx n5
              replace hA1 := hA1.nx n5
              replace hB1 : Below base w w5 := bl_step n5 hB1 (by have := hB1.size; omega)
              clear n5 v0 v1
              have v0 := bV.cell 0
              have v1 := bV.cell 1
              obtain ⟨q0, q1, q2, q3⟩ := hA1.cells
              go_upto_region 19 with fail
              have hA2 := hA1.cut (k := k) (by first | omega | (simp; omega))
              have hB2 := hB1.setCell (p := ⟨G, 0, none⟩) hge (.slice (some ⟨g, 0, none⟩) (k) c)
              clear q0 q1 q2 q3 hA1 hB1
              generalize w5.setCell ⟨G, 0, none⟩ (.slice (some ⟨g, 0, none⟩) (k) c) = Y at hA2 hB2 ⊢
              obtain ⟨q0, q1, q2, q3⟩ := hA2.cells
              have hA3 := hA2.setTot (tL - (tD + (r.2 - r.1)))
              have hB3 := hB2.setCell (p := ⟨G, 1, none⟩) hge (.int .u64 (tL - (tD + (r.2 - r.1))))
              go_wp2
              exact bodyPost_ret (v := .tuple #[]) (by simp [results, Try.results45, go_sem]) rfl ⟨rfl, by rw [HT.out, HB.out]; exact hA3, hB3⟩
              
          · have hH : hasB r.1 r.2 x = false := (hasB_not _ _ _).2 (by omega)
            have hz := Lib.hid (szI_pos hne2)
            have HB := Lib.hid (H3.out (by omega)).1
            have HT : Hid (totL (belowL L x) = tL - tD) := by
              have e1 := (H3.out (by omega)).2; have e2 := HS.out; have e3 := hz.out
              show totL (belowL L x) = _
              rw [e1]; omega
            clear H1 H2 H3
            have bV := Bk.new wr #[.int .u64 r.1, .int .u64 r.2] 67
            have hA1 := hA'.alloc (.cells #[.int .u64 r.1, .int .u64 r.2] 67)
            have hB1 : Below base w (wr.alloc (.cells #[.int .u64 r.1, .int .u64 r.2] 67)) := hB'.alloc (by omega) _
            have v0 := bV.cell 0
            have v1 := bV.cell 1
            go_wp2_with fail
            refine (rcontains_any r.1 r.2 x _ (by omega) (by omega) (by omega) (by omega) (by omega) (by omega)).mono ?_
            rintro e w2 ⟨rfl, n2⟩
            rw [hH]
            replace bV := bV.nx n2
            replace hA1 := hA1.nx n2
            replace hB1 : Below base w w2 := bl_step n2 hB1 (by have := hB1.size; omega)
            clear n2 v0 v1
            have v0 := bV.cell 0
            have v1 := bV.cell 1
            obtain ⟨q0, q1, q2, q3⟩ := hA1.cells
            go_upto_region 19 with fail
            have hA2 := hA1.cut (k := k + 1) (by first | omega | (simp; omega))
            have hB2 := hB1.setCell (p := ⟨G, 0, none⟩) hge (.slice (some ⟨g, 0, none⟩) (k + 1) c)
            clear q0 q1 q2 q3 hA1 hB1
            generalize w2.setCell ⟨G, 0, none⟩ (.slice (some ⟨g, 0, none⟩) (k + 1) c) = Y at hA2 hB2 ⊢
            obtain ⟨q0, q1, q2, q3⟩ := hA2.cells
            have hA3 := hA2.setTot (tL - tD)
            have hB3 := hB2.setCell (p := ⟨G, 1, none⟩) hge (.int .u64 (tL - tD))
            go_wp2
            exact bodyPost_ret (v := .tuple #[]) (by simp [results, Try.results45, go_sem]) rfl ⟨rfl, by rw [HT.out, HB.out]; exact hA3, hB3⟩
            
end Go.Proofs.Ytnmljgjcdofboaa
