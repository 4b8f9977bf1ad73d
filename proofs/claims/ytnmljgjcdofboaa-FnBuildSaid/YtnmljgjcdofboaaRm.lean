/- RemoveLast, through the package and the statements' own side. -/
import Derived.Test.YtnmljgjcdofboaaRl
import Derived.Test.YtnmljgjcdofboaaSp
namespace Go.Proofs.Ytnmljgjcdofboaa
open Go.RowKit
set_option linter.unusedVariables false
set_option linter.unusedSimpArgs false

theorem belowL_all : ∀ (L : List R) (x : Int), (∀ r ∈ L, r.1 < r.2 ∧ r.2 ≤ x) → belowL L x = L
  | [], _, _ => rfl
  | r :: L, x, h => by
    have h1 := belowL_all L x (fun s hs => h s (List.mem_cons_of_mem _ hs))
    have h2 := h r (List.mem_cons_self ..)
    unfold belowL at h1 ⊢
    rw [List.flatMap_cons, h1]
    unfold cutR
    rw [if_neg (by omega), if_pos h2.1]
    rfl
theorem belowL_append (L M : List R) (x : Int) : belowL (L ++ M) x = belowL L x ++ belowL M x := by simp [belowL]
theorem last_split {L : List R} {m : Nat} {r : R} (hm : L.length = m + 1) (hr : L[m]? = some r) : L = L.take m ++ [r] := by
  obtain ⟨hi, e⟩ := List.getElem?_eq_some_iff.1 hr
  conv => lhs; rw [← List.take_length (l := L), hm, List.take_succ_eq_append_getElem hi, e]
theorem set_split {L : List R} {m : Nat} {r : R} (hm : L.length = m + 1) (hr : L[m]? = some r) (s : R) : L.set m s = L.take m ++ [s] := by
  have h := last_split hm hr
  have hl : (L.take m).length = m := by rw [List.length_take]; omega
  generalize L.take m = M at h hl
  subst h
  rw [List.set_append_right _ _ (by omega), hl]
  simp
/-- Where the last range is cut. -/
def rlAt (r : R) (n : Int) : Int := if r.2 - r.1 ≤ n then r.1 else r.2 - n
theorem below_last {L : List R} {m : Nat} {r : R} (hT : Td L) (hm : L.length = m + 1) (hr : L[m]? = some r) {x : Int} (h1 : r.1 ≤ x) (h2 : x < r.2) :
    belowL L x = L.take m ++ (if r.1 < x then [(r.1, x)] else []) := by
  obtain ⟨hi, e⟩ := List.getElem?_eq_some_iff.1 hr
  have h3 : ∀ s ∈ L.take m, s.1 < s.2 ∧ s.2 ≤ x := fun s hs => by
    obtain ⟨j, hj, rfl⟩ := List.getElem_of_mem hs
    have hj' : j < m := by rw [List.length_take] at hj; omega
    rw [List.getElem_take]
    have := hT.up j m (by omega) hi hj'
    rw [e] at this
    exact ⟨hT.ne j (by omega), by omega⟩
  have h4 : belowL L x = belowL (L.take m ++ [r]) x := by rw [← last_split hm hr]
  rw [h4, belowL_append, belowL_all _ _ h3]
  unfold belowL
  simp only [List.flatMap_cons, List.flatMap_nil, List.append_nil]
  unfold cutR
  rw [if_pos h2]
theorem totL_nonneg (L : List R) : 0 ≤ totL L := by
  induction L with
  | nil => simp [totL]
  | cons r L ih => rw [totL_cons]; have : 0 ≤ szI r.1 r.2 := by { unfold szI; split <;> omega }; omega
theorem rlAt_in {r : R} {n : Int} (h : r.1 < r.2) (hn : 1 ≤ n) : r.1 ≤ rlAt r n ∧ rlAt r n < r.2 ∧ ((r.2 - r.1 ≤ n ∧ rlAt r n = r.1) ∨ (n < r.2 - r.1 ∧ rlAt r n = r.2 - n)) := by
  unfold rlAt; split <;> omega
theorem totL_below_last {L : List R} {m : Nat} {r : R} {n : Int} (hT : Td L) (hL : InB L) (hm : L.length = m + 1) (hr : L[m]? = some r) (hn : 1 ≤ n) : totL (belowL L (rlAt r n)) = totL L - (r.2 - rlAt r n) := by
  obtain ⟨hi, e⟩ := List.getElem?_eq_some_iff.1 hr
  have hb2 := hT.ne m hi
  rw [e] at hb2
  have h := rlAt_in hb2 hn
  have hts : totL L = totL (L.take m) + (r.2 - r.1) := by
    have h1 : totL L = totL (L.take m ++ [r]) := by rw [← last_split hm hr]
    rw [h1, totL_append]
    simp [totL, szI, hb2]
  rw [below_last hT hm hr h.1 h.2.1, totL_append, hts]
  split
  · simp only [totL, List.map_cons, List.map_nil, List.sum_cons, List.sum_nil, szI]
    rw [if_pos (by assumption)]
    omega
  · simp only [totL, List.map_nil, List.sum_nil]
    omega
theorem lremoveLast_any (base G g c m : Nat) (L : List R) (n : Int) (r : R) (w : World) (h : ArAt base w G g c L (totL L)) (hm : L.length = m + 1) (hr : L[m]? = some r) (hn : L.length ≤ 65536) (hL : InB L) (hT : Td L) (hn0 : 1 ≤ n) :
    Calls Try.prog 44 #[.pointer (some ⟨G, 0, none⟩), .int .u64 n] w fun e w' =>
      e = .returned (.agg #[.int .u64 (rlAt r n), .int .u64 r.2]) ∧ ArAt base w' G g c (belowL L (rlAt r n)) (totL (belowL L (rlAt r n))) ∧ Below base w w' := by
  obtain ⟨hi, e⟩ := List.getElem?_eq_some_iff.1 hr
  have hb := hL.at hi
  have hb2 := hT.ne m hi
  rw [e] at hb hb2
  have htb := totL_bd L hL
  have hts : totL L = totL (L.take m) + (r.2 - r.1) := by
    have h1 : totL L = totL (L.take m ++ [r]) := by rw [← last_split hm hr]
    rw [h1, totL_append]
    simp [totL, szI, hb2]
  have ht0 := (totL_bd _ (hL.take m)).1
  have hr' : ∀ (hi : m < L.length), L[m] = r := fun _ => e
  by_cases hs : r.2 - r.1 ≤ n
  · have ha : rlAt r n = r.1 := by unfold rlAt; rw [if_pos hs]
    have hB : belowL L (rlAt r n) = L.take m := by rw [ha, below_last hT hm hr (Int.le_refl _) hb2, if_neg (by omega), List.append_nil]
    rw [hB, ha]
    refine (lremoveLast_all base G g c m L _ n r w h hm hr' (by omega) ⟨hb.1, hb2, hb.2.2.2⟩ hs (by omega) (by omega)).mono ?_
    rintro e w' ⟨rfl, h1, h2⟩
    exact ⟨rfl, by rw [hts] at h1; rwa [show totL (L.take m) + (r.2 - r.1) - (r.2 - r.1) = totL (L.take m) by omega] at h1, h2⟩
  · have ha : rlAt r n = r.2 - n := by unfold rlAt; rw [if_neg hs]
    have hB : belowL L (rlAt r n) = L.set m (r.1, r.2 - n) := by rw [ha, below_last hT hm hr (by omega) (by omega), if_pos (by omega), set_split hm hr]
    have hB2 : totL (L.set m (r.1, r.2 - n)) = totL L - n := by
      rw [set_split hm hr, totL_append, hts]
      simp only [totL, List.map_cons, List.map_nil, List.sum_cons, List.sum_nil, szI]
      rw [if_pos (by omega)]
      omega
    rw [hB, ha, hB2]
    refine (lremoveLast_part base G g c m L _ n r w h hm hr' (by omega) ⟨hb.1, hb2, hb.2.2.2⟩ (by omega) (by omega) (by omega) (by omega)).mono ?_
    rintro e w' ⟨rfl, h1, h2⟩
    exact ⟨rfl, h1, h2⟩

/-- What RemoveLast hands back. -/
def RetRl (L : List R) (r : R) (n : Int) (w : World) (e : Ending) (w' : World) : Prop :=
  ∃ A c, e = .returned (.tuple #[.slice A (belowL L (rlAt r n)).length c, .int .u64 (totL (belowL L (rlAt r n))), .agg #[.int .u64 (rlAt r n), .int .u64 r.2]]) ∧ SlAt w' A c (belowL L (rlAt r n)) ∧ Nx w w'
set_option maxHeartbeats 1000000 in
theorem mRemoveLast_any (A : Option Addr) (c m : Nat) (L : List R) (n : Int) (r : R) (w : World) (h : SlAt w A c L) (hm : L.length = m + 1) (hr : L[m]? = some r) (hn : L.length ≤ 65536) (hL : InB L) (hT : Td L) (hn0 : 1 ≤ n) :
    Calls Try.prog 34 #[.slice A L.length c, .int .u64 n] w (RetRl L r n w) := by
  have hlen : (belowL L (rlAt r n)).length ≤ 65536 := Nat.le_trans (belowL_len _ _) hn
  have CR := Lib.hid (fun base G g c w h => lremoveLast_any base G g c m L n r w h hm hr hn hL hT hn0)
  have CO := Lib.hid (fun base G g c w h => mouts_any base G g c (belowL L (rlAt r n)) (totL (belowL L (rlAt r n))) w h hlen)
  unfold RetRl
  generalize belowL L (rlAt r n) = B at CR CO ⊢
  generalize rlAt r n = at0 at CR ⊢
  generalize totL B = tB at CR CO ⊢
  clear hm hr
  go_enter Try.func34, Try.ntmps34
  go_wp2_with fail
  have bR := Bk.new w #[.int .u64 0, .int .u64 0] 52
  refine (mins_any A c L _ (h.alloc _) hn hL).mono ?_
  rintro e w1 ⟨G, g, c', rfl, har, n1⟩
  replace bR := bR.nx n1
  go_wp2_with fail
  refine (CR.out _ _ _ _ _ har).mono ?_
  rintro e w2 ⟨rfl, har2, n2⟩
  replace bR := bR.below n2 (by simp)
  have bV := Bk.new w2 #[.int .u64 at0, .int .u64 r.2] 67
  replace bR := bR.alloc (.cells #[.int .u64 at0, .int .u64 r.2] 67)
  have hsz := n2.size
  have har3 := har2.alloc (.cells #[.int .u64 at0, .int .u64 r.2] 67)
  have hb1 : Nx w w1 := bl_step n1 ((Below.refl _ _).alloc (Nat.le_refl _) _) (by simp)
  have hb2 : Nx w w2 := bl_step (n2.mono (by simp)) hb1 (Nat.le_refl _)
  have hb3 : Nx w (w2.alloc (.cells #[.int .u64 at0, .int .u64 r.2] 67)) := hb2.alloc hb2.size _
  clear n1 n2 har har2 hb1 hb2
  go_wp2_with fail
  generalize w2.alloc (.cells #[.int .u64 at0, .int .u64 r.2] 67) = U at bR bV har3 hb3 ⊢
  refine (CO.out _ _ _ _ _ har3).mono ?_
  rintro e w3 ⟨A3, c3, rfl, hs3, n3, hf3⟩
  have hf4 : ∀ a, A3 = some a → a.block ≠ w.heap.size := fun a ha => by have := hf3 a ha; have := bR.lt; omega
  clear hf3
  replace bR := bR.nx n3
  replace bV := bV.nx n3
  replace hb3 : Nx w w3 := bl_step n3 hb3 hb3.size
  clear n3 har3
  have v0 := bV.cell 0
  have v1 := bV.cell 1
  go_wp2_with fail
  refine (mout_any _ _ _).mono ?_
  rintro e w4 ⟨rfl, n4⟩
  replace bR := bR.nx n4
  replace hb3 : Nx w w4 := bl_step n4 hb3 hb3.size
  replace hs3 := hs3.nx n4
  clear v0 v1 bV n4
  have r0 := bR.cell 0
  have r1 := bR.cell 1
  have f0 := bR.froz 0
  have f1 := bR.froz 1
  go_wp2
  replace bR := (bR.set 0 (.int .u64 at0)).set 1 (.int .u64 r.2)
  replace hb3 : Nx w ((w4.setCell ⟨w.heap.size, 0, none⟩ (.int .u64 at0)).setCell ⟨w.heap.size, 1, none⟩ (.int .u64 r.2)) := (hb3.setCell (p := ⟨w.heap.size, 0, none⟩) (Nat.le_refl _) _).setCell (p := ⟨w.heap.size, 1, none⟩) (Nat.le_refl _) _
  replace hs3 := (hs3.set ⟨w.heap.size, 0, none⟩ (.int .u64 at0) hf4).set ⟨w.heap.size, 1, none⟩ (.int .u64 r.2) hf4
  generalize (w4.setCell ⟨w.heap.size, 0, none⟩ (.int .u64 at0)).setCell ⟨w.heap.size, 1, none⟩ (.int .u64 r.2) = Z at bR hb3 hs3 ⊢
  have gr0 := bR.cell 0
  have gr1 := bR.cell 1
  simp at gr0 gr1
  exact bodyPost_ret (v := .tuple #[.slice A3 B.length c3, .int .u64 tB, .agg #[.int .u64 at0, .int .u64 r.2]]) (by simp [results, Try.results34, go_sem, gr0, gr1]) rfl ⟨A3, c3, rfl, hs3, hb3⟩
set_option maxHeartbeats 1000000 in
theorem iRemoveLast_any (A : Option Addr) (c m : Nat) (L : List R) (n : Int) (r : R) (w : World) (h : SlAt w A c L) (hm : L.length = m + 1) (hr : L[m]? = some r) (hn : L.length ≤ 65536) (hL : InB L) (hT : Td L) (hn0 : 1 ≤ n) :
    Calls Try.prog 18 #[.slice A L.length c, .int .u64 n] w (RetRl L r n w) := by
  have hlen : (belowL L (rlAt r n)).length ≤ 65536 := Nat.le_trans (belowL_len _ _) hn
  have CM := Lib.hid (fun A c w h => mRemoveLast_any A c m L n r w h hm hr hn hL hT hn0)
  have CT := Lib.hid (fun A c w h => itold_new A c (belowL L (rlAt r n)) w h hlen)
  unfold RetRl at CM ⊢
  generalize belowL L (rlAt r n) = B at CM CT ⊢
  generalize rlAt r n = at0 at CM ⊢
  generalize totL B = tB at CM ⊢
  clear hm hr
  go_enter Try.func18, Try.ntmps18
  go_wp2_with fail
  have bR := Bk.new w #[.int .u64 0, .int .u64 0] 24
  refine (igiven_any A c L _ (h.alloc _) hn).mono ?_
  rintro e w1 ⟨A1, c1, rfl, hs1, n1⟩
  replace bR := bR.nx n1
  have hb1 : Nx w w1 := bl_step n1 ((Below.refl _ _).alloc (Nat.le_refl _) _) (by simp)
  clear n1
  go_wp2_with fail
  refine (CM.out _ _ _ hs1).mono ?_
  rintro e w2 ⟨A2, c2, rfl, hs2, n2⟩
  replace bR := bR.nx n2
  have hb2 : Nx w w2 := bl_step n2 hb1 hb1.size
  clear n2 hb1 hs1
  have hlt2 := bR.lt
  have bV := Bk.new w2 #[.int .u64 at0, .int .u64 r.2] 52
  replace bR := bR.alloc (.cells #[.int .u64 at0, .int .u64 r.2] 52)
  replace hs2 := hs2.alloc (.cells #[.int .u64 at0, .int .u64 r.2] 52)
  have hb3 : Nx w (w2.alloc (.cells #[.int .u64 at0, .int .u64 r.2] 52)) := hb2.alloc hb2.size _
  go_wp2_with fail
  generalize w2.alloc (.cells #[.int .u64 at0, .int .u64 r.2] 52) = U at bR bV hs2 hb3 ⊢
  have hVR : w.heap.size ≠ w2.heap.size := by omega
  clear hb2
  have v0 := bV.drew.cell 0
  have v1 := bV.drew.cell 1
  refine wp_region_held_drew (S := fun w' => w'.cell? ⟨w2.heap.size, 0, none⟩ = some (.int .u64 at0) ∧ w'.cell? ⟨w2.heap.size, 1, none⟩ = some (.int .u64 r.2)) (by kernel_rfl) ?_ (fun hHeld => ?_)
  focus (exact ⟨v0, v1⟩)
  (refine takeT (i := 0) (v := ?_) rfl ?_ (fun _ _ _ h => h) rfl hHeld ?_ ?_; rotate_left; (focus kernel_rfl); (focus (intro w hSw; (try dsimp only at hSw); go_simp; (try with_reducible rfl))); (try simp only [Act.put, List.setIfInBounds_toArray, List.set_cons_zero, List.set_cons_succ]))
  (refine takeT (i := 2) (v := ?_) rfl ?_ (fun _ _ _ h => h) rfl hHeld ?_ ?_; rotate_left; (focus kernel_rfl); (focus (intro w hSw; (try dsimp only at hSw); go_simp; (try with_reducible rfl))); (try simp only [Act.put, List.setIfInBounds_toArray, List.set_cons_zero, List.set_cons_succ]))
  (refine takeT (i := 3) (v := ?_) rfl ?_ (fun _ _ _ h => h) rfl hHeld ?_ ?_; rotate_left; (focus kernel_rfl); (focus (intro w hSw; (try dsimp only at hSw); go_simp; (try with_reducible rfl))); (try simp only [Act.put, List.setIfInBounds_toArray, List.set_cons_zero, List.set_cons_succ]))
  (refine doOne (i := 1) rfl ?_ (fun K hK => ?_); (focus kernel_rfl))
  ((first | fail | go_simp); (first | ((first | (go_at_call 33; refine (CT.out _ _ _ hs2.drew).mono ?_; rintro e wh ⟨A4, c4, rfl, hs4, nh, hf4⟩; have r0 := (bR.drew.nx nh).cell 0; have r1 := (bR.drew.nx nh).cell 1; have f0 := (bR.drew.nx nh).froz 0; have f1 := (bR.drew.nx nh).froz 1)); go_wp2_with fail) | skip); refine hK.out _ _ ?_ (fun hHeldN => ?_); (focus (first | (exact ⟨(bV.drew.nx nh).cell 0, (bV.drew.nx nh).cell 1⟩) | (exact ⟨(((bV.drew.nx nh).far ⟨w.heap.size, 0, none⟩ (.int .u64 at0) hVR).far ⟨w.heap.size, 1, none⟩ (.int .u64 r.2) hVR).cell 0, (((bV.drew.nx nh).far ⟨w.heap.size, 0, none⟩ (.int .u64 at0) hVR).far ⟨w.heap.size, 1, none⟩ (.int .u64 r.2) hVR).cell 1⟩))); clear hHeld hK K; have hHeld := hHeldN; clear hHeldN; (try simp only [Act.put, List.setIfInBounds_toArray, List.set_cons_zero, List.set_cons_succ]))
  (refine takeT (i := 4) (v := ?_) rfl ?_ (fun _ _ _ h => h) rfl hHeld ?_ ?_; rotate_left; (focus kernel_rfl); (focus (intro w hSw; (try dsimp only at hSw); go_simp; (try with_reducible rfl))); (try simp only [Act.put, List.setIfInBounds_toArray, List.set_cons_zero, List.set_cons_succ]))
  (refine takeT (i := 5) (v := ?_) rfl ?_ (fun _ _ _ h => h) rfl hHeld ?_ ?_; rotate_left; (focus kernel_rfl); (focus (intro w hSw; (try dsimp only at hSw); go_simp; (try with_reducible rfl))); (try simp only [Act.put, List.setIfInBounds_toArray, List.set_cons_zero, List.set_cons_succ]))
  (refine doOne (i := 6) rfl ?_ (fun K hK => ?_); (focus kernel_rfl))
  ((first | fail | go_simp); (first | ((first | (go_at_call 33; refine (CT.out _ _ _ hs2.drew).mono ?_; rintro e wh ⟨A4, c4, rfl, hs4, nh, hf4⟩; have r0 := (bR.drew.nx nh).cell 0; have r1 := (bR.drew.nx nh).cell 1; have f0 := (bR.drew.nx nh).froz 0; have f1 := (bR.drew.nx nh).froz 1)); go_wp2_with fail) | skip); refine hK.out _ _ ?_ (fun hHeldN => ?_); (focus (first | (exact ⟨(bV.drew.nx nh).cell 0, (bV.drew.nx nh).cell 1⟩) | (exact ⟨(((bV.drew.nx nh).far ⟨w.heap.size, 0, none⟩ (.int .u64 at0) hVR).far ⟨w.heap.size, 1, none⟩ (.int .u64 r.2) hVR).cell 0, (((bV.drew.nx nh).far ⟨w.heap.size, 0, none⟩ (.int .u64 at0) hVR).far ⟨w.heap.size, 1, none⟩ (.int .u64 r.2) hVR).cell 1⟩))); clear hHeld hK K; have hHeld := hHeldN; clear hHeldN; (try simp only [Act.put, List.setIfInBounds_toArray, List.set_cons_zero, List.set_cons_succ]))
  (refine wpAnyH_done (by kernel_rfl) ?_ _)
  have hf5 : ∀ a, A4 = some a → a.block ≠ w.heap.size := fun a ha => by have h1 := hf4 a ha; have h2 := bR.drew.lt; omega
  have hb5 : Nx w wh := bl_step nh hb3.drew hb3.drew.size
  have bR := ((bR.drew.nx nh).set 0 (.int .u64 at0)).set 1 (.int .u64 r.2)
  replace hb5 : Nx w ((wh.setCell ⟨w.heap.size, 0, none⟩ (.int .u64 at0)).setCell ⟨w.heap.size, 1, none⟩ (.int .u64 r.2)) := (hb5.setCell (p := ⟨w.heap.size, 0, none⟩) (Nat.le_refl _) _).setCell (p := ⟨w.heap.size, 1, none⟩) (Nat.le_refl _) _
  have hs5 := (hs4.set ⟨w.heap.size, 0, none⟩ (.int .u64 at0) hf5).set ⟨w.heap.size, 1, none⟩ (.int .u64 r.2) hf5
  clear r0 r1 f0 f1 hHeld
  go_wp2
  generalize (wh.setCell ⟨w.heap.size, 0, none⟩ (.int .u64 at0)).setCell ⟨w.heap.size, 1, none⟩ (.int .u64 r.2) = Z at bR hb5 hs5 ⊢
  have gr0 := bR.cell 0
  have gr1 := bR.cell 1
  simp at gr0 gr1
  exact bodyPost_ret (v := .tuple #[.slice A4 B.length c4, .int .u64 tB, .agg #[.int .u64 at0, .int .u64 r.2]]) (by simp [results, Try.results18, go_sem, gr0, gr1]) rfl ⟨A4, c4, rfl, hs5, hb5⟩
end Go.Proofs.Ytnmljgjcdofboaa
