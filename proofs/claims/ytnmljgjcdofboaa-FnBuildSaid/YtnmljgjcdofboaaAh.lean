/- Add, through the package and the thin package. -/
import Derived.Test.YtnmljgjcdofboaaAd
import Derived.Test.YtnmljgjcdofboaaAe
import Derived.Test.YtnmljgjcdofboaaAf
import Derived.Test.YtnmljgjcdofboaaAg
namespace Go.Proofs.Ytnmljgjcdofboaa
open Go.RowKit
set_option linter.unusedVariables false
set_option linter.unusedSimpArgs false

theorem findIdx_succ : ∀ (L : List R) (x : Int), Td L → ∃ i, SuccAt L x i
  | [], x, _ => ⟨0, by simp, by simp, by simp⟩
  | r :: L, x, hT => by
    obtain ⟨h1, h2, h3⟩ := (td_cons r L).1 hT
    by_cases hx : x < r.1
    · refine ⟨0, by simp, fun j hj hlt => by omega, fun j hj _ => ?_⟩
      have := hT.base_mono (i := 0) (j := j) (by simp) hj (by omega)
      simp only [List.getElem_cons_zero] at this
      omega
    · obtain ⟨i, hi⟩ := findIdx_succ L x h3
      refine ⟨i + 1, by have := hi.le; simp; omega, fun j hj hlt => ?_, fun j hj hle => ?_⟩
      · cases j with
        | zero => simp only [List.getElem_cons_zero]; omega
        | succ j => simpa using hi.lo j (by simpa using hj) (by omega)
      · cases j with
        | zero => omega
        | succ j => simpa using hi.hi j (by simpa using hj) (by omega)
theorem ladd_any (base G g c : Nat) (L : List R) (a b : Int) (w : World) (h : ArAt base w G g c L (totL L)) (hn : L.length < 65536) (hL : InB L) (hT : Td L) (ha : 0 ≤ a) (hab : a < b) (hb : b < 4398046511104) (hA : ApartL L (a, b)) :
    Calls Try.prog 42 #[.pointer (some ⟨G, 0, none⟩), .agg #[.int .u64 a, .int .u64 b]] w (AddAr base G L (a, b) w) := by
  obtain ⟨i, hS⟩ := findIdx_succ L a hT
  cases hd : dnB L i a
  · cases hu : upB L i b
    · by_cases hg : c < L.length + 1
      · exact ladd_grow base G g c i L a b w h hn hL hT ha hab hb hA hS hd hu hg
      · exact ladd_room base G g c i L a b w h hn hL hT ha hab hb hA hS hd hu hg
    · exact ladd_up base G g c i L a b w h hn hL hT ha hab hb hA hS hd hu
  · cases hu : upB L i b
    · exact ladd_down base G g c i L a b w h hn hL hT ha hab hb hA hS hd hu
    · exact ladd_both base G g c i L a b w h hn hL hT ha hab hb hA hS hd hu
/-- A list with one more range, and the sum of its sizes, are handed back. -/
def RetAdd (L : List R) (r : R) (w : World) (e : Ending) (w' : World) : Prop := ∃ M A c, AddAt L r M ∧ e = .returned (.tuple #[.slice A M.length c, .int .u64 (totL M)]) ∧ SlAt w' A c M ∧ Nx w w'
set_option maxHeartbeats 1000000 in
theorem mAdd_any (A : Option Addr) (c : Nat) (L : List R) (a b : Int) (w : World) (h : SlAt w A c L) (hn : L.length < 65536) (hL : InB L) (hT : Td L) (ha : 0 ≤ a) (hab : a < b) (hb : b < 4398046511104) (hA : ApartL L (a, b)) :
    Calls Try.prog 31 #[.slice A L.length c, .agg #[.int .u64 a, .int .u64 b]] w (RetAdd L (a, b) w) := by
  have CR := Lib.hid (fun base G g c w h => ladd_any base G g c L a b w h hn hL hT ha hab hb hA)
  have CO := Lib.hid (fun (M : List R) (hM : AddAt L (a, b) M) base G g c w h => mouts_any base G g c M (totL M) w h (by have := hM.len; omega))
  unfold AddAr at CR
  clear hA hT
  go_enter Try.func31, Try.ntmps31
  have bV := Bk.new w #[.int .u64 a, .int .u64 b] 52
  have hs0 := h.alloc (.cells #[.int .u64 a, .int .u64 b] 52)
  have hb0 : Nx w (w.alloc (.cells #[.int .u64 a, .int .u64 b] 52)) := (Below.refl _ _).alloc (Nat.le_refl _) _
  clear h
  go_upto_region 1 with fail
  generalize w.alloc (.cells #[.int .u64 a, .int .u64 b] 52) = U at bV hs0 hb0 ⊢
  have hwU := Below.size hb0
  go_wp2_with fail
  refine (mins_any A c L _ hs0 (by omega) hL).mono ?_
  rintro e w1 ⟨G, g, c', rfl, har, n1⟩
  replace bV := bV.nx n1
  replace hb0 : Nx w w1 := bl_step n1 hb0 hb0.size
  clear n1
  have v0 := bV.cell 0
  have v1 := bV.cell 1
  go_wp2_with fail
  refine (min_any a b _).mono ?_
  rintro e w2 ⟨rfl, n2⟩
  replace har := har.nx n2
  replace hb0 : Nx w w2 := bl_step n2 hb0 hb0.size
  clear n2 bV v0 v1
  go_wp2_with fail
  refine (CR.out _ _ _ _ _ har).mono ?_
  rintro e w3 ⟨rfl, M, g2, c2, hM, har3, n3⟩
  replace hb0 : Nx w w3 := bl_step n3 hb0 hwU
  have CM := Lib.hid (CO.out M hM)
  have HM := Lib.hid hM
  clear hM n3 har CO CR
  go_wp2_with fail
  refine (CM.out _ _ _ _ _ har3).mono ?_
  rintro e w4 ⟨A4, c4, rfl, hs4, n4, hf4⟩
  clear hf4
  go_wp2
  go_ret2
  exact ⟨M, A4, c4, HM.out, rfl, hs4, bl_step n4 hb0 hb0.size⟩
set_option maxHeartbeats 1000000 in
theorem iAdd_any (A : Option Addr) (c : Nat) (L : List R) (a b : Int) (w : World) (h : SlAt w A c L) (hn : L.length < 65536) (hL : InB L) (hT : Td L) (ha : 0 ≤ a) (hab : a < b) (hb : b < 4398046511104) (hA : ApartL L (a, b)) :
    Calls Try.prog 14 #[.slice A L.length c, .agg #[.int .u64 a, .int .u64 b]] w (RetAdd L (a, b) w) := by
  have CM := Lib.hid (fun A c w h => mAdd_any A c L a b w h hn hL hT ha hab hb hA)
  have CT := Lib.hid (fun (M : List R) (hM : AddAt L (a, b) M) A c w h => itold_any A c M w h (by have := hM.len; omega))
  unfold RetAdd at CM ⊢
  clear hA hT
  go_enter Try.func14, Try.ntmps14
  have bV := Bk.new w #[.int .u64 a, .int .u64 b] 24
  have hs0 := h.alloc (.cells #[.int .u64 a, .int .u64 b] 24)
  have hb0 : Nx w (w.alloc (.cells #[.int .u64 a, .int .u64 b] 24)) := (Below.refl _ _).alloc (Nat.le_refl _) _
  clear h
  go_upto_region 1 with fail
  generalize w.alloc (.cells #[.int .u64 a, .int .u64 b] 24) = U at bV hs0 hb0 ⊢
  have hS : ∀ w', Nx U w' → w'.cell? ⟨w.heap.size, 0, none⟩ = some (.int .u64 a) ∧ w'.cell? ⟨w.heap.size, 1, none⟩ = some (.int .u64 b) ∧ Nx U w' := fun w' k => ⟨(bV.nx k).cell 0, (bV.nx k).cell 1, k⟩
  refine wp_region_held_drew (S := fun w' => w'.cell? ⟨w.heap.size, 0, none⟩ = some (.int .u64 a) ∧ w'.cell? ⟨w.heap.size, 1, none⟩ = some (.int .u64 b) ∧ Nx U w') (by kernel_rfl) ?_ (fun hHeld => ?_)
  focus (exact hS _ ((Below.refl _ _).drew))
  (refine takeT (i := 0) (v := ?_) rfl ?_ (fun _ _ _ h => h) rfl hHeld ?_ ?_; rotate_left; (focus kernel_rfl); (focus (intro w hSw; (try dsimp only at hSw); go_simp; (try with_reducible rfl))); (try simp only [Act.put, List.setIfInBounds_toArray, List.set_cons_zero, List.set_cons_succ]))
  (refine takeT (i := 2) (v := ?_) rfl ?_ (fun _ _ _ h => h) rfl hHeld ?_ ?_; rotate_left; (focus kernel_rfl); (focus (intro w hSw; (try dsimp only at hSw); go_simp; (try with_reducible rfl))); (try simp only [Act.put, List.setIfInBounds_toArray, List.set_cons_zero, List.set_cons_succ]))
  (refine doOne (i := 1) rfl ?_ (fun K hK => ?_); (focus kernel_rfl))
  ((first | fail | go_simp); (first | ((first | first | (go_at_call 32; refine (igiven_any A c L _ (hs0.nx hHeld.2.2) (by omega)).mono ?_; rintro e wh ⟨A1, c1, rfl, hs1, nh⟩) | (go_at_call 31; refine (CM.out _ _ _ hs1).mono ?_; rintro e wh ⟨M, A2, c2, hM, rfl, hs2, nh⟩; have CN := Lib.hid (CT.out M hM); have HM := Lib.hid hM; clear hM)); go_wp2_with fail) | skip); refine hK.out _ _ ?_ (fun hHeldN => ?_); (focus (exact hS _ (bl_step nh hHeld.2.2 (Below.size hHeld.2.2)))); clear hHeld hK K; have hHeld := hHeldN; clear hHeldN; (try simp only [Act.put, List.setIfInBounds_toArray, List.set_cons_zero, List.set_cons_succ]))
  (refine doOne (i := 3) rfl ?_ (fun K hK => ?_); (focus kernel_rfl))
  ((first | fail | go_simp); (first | ((first | first | (go_at_call 32; refine (igiven_any A c L _ (hs0.nx hHeld.2.2) (by omega)).mono ?_; rintro e wh ⟨A1, c1, rfl, hs1, nh⟩) | (go_at_call 31; refine (CM.out _ _ _ hs1).mono ?_; rintro e wh ⟨M, A2, c2, hM, rfl, hs2, nh⟩; have CN := Lib.hid (CT.out M hM); have HM := Lib.hid hM; clear hM)); go_wp2_with fail) | skip); refine hK.out _ _ ?_ (fun hHeldN => ?_); (focus (exact hS _ (bl_step nh hHeld.2.2 (Below.size hHeld.2.2)))); clear hHeld hK K; have hHeld := hHeldN; clear hHeldN; (try simp only [Act.put, List.setIfInBounds_toArray, List.set_cons_zero, List.set_cons_succ]))
  (refine takeT (i := 4) (v := ?_) rfl ?_ (fun _ _ _ h => h) rfl hHeld ?_ ?_; rotate_left; (focus kernel_rfl); (focus (intro w hSw; (try dsimp only at hSw); go_simp; (try with_reducible rfl))); (try simp only [Act.put, List.setIfInBounds_toArray, List.set_cons_zero, List.set_cons_succ]))
  (refine takeT (i := 5) (v := ?_) rfl ?_ (fun _ _ _ h => h) rfl hHeld ?_ ?_; rotate_left; (focus kernel_rfl); (focus (intro w hSw; (try dsimp only at hSw); go_simp; (try with_reducible rfl))); (try simp only [Act.put, List.setIfInBounds_toArray, List.set_cons_zero, List.set_cons_succ]))
  (refine takeT (i := 6) (v := ?_) rfl ?_ (fun _ _ _ h => h) rfl hHeld ?_ ?_; rotate_left; (focus kernel_rfl); (focus (intro w hSw; (try dsimp only at hSw); go_simp; (try with_reducible rfl))); (try simp only [Act.put, List.setIfInBounds_toArray, List.set_cons_zero, List.set_cons_succ]))
  (refine takeT (i := 7) (v := ?_) rfl ?_ (fun _ _ _ h => h) rfl hHeld ?_ ?_; rotate_left; (focus kernel_rfl); (focus (intro w hSw; (try dsimp only at hSw); go_simp; (try with_reducible rfl))); (try simp only [Act.put, List.setIfInBounds_toArray, List.set_cons_zero, List.set_cons_succ]))
  (refine takeT (i := 8) (v := ?_) rfl ?_ (fun _ _ _ h => h) rfl hHeld ?_ ?_; rotate_left; (focus kernel_rfl); (focus (intro w hSw; (try dsimp only at hSw); go_simp; (try with_reducible rfl))); (try simp only [Act.put, List.setIfInBounds_toArray, List.set_cons_zero, List.set_cons_succ]))
  (refine wpAnyH_done (by kernel_rfl) ?_ _)
  have hb2 : Nx w wh := bl_step hHeld.2.2 hb0 hb0.size
  clear hS hHeld bV hs0 hb0 nh CM CT
  go_wp2_with fail
  refine (CN.out _ _ _ hs2).mono ?_
  rintro e w4 ⟨A4, c4, rfl, hs4, n4⟩
  go_wp2
  go_ret2
  exact ⟨M, A4, c4, HM.out, rfl, hs4, bl_step n4 hb2 hb2.size⟩
end Go.Proofs.Ytnmljgjcdofboaa
