/- FnExactRemoveLast: for all numbers, RemoveLast takes the end of the last range of the list that they tell away, or the whole last range; what is left, and its sum, are those below. No condition. -/
import Derived.Test.YtppdgbjalnbboaaRows
import Derived.Test.YtppdgbjalnbboaaRm
import Derived.ProofKit
import Derived.OpenShut
import Derived.ShutString
import Derived.ChangeOld
import Derived.Below
namespace Go.Proofs.Ytppdgbjalnbboaa.fnExactRemoveLast
open Go.ChangeShapes Go.WideShapes Go.ChangeAt Go.RowKit
set_option linter.unusedVariables false
theorem own : ownKnob Try.prog.godebug = none := by kernel_rfl
theorem laidOut : laidOutB Try.prog = true := by kernel_rfl

set_option maxHeartbeats 1000000 in
theorem walk (a0 : Option Addr) (len0 cap0 : Nat) (z0 : List Int) (a1 : Int) (w : World) (w0 : IsRow .u16 w a0 len0 cap0 z0) (w1 : (Lit.int .u64 a1).wf = true) :
    Calls Try.prog 3 #[.slice a0 len0 cap0, .int .u64 a1] w fun e w' => e = .returned (.bool true) ∧ Nx w w' := by
  have h1 := u64_lo w1
  have b1 : 0 ≤ a1 % 1099511627776 ∧ a1 % 1099511627776 < 1099511627776 := by omega
  by_cases hbig : 2147483647 < len0
  · go_enter Try.func3, Try.ntmps3
    go_wp2
    go_ret
    exact ⟨rfl, Below.refl _ _⟩
  · have hz16 := w0.z16
    have hlist := sList_any a0 len0 cap0 z0 w w0
    have hk : min len0 65536 / 2 ≤ 32768 := by omega
    have hn := Nat.le_trans (Nat.le_of_eq (genL_length z0 (min len0 65536 / 2))) hk
    have hL := genL_InB hz16 _ hk
    have hT := genL_td' hz16 (min len0 65536 / 2)
    have hL2 := Lib.hid (genL_inB hz16 _ hk)
    generalize genL z0 (min len0 65536 / 2) = L at hlist hn hL hT hL2
    clear hk hz16 w0
    by_cases h0 : L.length = 0
    · have hl0 : ((L.length : Int) == 0) = true := by rw [h0]; rfl
      clear h0
      go_enter Try.func3, Try.ntmps3
      go_wp2_with fail
      refine hlist.mono ?_
      rintro e w1 ⟨A, c, rfl, hs, n1⟩
      clear hlist
      go_wp2_with fail
      refine (sAddr_any _ _ (by omega)).mono ?_
      rintro e w9 ⟨rfl, rfl⟩
      go_wp2_with fail
      go_ret
      exact ⟨rfl, n1⟩
    · have hl0 : ((L.length : Int) == 0) = false := by rw [beq_eq_false_iff_ne]; omega
      obtain ⟨m, hm⟩ : ∃ m, L.length = m + 1 := ⟨L.length - 1, by omega⟩
      have hi : m < L.length := by omega
      have hr : L[m]? = some L[m] := List.getElem?_eq_getElem hi
      have hbd := hL.at hi
      have hne := hT.ne m hi
      have ewi : IntKind.i64.wrap ((L.length : Int) - 1) = (m : Int) := by rw [IntWalk.i64_in _ (by omega)]; omega
      have hmi : (0 : Int) ≤ m ∧ (m : Int) < L.length := by omega
      have ewn : IntKind.u64.wrap (1 + a1 % 1099511627776) = 1 + a1 % 1099511627776 := IntWalk.u64_in _ (by omega)
      have hcell := Lib.hid (fun W A c (hW : SlAt W A c L) => hW.at hi)
      generalize L[m] = r at hr hbd hne hcell
      have CI := Lib.hid (fun A c W h => iRemoveLast_any A c m L (1 + a1 % 1099511627776) _ W h hm hr (by omega) hL hT (by omega))
      have CB := Lib.hid (fun A c W (h : SlAt W A c L) => sBelow_any A c L (rlAt r (1 + a1 % 1099511627776)) W h (by omega))
      have hB := Nat.le_trans (belowL_len L (rlAt r (1 + a1 % 1099511627776))) hn
      have CS := Lib.hid (fun A A2 c c2 W h h2 => sSame_any A A2 c c2 (belowL L (rlAt r (1 + a1 % 1099511627776))) (belowL L (rlAt r (1 + a1 % 1099511627776))) W h h2 (by omega) (by omega))
      have CT := Lib.hid (fun A c W (h : SlAt W A c L) => sTotal_any A c L W h (by omega) hL)
      have htt := totL_below_last hT hL hm hr (n := 1 + a1 % 1099511627776) (by omega)
      have htb := totL_bd L hL
      have htb2 := totL_nonneg (belowL L (rlAt r (1 + a1 % 1099511627776)))
      have hat := rlAt_in (r := r) (n := 1 + a1 % 1099511627776) hne (by omega)
      have hsame : sameB (belowL L (rlAt r (1 + a1 % 1099511627776))) (belowL L (rlAt r (1 + a1 % 1099511627776))) = true := by simp [sameB]
      rw [hsame] at CS
      unfold RetRl at CI
      generalize hB' : belowL L (rlAt r (1 + a1 % 1099511627776)) = B at *
      generalize rlAt r (1 + a1 % 1099511627776) = at0 at *
      generalize totL B = tB at *
      generalize totL L = tL at *
      obtain ⟨n, hnn⟩ : ∃ n, 1 + a1 % 1099511627776 = n := ⟨_, rfl⟩
      rw [hnn] at CI hat
      have ewn2 : IntKind.u64.wrap n = n := by rw [← hnn]; exact ewn
      clear ewn
      obtain ⟨sz, hsz⟩ : ∃ sz, sz = r.2 - r.1 := ⟨_, rfl⟩
      replace hsz : sz ≤ r.2 - r.1 ∧ r.2 - r.1 ≤ sz := by omega
      have CZ := Lib.hid (fun W => sSize_any r.1 r.2 W (by omega) (by omega) (by omega) (by omega))
      rw [show szI r.1 r.2 = sz by unfold szI; split <;> omega] at CZ
      have CZ2 := Lib.hid (fun W => sSize_any at0 r.2 W (by omega) (by omega) (by omega) (by omega))
      rw [show szI at0 r.2 = r.2 - at0 by unfold szI; split <;> omega] at CZ2
      have ewt : IntKind.u64.wrap (tL - (r.2 - at0)) = tB := by rw [htt]; exact IntWalk.u64_in _ (by omega)
      have htt2 : (tB == tB) = true := by simp
      have hv1 : (at0 == at0) = true := by simp
      have hv2 : (r.2 == r.2) = true := by simp
      obtain ⟨mn, hmn⟩ : ∃ mn, (if sz < n then sz else n) = mn := ⟨_, rfl⟩
      have ewa : IntKind.u64.wrap (r.2 - mn) = at0 := by
        rw [← hmn]
        rcases hat.2.2 with ⟨e1, e2⟩ | ⟨e1, e2⟩ <;> split <;> rw [IntWalk.u64_in _ (by omega)] <;> omega
      clear hm hr hB' hsame h0 htt htb htb2 hat hT hL2
      go_enter Try.func3, Try.ntmps3
      go_wp2_with fail
      refine hlist.mono ?_
      rintro e w1 ⟨A, c, rfl, hs, n1⟩
      clear hlist
      go_wp2_with fail
      refine (sAddr_any _ _ (by omega)).mono ?_
      rintro e w9 ⟨rfl, rfl⟩
      go_wp2_with fail
      refine (CI.out _ _ _ hs).mono ?_
      rintro e w2 ⟨A2, c2, rfl, hs2, n2⟩
      have hsw := hs.nx n2
      have hb2 := bl_step n2 n1 n1.size
      clear hs n1 n2 CI
      have bV := Bk.new w2 #[.int .u64 at0, .int .u64 r.2] 28
      have hb3 : Nx w (w2.alloc (.cells #[.int .u64 at0, .int .u64 r.2] 28)) := hb2.alloc hb2.size _
      replace hs2 := hs2.alloc (.cells #[.int .u64 at0, .int .u64 r.2] 28)
      replace hsw := hsw.alloc (.cells #[.int .u64 at0, .int .u64 r.2] 28)
      obtain ⟨g, rfl, hg, hc0, hc1⟩ := hcell.out _ _ _ hsw
      go_upto_region 7 with fail
      generalize w2.alloc (.cells #[.int .u64 at0, .int .u64 r.2] 28) = U at bV hb3 hs2 hsw hc0 hc1 hg ⊢
      have bL := Bk.new U #[.int .u64 r.1, .int .u64 r.2] 28
      replace bV := bV.alloc (.cells #[.int .u64 r.1, .int .u64 r.2] 28)
      replace hs2 := hs2.alloc (.cells #[.int .u64 r.1, .int .u64 r.2] 28)
      replace hsw := hsw.alloc (.cells #[.int .u64 r.1, .int .u64 r.2] 28)
      have hb4 : Nx w (U.alloc (.cells #[.int .u64 r.1, .int .u64 r.2] 28)) := hb3.alloc hb3.size _
      go_upto_region 8 with fail
      generalize U.alloc (.cells #[.int .u64 r.1, .int .u64 r.2] 28) = U2 at bV bL hb4 hs2 hsw ⊢
      have hS : ∀ w', Nx U2 w' → w'.cell? ⟨U.heap.size, 0, none⟩ = some (.int .u64 r.1) ∧ w'.cell? ⟨U.heap.size, 1, none⟩ = some (.int .u64 r.2) ∧ Nx U2 w' := fun w' k => ⟨(bL.nx k).cell 0, (bL.nx k).cell 1, k⟩
      clear hb3 hc0 hc1 hg hcell
      refine wp_region_held_drew (S := fun w' => w'.cell? ⟨U.heap.size, 0, none⟩ = some (.int .u64 r.1) ∧ w'.cell? ⟨U.heap.size, 1, none⟩ = some (.int .u64 r.2) ∧ Nx U2 w') (by kernel_rfl) ?_ (fun hHeld => ?_)
      focus (exact hS _ ((Below.refl _ _).drew))
      (refine takeT (i := 0) (v := ?_) rfl ?_ (fun _ _ _ h => h) rfl hHeld ?_ ?_; rotate_left; (focus kernel_rfl); (focus (intro w hSw; (try dsimp only at hSw); go_simp; (try with_reducible rfl))); (try simp only [Act.put, List.setIfInBounds_toArray, List.set_cons_zero, List.set_cons_succ]))
      (refine takeT (i := 1) (v := ?_) rfl ?_ (fun _ _ _ h => h) rfl hHeld ?_ ?_; rotate_left; (focus kernel_rfl); (focus (intro w hSw; (try dsimp only at hSw); go_simp; (try with_reducible rfl))); (try simp only [Act.put, List.setIfInBounds_toArray, List.set_cons_zero, List.set_cons_succ]))
      (refine takeT (i := 2) (v := ?_) rfl ?_ (fun _ _ _ h => h) rfl hHeld ?_ ?_; rotate_left; (focus kernel_rfl); (focus (intro w hSw; (try dsimp only at hSw); go_simp; (try with_reducible rfl))); (try simp only [Act.put, List.setIfInBounds_toArray, List.set_cons_zero, List.set_cons_succ]))
      (refine takeT (i := 3) (v := ?_) rfl ?_ (fun _ _ _ h => h) rfl hHeld ?_ ?_; rotate_left; (focus kernel_rfl); (focus (intro w hSw; (try dsimp only at hSw); go_simp; (try with_reducible rfl))); (try simp only [Act.put, List.setIfInBounds_toArray, List.set_cons_zero, List.set_cons_succ]))
      (refine doOne (i := 4) rfl ?_ (fun K hK => ?_); (focus kernel_rfl))
      ((first | fail | go_simp); (first | ((first | first | (go_at_call 14; refine (CZ.out _).mono ?_; rintro e wh ⟨rfl, nh⟩)); go_wp2_with fail) | skip); refine hK.out _ _ ?_ (fun hHeldN => ?_); (focus (first | (exact hS _ (bl_step nh hHeld.2.2 (Below.size hHeld.2.2))) | (exact hHeld))); clear hHeld hK K; have hHeld := hHeldN; clear hHeldN; (try simp only [Act.put, List.setIfInBounds_toArray, List.set_cons_zero, List.set_cons_succ]))
      (refine doOne (i := 5) rfl ?_ (fun K hK => ?_); (focus kernel_rfl))
      ((first | fail | go_simp); (first | ((first | first | (go_at_call 14; refine (CZ.out _).mono ?_; rintro e wh ⟨rfl, nh⟩)); go_wp2_with fail) | skip); refine hK.out _ _ ?_ (fun hHeldN => ?_); (focus (first | (exact hS _ (bl_step nh hHeld.2.2 (Below.size hHeld.2.2))) | (exact hHeld))); clear hHeld hK K; have hHeld := hHeldN; clear hHeldN; (try simp only [Act.put, List.setIfInBounds_toArray, List.set_cons_zero, List.set_cons_succ]))
      (refine takeT (i := 6) (v := ?_) rfl ?_ (fun _ _ _ h => h) rfl hHeld ?_ ?_; rotate_left; (focus kernel_rfl); (focus (intro w hSw; (try dsimp only at hSw); go_simp; (try with_reducible rfl))); (try simp only [Act.put, List.setIfInBounds_toArray, List.set_cons_zero, List.set_cons_succ]))
      (refine takeT (i := 7) (v := ?_) rfl ?_ (fun _ _ _ h => h) rfl hHeld ?_ ?_; rotate_left; (focus kernel_rfl); (focus (intro w hSw; (try dsimp only at hSw); go_simp; (try with_reducible rfl))); (try simp only [Act.put, List.setIfInBounds_toArray, List.set_cons_zero, List.set_cons_succ]))
      (refine wpAnyH_done (by kernel_rfl) ?_ _)
      have kk := hHeld.2.2
      replace bV := bV.nx kk
      replace bL := bL.nx kk
      replace hs2 := hs2.nx kk
      replace hsw := hsw.nx kk
      replace hb4 := bl_step kk hb4 hb4.size
      clear hS kk hHeld nh
      have hS : ∀ w', Nx wh w' → w'.cell? ⟨w2.heap.size, 0, none⟩ = some (.int .u64 at0) ∧ w'.cell? ⟨w2.heap.size, 1, none⟩ = some (.int .u64 r.2) ∧ w'.cell? ⟨U.heap.size, 1, none⟩ = some (.int .u64 r.2) ∧ Nx wh w' := fun w' k => ⟨(bV.nx k).cell 0, (bV.nx k).cell 1, (bL.nx k).cell 1, k⟩
      go_upto_region 9 with fail
      generalize hU3 : wh = U3 at *
      clear hU3
      refine wp_region_held_drew (S := fun w' => w'.cell? ⟨w2.heap.size, 0, none⟩ = some (.int .u64 at0) ∧ w'.cell? ⟨w2.heap.size, 1, none⟩ = some (.int .u64 r.2) ∧ w'.cell? ⟨U.heap.size, 1, none⟩ = some (.int .u64 r.2) ∧ Nx U3 w') (by kernel_rfl) ?_ (fun hHeld => ?_)
      focus (exact hS _ ((Below.refl _ _).drew))
      (refine takeT (i := 0) (v := ?_) rfl ?_ (fun _ _ _ h => h) rfl hHeld ?_ ?_; rotate_left; (focus kernel_rfl); (focus (intro w hSw; (try dsimp only at hSw); go_simp; (try with_reducible rfl))); (try simp only [Act.put, List.setIfInBounds_toArray, List.set_cons_zero, List.set_cons_succ]))
      (refine takeT (i := 1) (v := ?_) rfl ?_ (fun _ _ _ h => h) rfl hHeld ?_ ?_; rotate_left; (focus kernel_rfl); (focus (intro w hSw; (try dsimp only at hSw); go_simp; (try with_reducible rfl))); (try simp only [Act.put, List.setIfInBounds_toArray, List.set_cons_zero, List.set_cons_succ]))
      (refine takeT (i := 2) (v := ?_) rfl ?_ (fun _ _ _ h => h) rfl hHeld ?_ ?_; rotate_left; (focus kernel_rfl); (focus (intro w hSw; (try dsimp only at hSw); go_simp; (try with_reducible rfl))); (try simp only [Act.put, List.setIfInBounds_toArray, List.set_cons_zero, List.set_cons_succ]))
      (refine takeT (i := 3) (v := ?_) rfl ?_ (fun _ _ _ h => h) rfl hHeld ?_ ?_; rotate_left; (focus kernel_rfl); (focus (intro w hSw; (try dsimp only at hSw); go_simp; (try with_reducible rfl))); (try simp only [Act.put, List.setIfInBounds_toArray, List.set_cons_zero, List.set_cons_succ]))
      (refine takeT (i := 4) (v := ?_) rfl ?_ (fun _ _ _ h => h) rfl hHeld ?_ ?_; rotate_left; (focus kernel_rfl); (focus (intro w hSw; (try dsimp only at hSw); go_simp; (try with_reducible rfl))); (try simp only [Act.put, List.setIfInBounds_toArray, List.set_cons_zero, List.set_cons_succ]))
      (refine takeT (i := 5) (v := ?_) rfl ?_ (fun _ _ _ h => h) rfl hHeld ?_ ?_; rotate_left; (focus kernel_rfl); (focus (intro w hSw; (try dsimp only at hSw); go_simp; (try with_reducible rfl))); (try simp only [Act.put, List.setIfInBounds_toArray, List.set_cons_zero, List.set_cons_succ]))
      (refine takeT (i := 6) (v := ?_) rfl ?_ (fun _ _ _ h => h) rfl hHeld ?_ ?_; rotate_left; (focus kernel_rfl); (focus (intro w hSw; (try dsimp only at hSw); go_simp; (try with_reducible rfl))); (try simp only [Act.put, List.setIfInBounds_toArray, List.set_cons_zero, List.set_cons_succ]))
      (refine takeT (i := 7) (v := ?_) rfl ?_ (fun _ _ _ h => h) rfl hHeld ?_ ?_; rotate_left; (focus kernel_rfl); (focus (intro w hSw; (try dsimp only at hSw); go_simp; (try with_reducible rfl))); (try simp only [Act.put, List.setIfInBounds_toArray, List.set_cons_zero, List.set_cons_succ]))
      (refine takeT (i := 8) (v := ?_) rfl ?_ (fun _ _ _ h => h) rfl hHeld ?_ ?_; rotate_left; (focus kernel_rfl); (focus (intro w hSw; (try dsimp only at hSw); go_simp; (try with_reducible rfl))); (try simp only [Act.put, List.setIfInBounds_toArray, List.set_cons_zero, List.set_cons_succ]))
      (refine takeT (i := 9) (v := ?_) rfl ?_ (fun _ _ _ h => h) rfl hHeld ?_ ?_; rotate_left; (focus kernel_rfl); (focus (intro w hSw; (try dsimp only at hSw); go_simp; (try with_reducible rfl))); (try simp only [Act.put, List.setIfInBounds_toArray, List.set_cons_zero, List.set_cons_succ]))
      (refine doOne (i := 10) rfl ?_ (fun K hK => ?_); (focus kernel_rfl))
      ((first | fail | go_simp); (first | ((first | first | (go_at_call 16; refine (CB.out _ _ _ (hsw.nx hHeld.2.2.2)).mono ?_; rintro e wh ⟨A5, c5, rfl, hs5, nh⟩) | (go_at_call 15; refine (CS.out _ _ _ _ _ (hs2.nx hHeld.2.2.2) hs5).mono ?_; rintro e wh ⟨rfl, nh⟩) | (go_at_call 17; refine (CT.out _ _ _ (hsw.nx hHeld.2.2.2)).mono ?_; rintro e wh ⟨rfl, nh⟩) | (go_at_call 14; refine (CZ2.out _).mono ?_; rintro e wh ⟨rfl, nh⟩)); go_wp2_with fail) | skip); refine hK.out _ _ ?_ (fun hHeldN => ?_); (focus (exact hS _ (bl_step nh hHeld.2.2.2 (Below.size hHeld.2.2.2)))); clear hHeld hK K; have hHeld := hHeldN; clear hHeldN; (try simp only [Act.put, List.setIfInBounds_toArray, List.set_cons_zero, List.set_cons_succ]))
      (refine doOne (i := 11) rfl ?_ (fun K hK => ?_); (focus kernel_rfl))
      ((first | fail | go_simp); (first | ((first | first | (go_at_call 16; refine (CB.out _ _ _ (hsw.nx hHeld.2.2.2)).mono ?_; rintro e wh ⟨A5, c5, rfl, hs5, nh⟩) | (go_at_call 15; refine (CS.out _ _ _ _ _ (hs2.nx hHeld.2.2.2) hs5).mono ?_; rintro e wh ⟨rfl, nh⟩) | (go_at_call 17; refine (CT.out _ _ _ (hsw.nx hHeld.2.2.2)).mono ?_; rintro e wh ⟨rfl, nh⟩) | (go_at_call 14; refine (CZ2.out _).mono ?_; rintro e wh ⟨rfl, nh⟩)); go_wp2_with fail) | skip); refine hK.out _ _ ?_ (fun hHeldN => ?_); (focus (exact hS _ (bl_step nh hHeld.2.2.2 (Below.size hHeld.2.2.2)))); clear hHeld hK K; have hHeld := hHeldN; clear hHeldN; (try simp only [Act.put, List.setIfInBounds_toArray, List.set_cons_zero, List.set_cons_succ]))
      (refine takeT (i := 12) (v := ?_) rfl ?_ (fun _ _ _ h => h) rfl hHeld ?_ ?_; rotate_left; (focus kernel_rfl); (focus (intro w hSw; (try dsimp only at hSw); go_simp; (try with_reducible rfl))); (try simp only [Act.put, List.setIfInBounds_toArray, List.set_cons_zero, List.set_cons_succ]))
      (refine takeT (i := 13) (v := ?_) rfl ?_ (fun _ _ _ h => h) rfl hHeld ?_ ?_; rotate_left; (focus kernel_rfl); (focus (intro w hSw; (try dsimp only at hSw); go_simp; (try with_reducible rfl))); (try simp only [Act.put, List.setIfInBounds_toArray, List.set_cons_zero, List.set_cons_succ]))
      (refine takeT (i := 14) (v := ?_) rfl ?_ (fun _ _ _ h => h) rfl hHeld ?_ ?_; rotate_left; (focus kernel_rfl); (focus (intro w hSw; (try dsimp only at hSw); go_simp; (try with_reducible rfl))); (try simp only [Act.put, List.setIfInBounds_toArray, List.set_cons_zero, List.set_cons_succ]))
      (refine takeT (i := 15) (v := ?_) rfl ?_ (fun _ _ _ h => h) rfl hHeld ?_ ?_; rotate_left; (focus kernel_rfl); (focus (intro w hSw; (try dsimp only at hSw); go_simp; (try with_reducible rfl))); (try simp only [Act.put, List.setIfInBounds_toArray, List.set_cons_zero, List.set_cons_succ]))
      (refine takeT (i := 17) (v := ?_) rfl ?_ (fun _ _ _ h => h) rfl hHeld ?_ ?_; rotate_left; (focus kernel_rfl); (focus (intro w hSw; (try dsimp only at hSw); go_simp; (try with_reducible rfl))); (try simp only [Act.put, List.setIfInBounds_toArray, List.set_cons_zero, List.set_cons_succ]))
      (refine doOne (i := 16) rfl ?_ (fun K hK => ?_); (focus kernel_rfl))
      ((first | fail | go_simp); (first | ((first | first | (go_at_call 16; refine (CB.out _ _ _ (hsw.nx hHeld.2.2.2)).mono ?_; rintro e wh ⟨A5, c5, rfl, hs5, nh⟩) | (go_at_call 15; refine (CS.out _ _ _ _ _ (hs2.nx hHeld.2.2.2) hs5).mono ?_; rintro e wh ⟨rfl, nh⟩) | (go_at_call 17; refine (CT.out _ _ _ (hsw.nx hHeld.2.2.2)).mono ?_; rintro e wh ⟨rfl, nh⟩) | (go_at_call 14; refine (CZ2.out _).mono ?_; rintro e wh ⟨rfl, nh⟩)); go_wp2_with fail) | skip); refine hK.out _ _ ?_ (fun hHeldN => ?_); (focus (exact hS _ (bl_step nh hHeld.2.2.2 (Below.size hHeld.2.2.2)))); clear hHeld hK K; have hHeld := hHeldN; clear hHeldN; (try simp only [Act.put, List.setIfInBounds_toArray, List.set_cons_zero, List.set_cons_succ]))
      (refine doOne (i := 18) rfl ?_ (fun K hK => ?_); (focus kernel_rfl))
      ((first | fail | go_simp); (first | ((first | first | (go_at_call 16; refine (CB.out _ _ _ (hsw.nx hHeld.2.2.2)).mono ?_; rintro e wh ⟨A5, c5, rfl, hs5, nh⟩) | (go_at_call 15; refine (CS.out _ _ _ _ _ (hs2.nx hHeld.2.2.2) hs5).mono ?_; rintro e wh ⟨rfl, nh⟩) | (go_at_call 17; refine (CT.out _ _ _ (hsw.nx hHeld.2.2.2)).mono ?_; rintro e wh ⟨rfl, nh⟩) | (go_at_call 14; refine (CZ2.out _).mono ?_; rintro e wh ⟨rfl, nh⟩)); go_wp2_with fail) | skip); refine hK.out _ _ ?_ (fun hHeldN => ?_); (focus (exact hS _ (bl_step nh hHeld.2.2.2 (Below.size hHeld.2.2.2)))); clear hHeld hK K; have hHeld := hHeldN; clear hHeldN; (try simp only [Act.put, List.setIfInBounds_toArray, List.set_cons_zero, List.set_cons_succ]))
      (refine takeT (i := 19) (v := ?_) rfl ?_ (fun _ _ _ h => h) rfl hHeld ?_ ?_; rotate_left; (focus kernel_rfl); (focus (intro w hSw; (try dsimp only at hSw); go_simp; (try with_reducible rfl))); (try simp only [Act.put, List.setIfInBounds_toArray, List.set_cons_zero, List.set_cons_succ]))
      (refine takeT (i := 20) (v := ?_) rfl ?_ (fun _ _ _ h => h) rfl hHeld ?_ ?_; rotate_left; (focus kernel_rfl); (focus (intro w hSw; (try dsimp only at hSw); go_simp; (try with_reducible rfl))); (try simp only [Act.put, List.setIfInBounds_toArray, List.set_cons_zero, List.set_cons_succ]))
      (refine takeT (i := 21) (v := ?_) rfl ?_ (fun _ _ _ h => h) rfl hHeld ?_ ?_; rotate_left; (focus kernel_rfl); (focus (intro w hSw; (try dsimp only at hSw); go_simp; (try with_reducible rfl))); (try simp only [Act.put, List.setIfInBounds_toArray, List.set_cons_zero, List.set_cons_succ]))
      (refine takeT (i := 22) (v := ?_) rfl ?_ (fun _ _ _ h => h) rfl hHeld ?_ ?_; rotate_left; (focus kernel_rfl); (focus (intro w hSw; (try dsimp only at hSw); go_simp; (try with_reducible rfl))); (try simp only [Act.put, List.setIfInBounds_toArray, List.set_cons_zero, List.set_cons_succ]))
      (refine wpAnyH_done (by kernel_rfl) ?_ _)
      go_wp2
      go_ret
      exact ⟨rfl, bl_step hHeld.2.2.2 hb4 hb4.size⟩

set_option maxRecDepth 100000 in
theorem lifted (os : Os) (started : os.Started) (H : Type) (enc : TypeId × Value → H) :
    ReturnsInHanded {} Try.checked os 3 .any (Rows.fnExactRemoveLastSpec.pre6 enc Try.prog Try.f3 Rows.fnExactRemoveLastRow.domain false) (Rows.fnExactRemoveLastSpec.post enc Try.prog Try.f3 false true false false) := by
  refine returnsInHanded_of_change (C := Try.checked) own started (by kernel_rfl) Try.func3
    (ChangeSpec.witness6 (enc := enc) (C := Try.checked) false ⟨#[], #[.slice none 0 0, .int .u64 0], []⟩ 8 (by kernel_rfl) (by kernel_rfl) (by kernel_rfl) (by kernel_rfl)) ?_
  intro W base args ds gs before hval0 hW hcnd _
  have hval : ∀ (j : Nat) t v, Try.f3.params[j]? = some t → args[j]? = some v → Value.okWide Try.prog W .any base t v := hval0
  have hW' := hW
  obtain ⟨p, q, hA0, hV, rfl, hfz, hnd⟩ := hW
  have hA : DataW.TrodAll enc Try.prog W 0 (fun _ => true) true Try.f3.params.toList args.toList ds p := hA0
  rw [Try.params3] at hA hval
  obtain ⟨v0, vs0, d0, ds0, p0, q0, hargs, rfl, rfl, h0, r0⟩ := trodAll_cons hA
  obtain ⟨v1, vs1, d1, ds1, p1, q1, rfl, rfl, rfl, h1, r1⟩ := trodAll_cons r0
  obtain ⟨rfl, rfl, rfl⟩ := trodAll_nil r1
  obtain rfl : args = #[v0, v1] := by cases args; simp_all
  obtain ⟨rfl, rfl⟩ := trodVars_none hV
  obtain ⟨a0, len0, cap0, rfl⟩ := okWide_slice Try.underlying22 (hval 0 22 v0 rfl rfl)
  have k0 := h0
  have lt0 : ∀ x ∈ p0, x.block < W.heap.size := by obtain ⟨m, hm⟩ := k0; exact DataW.trod_lt m _ _ _ hm
  obtain ⟨z0, w0⟩ : ∃ zs, IsRow .u16 W a0 len0 cap0 zs := by
    obtain ⟨fuel, hf⟩ := h0
    rcases open_ints Try.underlying22 Try.underlying44 (by kernel_rfl) hf with ⟨hcs, _⟩ | ⟨x, l, c, zs, hcs, _, hl, hm, hz, _, hcell, hwz⟩
    · simp [Value.cells] at hcs
      obtain ⟨rfl, rfl, rfl⟩ := hcs
      exact ⟨[], .inl ⟨rfl, rfl, rfl, rfl⟩⟩
    · simp [Value.cells] at hcs
      obtain ⟨rfl, rfl, rfl⟩ := hcs
      exact ⟨zs, .inr ⟨_, rfl, hl, hm, by simpa using hz, hcell, hwz⟩⟩
  obtain ⟨a1, rfl, rfl, rfl, w1⟩ := open_int Try.underlying23 (hval 1 23 v1 rfl rfl) h1
  clear hA0 hval0
  refine (walk a0 len0 cap0 z0 a1 W w0 w1).mono fun e W' ⟨he, bel⟩ => ?_
  subst he
  exact ⟨_, rfl, _, _, _, [], _, [], hW', trodAll_mk1 (shut_bool Try.underlying4 _), (trodAll_cons_mk (Below.trod laidOut (by kernel_rfl) (of_decide_eq_true (by kernel_rfl)) k0 bel lt0) (trodAll_cons_mk (shut_int Try.underlying23 w1) trodAll_mk0)), rfl, Below.frame bel _, fun h => by cases h⟩
theorem over : Rows.fnExactRemoveLastRow.holds Try.pinned (OpenSpec.ofChange Rows.fnExactRemoveLastSpec) :=
  OpenClaim.holds_of_wide 3 Try.f3 rfl rfl rfl rfl rfl rfl rfl ⟨rfl, rfl, rfl, rfl, rfl⟩ rfl rfl rfl rfl rfl (by kernel_rfl) Try.func3 (by kernel_rfl)
    (of_decide_eq_true (by kernel_rfl)) (by unfold Func.isWrapper; first | (rw [if_pos (by decide +kernel)]; kernel_rfl) | (rw [if_neg (by decide +kernel)]; exact ⟨rfl, rfl⟩))
    (fun os started H enc _ => lifted os started H enc)
theorem proved : Rows.FnExactRemoveLastSaid := over
#print axioms proved
end Go.Proofs.Ytppdgbjalnbboaa.fnExactRemoveLast
