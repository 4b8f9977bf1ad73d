/- FnCutAdd: for all numbers, what was cut from the list that they tell, added again range by range, makes the list, with its sum. No condition. -/
import Derived.Test.YtnmljgjcdofboaaRows
import Derived.Test.YtnmljgjcdofboaaCv
import Derived.Test.YtnmljgjcdofboaaTm
import Derived.ProofKit
import Derived.OpenShut
import Derived.ShutString
import Derived.ChangeOld
import Derived.Below
namespace Go.Proofs.Ytnmljgjcdofboaa.fnCutAdd
open Go.ChangeShapes Go.WideShapes Go.ChangeAt Go.RowKit
set_option linter.unusedVariables false
set_option linter.unusedSimpArgs false
theorem own : ownKnob Try.prog.godebug = none := by kernel_rfl
theorem laidOut : laidOutB Try.prog = true := by kernel_rfl

set_option maxHeartbeats 2000000 in
theorem walk (a0 : Option Addr) (len0 cap0 : Nat) (z0 : List Int) (a1 : Int) (w : World) (w0 : IsRow .u16 w a0 len0 cap0 z0) (w1 : (Lit.int .u64 a1).wf = true) :
    Calls Try.prog 5 #[.slice a0 len0 cap0, .int .u64 a1] w fun e w' => e = .returned (.bool true) ∧ Nx w w' := by
  have h1 := u64_lo w1
  have b1 : 0 ≤ a1 % 1099511627776 ∧ a1 % 1099511627776 < 1099511627776 := by omega
  by_cases hbig : 2147483647 < len0
  · go_enter Try.func5, Try.ntmps5
    go_wp2
    go_ret
    exact ⟨rfl, Below.refl _ _⟩
  · have hz16 := w0.z16
    have hlist := sList_any a0 len0 cap0 z0 w w0
    have hk : min len0 65536 / 2 ≤ 32768 := by omega
    have hn := Nat.le_trans (Nat.le_of_eq (genL_length z0 (min len0 65536 / 2))) hk
    have hL := genL_InB hz16 _ hk
    have hT := genL_td' hz16 (min len0 65536 / 2)
    have hL2 := Lib.hid (genL_inB hz16 _ hk)
    generalize genL z0 (min len0 65536 / 2) = L at hlist hn hL hT hL2
    clear hk hz16 w0
    generalize hX : a1 % 1099511627776 = x at b1
    have CI := Lib.hid (fun A c W h => iCutFrom_any A c L x W h (by omega) hL hT (by omega) (by omega))
    have CA := Lib.hid (fun (M : List R) (k : Nat) (a : Int) (h : CutK L x k M) (hk : k < L.length) hxk ha => cutAddStep (a := a) h hn hL hT hk hxk ha (by omega))
    have CK := Lib.hid (fun (M : List R) (k : Nat) (h : CutK L x k M) (hk : k < L.length) hxk => h.skip hT hk hxk)
    have CF := Lib.hid (fun (M : List R) (h : CutK L x L.length M) => h.fin hT)
    have C0 := Lib.hid (cutK_start hL hT x)
    have CS := Lib.hid (fun A A2 c c2 W h h2 => sSame_any A A2 c c2 L L W h h2 (by omega) (by omega))
    rw [show sameB L L = true by simp [sameB]] at CS
    have CT := Lib.hid (fun A c W h => sTotal_any A c L W h (by omega) hL)
    unfold RetLS at CI
    generalize belowL L x = B at CI C0
    clear hL hT hL2
    go_enter Try.func5, Try.ntmps5
    go_wp2_with fail
    refine hlist.mono ?_
    rintro e w1 ⟨A, c, rfl, hs, n1⟩
    clear hlist
    go_wp2_with fail
    refine (sAddr_any _ _ (by omega)).mono ?_
    rintro e w9 ⟨rfl, rfl⟩
    rw [hX]
    clear hX
    go_wp2_with fail
    refine (CI.out _ _ _ hs).mono ?_
    rintro e w2 ⟨A2, c2, rfl, hs2, n2⟩
    have hsw := hs.nx n2
    have hb2 : Nx w w2 := bl_step n2 n1 n1.size
    clear n1 n2 hs CI
    go_wp2_with fail
    go_loopg [7, 8, 9] L.length (fun gn s t v wr => ∃ (k : Nat) (P : List R) (A' : Option Addr) (c' : Nat), k ≤ L.length ∧ L.length - k ≤ gn ∧ v = .int .i64 k ∧ s = .slice A' P.length c' ∧ t = .int .u64 (totL P) ∧ Hid (CutK L x k P) ∧ SlAt wr A' c' P ∧ Nx w2 wr)
    case atStart => exact ⟨0, B, A2, c2, by omega, by omega, rfl, rfl, rfl, C0.out, hs2, Below.refl _ _⟩
    case round =>
      obtain ⟨k, P, A', c', hk, hg, rfl, rfl, rfl, hP, hsP, hb⟩ := hrel
      have hsL := hsw.nx hb
      by_cases hlt : k < L.length
      · obtain ⟨g, rfl, hgL, c0, c1⟩ := hsL.at hlt
        have CAk := Lib.hid (CA.out P k)
        have CKk := Lib.hid (CK.out P k hP.out hlt)
        by_cases hx2 : x < (L[k]).2
        · by_cases hx1 : (L[k]).1 < x
          · have CAx := Lib.hid (CAk.out x hP.out hlt hx2 (.inr ⟨hx1, rfl⟩))
            clear CAk CKk CA CK
            generalize L[k] = r at c0 c1 CAx hx1 hx2
            have hS : ∀ w', Nx wr w' → w'.cell? ⟨g, k * 2, none⟩ = some (.int .u64 r.1) ∧ w'.cell? ⟨g, k * 2 + 1, none⟩ = some (.int .u64 r.2) ∧ Nx wr w' := fun w' q => ⟨(Below.cell q (p := ⟨g, k * 2, none⟩) (World.block_lt_of_cell? wr _ c0)).trans c0, (Below.cell q (p := ⟨g, k * 2 + 1, none⟩) (World.block_lt_of_cell? wr _ c1)).trans c1, q⟩
            have hki : (0 : Int) ≤ k ∧ (k : Int) < L.length := by omega
            go_upto_region 9 with fail
            refine wp_region_held_drew (S := fun w' => w'.cell? ⟨g, k * 2, none⟩ = some (.int .u64 r.1) ∧ w'.cell? ⟨g, k * 2 + 1, none⟩ = some (.int .u64 r.2) ∧ Nx wr w') (by kernel_rfl) ?_ (fun hHeld => ?_)
            focus (exact hS _ ((Below.refl _ _).drew))
            (refine takeT (i := 0) (v := ?_) rfl ?_ (fun _ _ _ h => h) rfl hHeld ?_ ?_; rotate_left; (focus kernel_rfl); (focus (intro w hSw; (try dsimp only at hSw); go_simp; (try with_reducible rfl))); (try simp only [Act.put, List.setIfInBounds_toArray, List.set_cons_zero, List.set_cons_succ]))
            (refine takeT (i := 1) (v := ?_) rfl ?_ (fun _ _ _ h => h) rfl hHeld ?_ ?_; rotate_left; (focus kernel_rfl); (focus (intro w hSw; (try dsimp only at hSw); go_simp; (try with_reducible rfl))); (try simp only [Act.put, List.setIfInBounds_toArray, List.set_cons_zero, List.set_cons_succ]))
            (refine takeT (i := 2) (v := ?_) rfl ?_ (fun _ _ _ h => h) rfl hHeld ?_ ?_; rotate_left; (focus kernel_rfl); (focus (intro w hSw; (try dsimp only at hSw); go_simp; (try with_reducible rfl))); (try simp only [Act.put, List.setIfInBounds_toArray, List.set_cons_zero, List.set_cons_succ]))
            (refine takeT (i := 3) (v := ?_) rfl ?_ (fun _ _ _ h => h) rfl hHeld ?_ ?_; rotate_left; (focus kernel_rfl); (focus (intro w hSw; (try dsimp only at hSw); go_simp; (try with_reducible rfl))); (try simp only [Act.put, List.setIfInBounds_toArray, List.set_cons_zero, List.set_cons_succ]))
            (refine takeT (i := 4) (v := ?_) rfl ?_ (fun _ _ _ h => h) rfl hHeld ?_ ?_; rotate_left; (focus kernel_rfl); (focus (intro w hSw; (try dsimp only at hSw); go_simp; (try with_reducible rfl))); (try simp only [Act.put, List.setIfInBounds_toArray, List.set_cons_zero, List.set_cons_succ]))
            (refine takeT (i := 5) (v := ?_) rfl ?_ (fun _ _ _ h => h) rfl hHeld ?_ ?_; rotate_left; (focus kernel_rfl); (focus (intro w hSw; (try dsimp only at hSw); go_simp; (try with_reducible rfl))); (try simp only [Act.put, List.setIfInBounds_toArray, List.set_cons_zero, List.set_cons_succ]))
            (refine takeT (i := 6) (v := ?_) rfl ?_ (fun _ _ _ h => h) rfl hHeld ?_ ?_; rotate_left; (focus kernel_rfl); (focus (intro w hSw; (try dsimp only at hSw); go_simp; (try with_reducible rfl))); (try simp only [Act.put, List.setIfInBounds_toArray, List.set_cons_zero, List.set_cons_succ]))
            (refine takeT (i := 8) (v := ?_) rfl ?_ (fun _ _ _ h => h) rfl hHeld ?_ ?_; rotate_left; (focus kernel_rfl); (focus (intro w hSw; (try dsimp only at hSw); go_simp; (try with_reducible rfl))); (try simp only [Act.put, List.setIfInBounds_toArray, List.set_cons_zero, List.set_cons_succ]))
            (refine takeT (i := 9) (v := ?_) rfl ?_ (fun _ _ _ h => h) rfl hHeld ?_ ?_; rotate_left; (focus kernel_rfl); (focus (intro w hSw; (try dsimp only at hSw); go_simp; (try with_reducible rfl))); (try simp only [Act.put, List.setIfInBounds_toArray, List.set_cons_zero, List.set_cons_succ]))
            (refine takeT (i := 10) (v := ?_) rfl ?_ (fun _ _ _ h => h) rfl hHeld ?_ ?_; rotate_left; (focus kernel_rfl); (focus (intro w hSw; (try dsimp only at hSw); go_simp; (try with_reducible rfl))); (try simp only [Act.put, List.setIfInBounds_toArray, List.set_cons_zero, List.set_cons_succ]))
            (refine takeT (i := 11) (v := ?_) rfl ?_ (fun _ _ _ h => h) rfl hHeld ?_ ?_; rotate_left; (focus kernel_rfl); (focus (intro w hSw; (try dsimp only at hSw); go_simp; (try with_reducible rfl))); (try simp only [Act.put, List.setIfInBounds_toArray, List.set_cons_zero, List.set_cons_succ]))
            (refine takeT (i := 12) (v := ?_) rfl ?_ (fun _ _ _ h => h) rfl hHeld ?_ ?_; rotate_left; (focus kernel_rfl); (focus (intro w hSw; (try dsimp only at hSw); go_simp; (try with_reducible rfl))); (try simp only [Act.put, List.setIfInBounds_toArray, List.set_cons_zero, List.set_cons_succ]))
            (refine doOne (i := 7) rfl ?_ (fun K hK => ?_); (focus kernel_rfl))
            ((first | fail | go_simp); (first | ((first | (go_at_call 14; refine (CAx.out _ _ _ (hsP.nx hHeld.2.2)).mono ?_; rintro e wh ⟨M, A3, c3, hM, rfl, hs3, nh⟩; have HM := Lib.hid hM; clear hM)); go_wp2_with fail) | skip); refine hK.out _ _ ?_ (fun hHeldN => ?_); (focus (first | (exact hS _ (bl_step nh hHeld.2.2 (Below.size hHeld.2.2))) | (exact hHeld))); clear hHeld hK K; have hHeld := hHeldN; clear hHeldN; (try simp only [Act.put, List.setIfInBounds_toArray, List.set_cons_zero, List.set_cons_succ]))
            (refine takeT (i := 13) (v := ?_) rfl ?_ (fun _ _ _ h => h) rfl hHeld ?_ ?_; rotate_left; (focus kernel_rfl); (focus (intro w hSw; (try dsimp only at hSw); go_simp; (try with_reducible rfl))); (try simp only [Act.put, List.setIfInBounds_toArray, List.set_cons_zero, List.set_cons_succ]))
            (refine doOne (i := 14) rfl ?_ (fun K hK => ?_); (focus kernel_rfl))
            ((first | fail | go_simp); (first | ((first | (go_at_call 14; refine (CAx.out _ _ _ (hsP.nx hHeld.2.2)).mono ?_; rintro e wh ⟨M, A3, c3, hM, rfl, hs3, nh⟩; have HM := Lib.hid hM; clear hM)); go_wp2_with fail) | skip); refine hK.out _ _ ?_ (fun hHeldN => ?_); (focus (first | (exact hS _ (bl_step nh hHeld.2.2 (Below.size hHeld.2.2))) | (exact hHeld))); clear hHeld hK K; have hHeld := hHeldN; clear hHeldN; (try simp only [Act.put, List.setIfInBounds_toArray, List.set_cons_zero, List.set_cons_succ]))
            (refine takeT (i := 15) (v := ?_) rfl ?_ (fun _ _ _ h => h) rfl hHeld ?_ ?_; rotate_left; (focus kernel_rfl); (focus (intro w hSw; (try dsimp only at hSw); go_simp; (try with_reducible rfl))); (try simp only [Act.put, List.setIfInBounds_toArray, List.set_cons_zero, List.set_cons_succ]))
            (refine takeT (i := 16) (v := ?_) rfl ?_ (fun _ _ _ h => h) rfl hHeld ?_ ?_; rotate_left; (focus kernel_rfl); (focus (intro w hSw; (try dsimp only at hSw); go_simp; (try with_reducible rfl))); (try simp only [Act.put, List.setIfInBounds_toArray, List.set_cons_zero, List.set_cons_succ]))
            (refine takeT (i := 17) (v := ?_) rfl ?_ (fun _ _ _ h => h) rfl hHeld ?_ ?_; rotate_left; (focus kernel_rfl); (focus (intro w hSw; (try dsimp only at hSw); go_simp; (try with_reducible rfl))); (try simp only [Act.put, List.setIfInBounds_toArray, List.set_cons_zero, List.set_cons_succ]))
            (refine takeT (i := 18) (v := ?_) rfl ?_ (fun _ _ _ h => h) rfl hHeld ?_ ?_; rotate_left; (focus kernel_rfl); (focus (intro w hSw; (try dsimp only at hSw); go_simp; (try with_reducible rfl))); (try simp only [Act.put, List.setIfInBounds_toArray, List.set_cons_zero, List.set_cons_succ]))
            (refine takeT (i := 19) (v := ?_) rfl ?_ (fun _ _ _ h => h) rfl hHeld ?_ ?_; rotate_left; (focus kernel_rfl); (focus (intro w hSw; (try dsimp only at hSw); go_simp; (try with_reducible rfl))); (try simp only [Act.put, List.setIfInBounds_toArray, List.set_cons_zero, List.set_cons_succ]))
            (refine wpAnyH_done (by kernel_rfl) ?_ _)
            have hb5 : Nx w2 wh := bl_step hHeld.2.2 hb hb.size
            clear hHeld hS c0 c1
            go_wp2
            go_roundg (L.length - (k + 1))
            case measure => omega
            case rel => exact ⟨k + 1, M, A3, c3, by omega, by omega, by go_num, rfl, rfl, HM, hs3, hb5⟩
          · have CAx := Lib.hid (CAk.out _ hP.out hlt hx2 (.inl ⟨by omega, rfl⟩))
            clear CAk CKk CA CK
            generalize L[k] = r at c0 c1 CAx hx1 hx2
            have hS : ∀ w', Nx wr w' → w'.cell? ⟨g, k * 2, none⟩ = some (.int .u64 r.1) ∧ w'.cell? ⟨g, k * 2 + 1, none⟩ = some (.int .u64 r.2) ∧ Nx wr w' := fun w' q => ⟨(Below.cell q (p := ⟨g, k * 2, none⟩) (World.block_lt_of_cell? wr _ c0)).trans c0, (Below.cell q (p := ⟨g, k * 2 + 1, none⟩) (World.block_lt_of_cell? wr _ c1)).trans c1, q⟩
            have hki : (0 : Int) ≤ k ∧ (k : Int) < L.length := by omega
            go_upto_region 9 with fail
            refine wp_region_held_drew (S := fun w' => w'.cell? ⟨g, k * 2, none⟩ = some (.int .u64 r.1) ∧ w'.cell? ⟨g, k * 2 + 1, none⟩ = some (.int .u64 r.2) ∧ Nx wr w') (by kernel_rfl) ?_ (fun hHeld => ?_)
            focus (exact hS _ ((Below.refl _ _).drew))
            (refine takeT (i := 0) (v := ?_) rfl ?_ (fun _ _ _ h => h) rfl hHeld ?_ ?_; rotate_left; (focus kernel_rfl); (focus (intro w hSw; (try dsimp only at hSw); go_simp; (try with_reducible rfl))); (try simp only [Act.put, List.setIfInBounds_toArray, List.set_cons_zero, List.set_cons_succ]))
            (refine takeT (i := 1) (v := ?_) rfl ?_ (fun _ _ _ h => h) rfl hHeld ?_ ?_; rotate_left; (focus kernel_rfl); (focus (intro w hSw; (try dsimp only at hSw); go_simp; (try with_reducible rfl))); (try simp only [Act.put, List.setIfInBounds_toArray, List.set_cons_zero, List.set_cons_succ]))
            (refine takeT (i := 2) (v := ?_) rfl ?_ (fun _ _ _ h => h) rfl hHeld ?_ ?_; rotate_left; (focus kernel_rfl); (focus (intro w hSw; (try dsimp only at hSw); go_simp; (try with_reducible rfl))); (try simp only [Act.put, List.setIfInBounds_toArray, List.set_cons_zero, List.set_cons_succ]))
            (refine takeT (i := 3) (v := ?_) rfl ?_ (fun _ _ _ h => h) rfl hHeld ?_ ?_; rotate_left; (focus kernel_rfl); (focus (intro w hSw; (try dsimp only at hSw); go_simp; (try with_reducible rfl))); (try simp only [Act.put, List.setIfInBounds_toArray, List.set_cons_zero, List.set_cons_succ]))
            (refine takeT (i := 4) (v := ?_) rfl ?_ (fun _ _ _ h => h) rfl hHeld ?_ ?_; rotate_left; (focus kernel_rfl); (focus (intro w hSw; (try dsimp only at hSw); go_simp; (try with_reducible rfl))); (try simp only [Act.put, List.setIfInBounds_toArray, List.set_cons_zero, List.set_cons_succ]))
            (refine takeT (i := 5) (v := ?_) rfl ?_ (fun _ _ _ h => h) rfl hHeld ?_ ?_; rotate_left; (focus kernel_rfl); (focus (intro w hSw; (try dsimp only at hSw); go_simp; (try with_reducible rfl))); (try simp only [Act.put, List.setIfInBounds_toArray, List.set_cons_zero, List.set_cons_succ]))
            (refine takeT (i := 6) (v := ?_) rfl ?_ (fun _ _ _ h => h) rfl hHeld ?_ ?_; rotate_left; (focus kernel_rfl); (focus (intro w hSw; (try dsimp only at hSw); go_simp; (try with_reducible rfl))); (try simp only [Act.put, List.setIfInBounds_toArray, List.set_cons_zero, List.set_cons_succ]))
            (refine takeT (i := 8) (v := ?_) rfl ?_ (fun _ _ _ h => h) rfl hHeld ?_ ?_; rotate_left; (focus kernel_rfl); (focus (intro w hSw; (try dsimp only at hSw); go_simp; (try with_reducible rfl))); (try simp only [Act.put, List.setIfInBounds_toArray, List.set_cons_zero, List.set_cons_succ]))
            (refine takeT (i := 9) (v := ?_) rfl ?_ (fun _ _ _ h => h) rfl hHeld ?_ ?_; rotate_left; (focus kernel_rfl); (focus (intro w hSw; (try dsimp only at hSw); go_simp; (try with_reducible rfl))); (try simp only [Act.put, List.setIfInBounds_toArray, List.set_cons_zero, List.set_cons_succ]))
            (refine takeT (i := 10) (v := ?_) rfl ?_ (fun _ _ _ h => h) rfl hHeld ?_ ?_; rotate_left; (focus kernel_rfl); (focus (intro w hSw; (try dsimp only at hSw); go_simp; (try with_reducible rfl))); (try simp only [Act.put, List.setIfInBounds_toArray, List.set_cons_zero, List.set_cons_succ]))
            (refine takeT (i := 11) (v := ?_) rfl ?_ (fun _ _ _ h => h) rfl hHeld ?_ ?_; rotate_left; (focus kernel_rfl); (focus (intro w hSw; (try dsimp only at hSw); go_simp; (try with_reducible rfl))); (try simp only [Act.put, List.setIfInBounds_toArray, List.set_cons_zero, List.set_cons_succ]))
            (refine takeT (i := 12) (v := ?_) rfl ?_ (fun _ _ _ h => h) rfl hHeld ?_ ?_; rotate_left; (focus kernel_rfl); (focus (intro w hSw; (try dsimp only at hSw); go_simp; (try with_reducible rfl))); (try simp only [Act.put, List.setIfInBounds_toArray, List.set_cons_zero, List.set_cons_succ]))
            (refine doOne (i := 7) rfl ?_ (fun K hK => ?_); (focus kernel_rfl))
            ((first | fail | go_simp); (first | ((first | (go_at_call 14; refine (CAx.out _ _ _ (hsP.nx hHeld.2.2)).mono ?_; rintro e wh ⟨M, A3, c3, hM, rfl, hs3, nh⟩; have HM := Lib.hid hM; clear hM)); go_wp2_with fail) | skip); refine hK.out _ _ ?_ (fun hHeldN => ?_); (focus (first | (exact hS _ (bl_step nh hHeld.2.2 (Below.size hHeld.2.2))) | (exact hHeld))); clear hHeld hK K; have hHeld := hHeldN; clear hHeldN; (try simp only [Act.put, List.setIfInBounds_toArray, List.set_cons_zero, List.set_cons_succ]))
            (refine takeT (i := 13) (v := ?_) rfl ?_ (fun _ _ _ h => h) rfl hHeld ?_ ?_; rotate_left; (focus kernel_rfl); (focus (intro w hSw; (try dsimp only at hSw); go_simp; (try with_reducible rfl))); (try simp only [Act.put, List.setIfInBounds_toArray, List.set_cons_zero, List.set_cons_succ]))
            (refine doOne (i := 14) rfl ?_ (fun K hK => ?_); (focus kernel_rfl))
            ((first | fail | go_simp); (first | ((first | (go_at_call 14; refine (CAx.out _ _ _ (hsP.nx hHeld.2.2)).mono ?_; rintro e wh ⟨M, A3, c3, hM, rfl, hs3, nh⟩; have HM := Lib.hid hM; clear hM)); go_wp2_with fail) | skip); refine hK.out _ _ ?_ (fun hHeldN => ?_); (focus (first | (exact hS _ (bl_step nh hHeld.2.2 (Below.size hHeld.2.2))) | (exact hHeld))); clear hHeld hK K; have hHeld := hHeldN; clear hHeldN; (try simp only [Act.put, List.setIfInBounds_toArray, List.set_cons_zero, List.set_cons_succ]))
            (refine takeT (i := 15) (v := ?_) rfl ?_ (fun _ _ _ h => h) rfl hHeld ?_ ?_; rotate_left; (focus kernel_rfl); (focus (intro w hSw; (try dsimp only at hSw); go_simp; (try with_reducible rfl))); (try simp only [Act.put, List.setIfInBounds_toArray, List.set_cons_zero, List.set_cons_succ]))
            (refine takeT (i := 16) (v := ?_) rfl ?_ (fun _ _ _ h => h) rfl hHeld ?_ ?_; rotate_left; (focus kernel_rfl); (focus (intro w hSw; (try dsimp only at hSw); go_simp; (try with_reducible rfl))); (try simp only [Act.put, List.setIfInBounds_toArray, List.set_cons_zero, List.set_cons_succ]))
            (refine takeT (i := 17) (v := ?_) rfl ?_ (fun _ _ _ h => h) rfl hHeld ?_ ?_; rotate_left; (focus kernel_rfl); (focus (intro w hSw; (try dsimp only at hSw); go_simp; (try with_reducible rfl))); (try simp only [Act.put, List.setIfInBounds_toArray, List.set_cons_zero, List.set_cons_succ]))
            (refine takeT (i := 18) (v := ?_) rfl ?_ (fun _ _ _ h => h) rfl hHeld ?_ ?_; rotate_left; (focus kernel_rfl); (focus (intro w hSw; (try dsimp only at hSw); go_simp; (try with_reducible rfl))); (try simp only [Act.put, List.setIfInBounds_toArray, List.set_cons_zero, List.set_cons_succ]))
            (refine takeT (i := 19) (v := ?_) rfl ?_ (fun _ _ _ h => h) rfl hHeld ?_ ?_; rotate_left; (focus kernel_rfl); (focus (intro w hSw; (try dsimp only at hSw); go_simp; (try with_reducible rfl))); (try simp only [Act.put, List.setIfInBounds_toArray, List.set_cons_zero, List.set_cons_succ]))
            (refine wpAnyH_done (by kernel_rfl) ?_ _)
            have hb5 : Nx w2 wh := bl_step hHeld.2.2 hb hb.size
            clear hHeld hS c0 c1
            go_wp2
            go_roundg (L.length - (k + 1))
            case measure => omega
            case rel => exact ⟨k + 1, M, A3, c3, by omega, by omega, by go_num, rfl, rfl, HM, hs3, hb5⟩
        · have hKn := Lib.hid (CKk.out (by omega))
          clear CAk CKk CA CK
          generalize L[k] = r at c0 c1 hx2
          have hki : (0 : Int) ≤ k ∧ (k : Int) < L.length := by omega
          go_wp2
          go_roundg (L.length - (k + 1))
          case measure => omega
          case rel => exact ⟨k + 1, P, A', c', by omega, by omega, by go_num, rfl, rfl, hKn.out, hsP, hb⟩
      · have hkl : k = L.length := by omega
        have hPe : P = L := CF.out P (by rw [← hkl]; exact hP.out)
        clear CA CK CF hP hkl C0
        subst hPe
        have hv3 : (totL P == totL P) = true := by simp
        go_wp2_with fail
        refine (CS.out _ _ _ _ _ hsP hsL).mono ?_
        rintro e w3 ⟨rfl, n3⟩
        go_wp2_with fail
        refine (CT.out _ _ _ (hsL.nx n3)).mono ?_
        rintro e w4 ⟨rfl, n4⟩
        go_wp2
        go_ret
        exact ⟨rfl, bl_step n4 (bl_step n3 (bl_step hb hb2 hb2.size) (by have := hb.size; have := Below.size hb2; omega)) (by have := hb.size; have := Below.size hb2; have := Below.size n3; omega)⟩

set_option maxRecDepth 100000 in
theorem lifted (os : Os) (started : os.Started) (H : Type) (enc : TypeId × Value → H) :
    ReturnsInHanded {} Try.checked os 5 .any (Rows.fnCutAddSpec.pre6 enc Try.prog Try.f5 Rows.fnCutAddRow.domain false) (Rows.fnCutAddSpec.post enc Try.prog Try.f5 false true false false) := by
  refine returnsInHanded_of_change (C := Try.checked) own started (by kernel_rfl) Try.func5
    (ChangeSpec.witness6 (enc := enc) (C := Try.checked) false ⟨#[], #[.slice none 0 0, .int .u64 0], []⟩ 8 (by kernel_rfl) (by kernel_rfl) (by kernel_rfl) (by kernel_rfl)) ?_
  intro W base args ds gs before hval0 hW hcnd _
  have hval : ∀ (j : Nat) t v, Try.f5.params[j]? = some t → args[j]? = some v → Value.okWide Try.prog W .any base t v := hval0
  have hW' := hW
  obtain ⟨p, q, hA0, hV, rfl, hfz, hnd⟩ := hW
  have hA : DataW.TrodAll enc Try.prog W 0 (fun _ => true) true Try.f5.params.toList args.toList ds p := hA0
  rw [Try.params5] at hA hval
  obtain ⟨v0, vs0, d0, ds0, p0, q0, hargs, rfl, rfl, h0, r0⟩ := trodAll_cons hA
  obtain ⟨v1, vs1, d1, ds1, p1, q1, rfl, rfl, rfl, h1, r1⟩ := trodAll_cons r0
  obtain ⟨rfl, rfl, rfl⟩ := trodAll_nil r1
  obtain rfl : args = #[v0, v1] := by cases args; simp_all
  obtain ⟨rfl, rfl⟩ := trodVars_none hV
  obtain ⟨a0, len0, cap0, rfl⟩ := okWide_slice Try.underlying33 (hval 0 33 v0 rfl rfl)
  have k0 := h0
  have lt0 : ∀ x ∈ p0, x.block < W.heap.size := by obtain ⟨m, hm⟩ := k0; exact DataW.trod_lt m _ _ _ hm
  obtain ⟨z0, w0⟩ : ∃ zs, IsRow .u16 W a0 len0 cap0 zs := by
    obtain ⟨fuel, hf⟩ := h0
    rcases open_ints Try.underlying33 Try.underlying59 (by kernel_rfl) hf with ⟨hcs, _⟩ | ⟨x, l, c, zs, hcs, _, hl, hm, hz, _, hcell, hwz⟩
    · simp [Value.cells] at hcs
      obtain ⟨rfl, rfl, rfl⟩ := hcs
      exact ⟨[], .inl ⟨rfl, rfl, rfl, rfl⟩⟩
    · simp [Value.cells] at hcs
      obtain ⟨rfl, rfl, rfl⟩ := hcs
      exact ⟨zs, .inr ⟨_, rfl, hl, hm, by simpa using hz, hcell, hwz⟩⟩
  obtain ⟨a1, rfl, rfl, rfl, w1⟩ := open_int Try.underlying22 (hval 1 22 v1 rfl rfl) h1
  clear hA0 hval0
  refine (walk a0 len0 cap0 z0 a1 W w0 w1).mono fun e W' ⟨he, bel⟩ => ?_
  subst he
  exact ⟨_, rfl, _, _, _, [], _, [], hW', trodAll_mk1 (shut_bool Try.underlying4 _), (trodAll_cons_mk (Below.trod laidOut (by kernel_rfl) (of_decide_eq_true (by kernel_rfl)) k0 bel lt0) (trodAll_cons_mk (shut_int Try.underlying22 w1) trodAll_mk0)), rfl, Below.frame bel _, fun h => by cases h⟩
theorem over : Rows.fnCutAddRow.holds Try.pinned (OpenSpec.ofChange Rows.fnCutAddSpec) :=
  OpenClaim.holds_of_wide 5 Try.f5 rfl rfl rfl rfl rfl rfl rfl ⟨rfl, rfl, rfl, rfl, rfl⟩ rfl rfl rfl rfl rfl (by kernel_rfl) Try.func5 (by kernel_rfl)
    (of_decide_eq_true (by kernel_rfl)) (by unfold Func.isWrapper; first | (rw [if_pos (by decide +kernel)]; kernel_rfl) | (rw [if_neg (by decide +kernel)]; exact ⟨rfl, rfl⟩))
    (fun os started H enc _ => lifted os started H enc)
theorem proved : Rows.FnCutAddSaid := over
#print axioms proved
end Go.Proofs.Ytnmljgjcdofboaa.fnCutAdd
