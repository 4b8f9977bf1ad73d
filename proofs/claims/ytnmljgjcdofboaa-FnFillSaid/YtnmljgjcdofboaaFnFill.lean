/- FnFill: for all numbers, the list that they tell (of at least one range), each gap filled by Add, is one range, from the first base to the last limit, which InList finds in it. No condition. -/
import Derived.Test.YtnmljgjcdofboaaRows
import Derived.Test.YtnmljgjcdofboaaTm
import Derived.Test.YtnmljgjcdofboaaTl2
import Derived.ProofKit
import Derived.OpenShut
import Derived.ShutString
import Derived.ChangeOld
import Derived.Below
namespace Go.Proofs.Ytnmljgjcdofboaa.fnFill
open Go.ChangeShapes Go.WideShapes Go.ChangeAt Go.RowKit
set_option linter.unusedVariables false
set_option linter.unusedSimpArgs false
theorem own : ownKnob Try.prog.godebug = none := by kernel_rfl
theorem laidOut : laidOutB Try.prog = true := by kernel_rfl

set_option maxHeartbeats 2000000 in
theorem walk (a0 : Option Addr) (len0 cap0 : Nat) (z0 : List Int) (w : World) (w0 : IsRow .u16 w a0 len0 cap0 z0) :
    Calls Try.prog 10 #[.slice a0 len0 cap0] w fun e w' => e = .returned (.bool true) ∧ Nx w w' := by
  by_cases hbig : 2147483647 < len0
  · go_enter Try.func10, Try.ntmps10
    go_wp2
    go_ret
    exact ⟨rfl, Below.refl _ _⟩
  · have hz16 := w0.z16
    have hlist := sList_any a0 len0 cap0 z0 w w0
    have hk : min len0 65536 / 2 ≤ 32768 := by omega
    have hn := Nat.le_trans (Nat.le_of_eq (genL_length z0 (min len0 65536 / 2))) hk
    have hL := genL_InB hz16 _ hk
    have hT := genL_td' hz16 (min len0 65536 / 2)
    have hL2 := Lib.hid (genL_inB hz16 _ hk)
    generalize genL z0 (min len0 65536 / 2) = L at hlist hn hL hT hL2
    clear hk hz16 w0
    by_cases h0 : L.length = 0
    · have hl0 : ((L.length : Int) == 0) = true := by rw [h0]; rfl
      clear h0
      go_enter Try.func10, Try.ntmps10
      go_wp2_with fail
      refine hlist.mono ?_
      rintro e w1 ⟨A, c, rfl, hs, n1⟩
      clear hlist
      go_wp2_with fail
      go_ret
      exact ⟨rfl, n1⟩
    · have hl0 : ((L.length : Int) == 0) = false := by rw [beq_eq_false_iff_ne]; omega
      have hp : 0 < L.length := by omega
      have CI := Lib.hid (fun (k : Nat) (hk : k + 1 < L.length) => fillStep hk hn hL hT)
      have C0 := Lib.hid (fill_zero hp).symm
      have CE := Lib.hid (fun (k : Nat) (hk : k < L.length) (he : L.length ≤ k + 1) => fill_end hp hk he hL hT)
      clear h0 hL hT hL2
      unfold RetN at CI
      go_enter Try.func10, Try.ntmps10
      go_wp2_with fail
      refine hlist.mono ?_
      rintro e w1 ⟨A, c, rfl, hs, n1⟩
      clear hlist
      go_wp2_with fail
      go_loopg [4, 5] L.length (fun gn s v wr => ∃ (k : Nat) (j : Int) (P : List R) (A' : Option Addr) (c' : Nat), k < L.length ∧ L.length - k ≤ gn ∧ v = .int .i64 j ∧ (j ≤ (k : Int) + 1 ∧ (k : Int) + 1 ≤ j) ∧ s = .slice A' P.length c' ∧ Hid (P = fillL L k) ∧ SlAt wr A' c' P ∧ Nx w1 wr)
      case atStart => exact ⟨0, 1, L, A, c, hp, by omega, rfl, by omega, rfl, C0.out, hs, Below.refl _ _⟩
      case round =>
        obtain ⟨k, j, P, A', c', hk, hg, rfl, hj, rfl, hP, hsP, hb⟩ := hrel
        obtain rfl : j = (k : Int) + 1 := by omega
        have hsL := hs.nx hb
        by_cases hlt : k + 1 < L.length
        · obtain ⟨g, rfl, hgL, c0, c1⟩ := hsL.at hlt
          obtain ⟨g', hg', _, e0, e1⟩ := hsL.at (show k < L.length by omega)
          injection hg' with hg'
          injection hg' with hg'
          subst hg'
          have CIk := CI.out k hlt
          generalize L[k + 1] = r at c0 c1 CIk
          generalize L[k] = q at e0 e1 CIk
          generalize hQ : fillL L (k + 1) = Q at CIk
          have HQ := Lib.hid hQ
          rw [← hP.out] at CIk
          have CIk := Lib.hid CIk
          clear hQ hP CI CE C0
          have hki : (0 : Int) ≤ k ∧ (k : Int) < L.length ∧ (0 : Int) ≤ (k : Int) + 1 ∧ (k : Int) + 1 < L.length := by omega
          have htn : ((k : Int) + 1).toNat = k + 1 := by omega
          have hwk : IntKind.i64.wrap (k : Int) = k := IntWalk.i64_in _ (by omega)
          have hS : ∀ w', Nx wr w' → w'.cell? ⟨g, (k + 1) * 2, none⟩ = some (.int .u64 r.1) ∧ w'.cell? ⟨g, k * 2 + 1, none⟩ = some (.int .u64 q.2) ∧ Nx wr w' := fun w' n => ⟨(Below.cell n (p := ⟨g, (k + 1) * 2, none⟩) (World.block_lt_of_cell? wr _ c0)).trans c0, (Below.cell n (p := ⟨g, k * 2 + 1, none⟩) (World.block_lt_of_cell? wr _ e1)).trans e1, n⟩
          go_upto_region 10 with fail
          refine wp_region_held_drew (S := fun w' => w'.cell? ⟨g, (k + 1) * 2, none⟩ = some (.int .u64 r.1) ∧ w'.cell? ⟨g, k * 2 + 1, none⟩ = some (.int .u64 q.2) ∧ Nx wr w') (by kernel_rfl) ?_ (fun hHeld => ?_)
          focus (exact hS _ ((Below.refl _ _).drew))
          (refine takeT (i := 0) (v := ?_) rfl ?_ (fun _ _ _ h => h) rfl hHeld ?_ ?_; rotate_left; (focus kernel_rfl); (focus (intro w hSw; (try dsimp only at hSw); go_simp; (try with_reducible rfl))); (try simp only [Act.put, List.setIfInBounds_toArray, List.set_cons_zero, List.set_cons_succ]))
          (refine takeT (i := 1) (v := ?_) rfl ?_ (fun _ _ _ h => h) rfl hHeld ?_ ?_; rotate_left; (focus kernel_rfl); (focus (intro w hSw; (try dsimp only at hSw); go_simp; (try with_reducible rfl))); (try simp only [Act.put, List.setIfInBounds_toArray, List.set_cons_zero, List.set_cons_succ]))
          (refine takeT (i := 2) (v := ?_) rfl ?_ (fun _ _ _ h => h) rfl hHeld ?_ ?_; rotate_left; (focus kernel_rfl); (focus (intro w hSw; (try dsimp only at hSw); go_simp; (try with_reducible rfl))); (try simp only [Act.put, List.setIfInBounds_toArray, List.set_cons_zero, List.set_cons_succ]))
          (refine takeT (i := 3) (v := ?_) rfl ?_ (fun _ _ _ h => h) rfl hHeld ?_ ?_; rotate_left; (focus kernel_rfl); (focus (intro w hSw; (try dsimp only at hSw); go_simp; (try with_reducible rfl))); (try simp only [Act.put, List.setIfInBounds_toArray, List.set_cons_zero, List.set_cons_succ]))
          (refine takeT (i := 4) (v := ?_) rfl ?_ (fun _ _ _ h => h) rfl hHeld ?_ ?_; rotate_left; (focus kernel_rfl); (focus (intro w hSw; (try dsimp only at hSw); go_simp; (try with_reducible rfl))); (try simp only [Act.put, List.setIfInBounds_toArray, List.set_cons_zero, List.set_cons_succ]))
          (refine takeT (i := 5) (v := ?_) rfl ?_ (fun _ _ _ h => h) rfl hHeld ?_ ?_; rotate_left; (focus kernel_rfl); (focus (intro w hSw; (try dsimp only at hSw); go_simp; (try with_reducible rfl))); (try simp only [Act.put, List.setIfInBounds_toArray, List.set_cons_zero, List.set_cons_succ]))
          (refine takeT (i := 6) (v := ?_) rfl ?_ (fun _ _ _ h => h) rfl hHeld ?_ ?_; rotate_left; (focus kernel_rfl); (focus (intro w hSw; (try dsimp only at hSw); go_simp; (try with_reducible rfl))); (try simp only [Act.put, List.setIfInBounds_toArray, List.set_cons_zero, List.set_cons_succ]))
          (refine takeT (i := 7) (v := ?_) rfl ?_ (fun _ _ _ h => h) rfl hHeld ?_ ?_; rotate_left; (focus kernel_rfl); (focus (intro w hSw; (try dsimp only at hSw); go_simp; (try with_reducible rfl))); (try simp only [Act.put, List.setIfInBounds_toArray, List.set_cons_zero, List.set_cons_succ]))
          (refine takeT (i := 8) (v := ?_) rfl ?_ (fun _ _ _ h => h) rfl hHeld ?_ ?_; rotate_left; (focus kernel_rfl); (focus (intro w hSw; (try dsimp only at hSw); go_simp; (try with_reducible rfl))); (try simp only [Act.put, List.setIfInBounds_toArray, List.set_cons_zero, List.set_cons_succ]))
          (refine takeT (i := 9) (v := ?_) rfl ?_ (fun _ _ _ h => h) rfl hHeld ?_ ?_; rotate_left; (focus kernel_rfl); (focus (intro w hSw; (try dsimp only at hSw); go_simp; (try with_reducible rfl))); (try simp only [Act.put, List.setIfInBounds_toArray, List.set_cons_zero, List.set_cons_succ]))
          (refine takeT (i := 10) (v := ?_) rfl ?_ (fun _ _ _ h => h) rfl hHeld ?_ ?_; rotate_left; (focus kernel_rfl); (focus (intro w hSw; (try dsimp only at hSw); go_simp; (try with_reducible rfl))); (try simp only [Act.put, List.setIfInBounds_toArray, List.set_cons_zero, List.set_cons_succ]))
          (refine takeT (i := 11) (v := ?_) rfl ?_ (fun _ _ _ h => h) rfl hHeld ?_ ?_; rotate_left; (focus kernel_rfl); (focus (intro w hSw; (try dsimp only at hSw); go_simp; (try with_reducible rfl))); (try simp only [Act.put, List.setIfInBounds_toArray, List.set_cons_zero, List.set_cons_succ]))
          (refine takeT (i := 12) (v := ?_) rfl ?_ (fun _ _ _ h => h) rfl hHeld ?_ ?_; rotate_left; (focus kernel_rfl); (focus (intro w hSw; (try dsimp only at hSw); go_simp; (try with_reducible rfl))); (try simp only [Act.put, List.setIfInBounds_toArray, List.set_cons_zero, List.set_cons_succ]))
          (refine doOne (i := 13) rfl ?_ (fun K hK => ?_); (focus kernel_rfl))
          ((first | fail | go_simp); (first | ((first | (go_at_call 14; refine (CIk.out _ _ _ (hsP.nx hHeld.2.2)).mono ?_; rintro e wh ⟨A3, c3, rfl, hs3, nh⟩)); go_wp2_with fail) | skip); refine hK.out _ _ ?_ (fun hHeldN => ?_); (focus (exact hS _ (bl_step nh hHeld.2.2 (Below.size hHeld.2.2)))); clear hHeld hK K; have hHeld := hHeldN; clear hHeldN; (try simp only [Act.put, List.setIfInBounds_toArray, List.set_cons_zero, List.set_cons_succ]))
          (refine takeT (i := 14) (v := ?_) rfl ?_ (fun _ _ _ h => h) rfl hHeld ?_ ?_; rotate_left; (focus kernel_rfl); (focus (intro w hSw; (try dsimp only at hSw); go_simp; (try with_reducible rfl))); (try simp only [Act.put, List.setIfInBounds_toArray, List.set_cons_zero, List.set_cons_succ]))
          (refine takeT (i := 15) (v := ?_) rfl ?_ (fun _ _ _ h => h) rfl hHeld ?_ ?_; rotate_left; (focus kernel_rfl); (focus (intro w hSw; (try dsimp only at hSw); go_simp; (try with_reducible rfl))); (try simp only [Act.put, List.setIfInBounds_toArray, List.set_cons_zero, List.set_cons_succ]))
          (refine takeT (i := 16) (v := ?_) rfl ?_ (fun _ _ _ h => h) rfl hHeld ?_ ?_; rotate_left; (focus kernel_rfl); (focus (intro w hSw; (try dsimp only at hSw); go_simp; (try with_reducible rfl))); (try simp only [Act.put, List.setIfInBounds_toArray, List.set_cons_zero, List.set_cons_succ]))
          (refine takeT (i := 17) (v := ?_) rfl ?_ (fun _ _ _ h => h) rfl hHeld ?_ ?_; rotate_left; (focus kernel_rfl); (focus (intro w hSw; (try dsimp only at hSw); go_simp; (try with_reducible rfl))); (try simp only [Act.put, List.setIfInBounds_toArray, List.set_cons_zero, List.set_cons_succ]))
          (refine wpAnyH_done (by kernel_rfl) ?_ _)
          have hb5 : Nx w1 wh := bl_step hHeld.2.2 hb hb.size
          clear hHeld hS c0 c1 e0 e1 htn
          go_wp2
          go_roundg (L.length - (k + 1))
          case measure => omega
          case rel => exact ⟨k + 1, (k : Int) + 1 + 1, Q, A3, c3, by omega, by omega, rfl, by omega, rfl, HQ.out.symm, hs3, hb5⟩
        · have hE := CE.out k hk (by omega)
          obtain ⟨g, rfl, hgL, e0, e1⟩ := hsL.at hk
          obtain ⟨g', hg', _, c0, c1⟩ := hsL.at hp
          injection hg' with hg'
          injection hg' with hg'
          subst hg'
          rw [Nat.zero_mul] at c0
          generalize (L[0]).1 = f at c0 hE
          generalize (L[k]).2 = l at e1 hE
          have hPe : P = [(f, l)] := hP.out.trans hE.1
          obtain ⟨_, hf0, hfl, hl2⟩ := hE
          have hPl : P.length ≤ 65536 := by rw [hPe]; simp
          have hPb : InB P := by rw [hPe]; intro s hs; obtain rfl := List.mem_singleton.1 hs; simp only; omega
          have hPt : Td P := by rw [hPe, td_cons]; exact ⟨hfl, by simp, td_nil⟩
          have CS := Lib.hid (fun A A2 c c2 W h h2 => sSame_any A A2 c c2 P [(f, l)] W h h2 hPl (by simp))
          rw [show sameB P [(f, l)] = true by rw [hPe]; simp [sameB]] at CS
          have CN := Lib.hid (fun A c W h => iInList_any A c P (l - 1) W h hPl hPb hPt (by omega) (by omega))
          rw [show hasL P (l - 1) = true by rw [hPe]; simp [hasL, hasB]; omega] at CN
          clear hPe hPb hPt hP CI CE C0 hPl
          have hki : (0 : Int) ≤ k ∧ (k : Int) < L.length ∧ ¬ (k : Int) + 1 < L.length ∧ (0 : Int) < L.length := by omega
          have hwl : IntKind.i64.wrap ((L.length : Int) - 1) = (k : Int) := by rw [IntWalk.i64_in _ (by omega)]; omega
          have hwv : IntKind.u64.wrap (l - 1) = l - 1 := IntWalk.u64_in _ (by omega)
          have hS : ∀ w', Nx wr w' → w'.cell? ⟨g, 0, none⟩ = some (.int .u64 f) ∧ w'.cell? ⟨g, k * 2 + 1, none⟩ = some (.int .u64 l) ∧ Nx wr w' := fun w' n => ⟨(Below.cell n (p := ⟨g, 0, none⟩) (World.block_lt_of_cell? wr _ c0)).trans c0, (Below.cell n (p := ⟨g, k * 2 + 1, none⟩) (World.block_lt_of_cell? wr _ e1)).trans e1, n⟩
          go_upto_region 11 with fail
          refine wp_region_held_drew (S := fun w' => w'.cell? ⟨g, 0, none⟩ = some (.int .u64 f) ∧ w'.cell? ⟨g, k * 2 + 1, none⟩ = some (.int .u64 l) ∧ Nx wr w') (by kernel_rfl) ?_ (fun hHeld => ?_)
          focus (exact hS _ ((Below.refl _ _).drew))
          (refine takeT (i := 0) (v := ?_) rfl ?_ (fun _ _ _ h => h) rfl hHeld ?_ ?_; rotate_left; (focus kernel_rfl); (focus (intro w hSw; (try dsimp only at hSw); go_simp; (try with_reducible rfl))); (try simp only [Act.put, List.setIfInBounds_toArray, List.set_cons_zero, List.set_cons_succ]))
          (refine takeT (i := 1) (v := ?_) rfl ?_ (fun _ _ _ h => h) rfl hHeld ?_ ?_; rotate_left; (focus kernel_rfl); (focus (intro w hSw; (try dsimp only at hSw); go_simp; (try with_reducible rfl))); (try simp only [Act.put, List.setIfInBounds_toArray, List.set_cons_zero, List.set_cons_succ]))
          (refine takeT (i := 2) (v := ?_) rfl ?_ (fun _ _ _ h => h) rfl hHeld ?_ ?_; rotate_left; (focus kernel_rfl); (focus (intro w hSw; (try dsimp only at hSw); go_simp; (try with_reducible rfl))); (try simp only [Act.put, List.setIfInBounds_toArray, List.set_cons_zero, List.set_cons_succ]))
          (refine takeT (i := 3) (v := ?_) rfl ?_ (fun _ _ _ h => h) rfl hHeld ?_ ?_; rotate_left; (focus kernel_rfl); (focus (intro w hSw; (try dsimp only at hSw); go_simp; (try with_reducible rfl))); (try simp only [Act.put, List.setIfInBounds_toArray, List.set_cons_zero, List.set_cons_succ]))
          (refine takeT (i := 4) (v := ?_) rfl ?_ (fun _ _ _ h => h) rfl hHeld ?_ ?_; rotate_left; (focus kernel_rfl); (focus (intro w hSw; (try dsimp only at hSw); go_simp; (try with_reducible rfl))); (try simp only [Act.put, List.setIfInBounds_toArray, List.set_cons_zero, List.set_cons_succ]))
          (refine takeT (i := 5) (v := ?_) rfl ?_ (fun _ _ _ h => h) rfl hHeld ?_ ?_; rotate_left; (focus kernel_rfl); (focus (intro w hSw; (try dsimp only at hSw); go_simp; (try with_reducible rfl))); (try simp only [Act.put, List.setIfInBounds_toArray, List.set_cons_zero, List.set_cons_succ]))
          (refine takeT (i := 6) (v := ?_) rfl ?_ (fun _ _ _ h => h) rfl hHeld ?_ ?_; rotate_left; (focus kernel_rfl); (focus (intro w hSw; (try dsimp only at hSw); go_simp; (try with_reducible rfl))); (try simp only [Act.put, List.setIfInBounds_toArray, List.set_cons_zero, List.set_cons_succ]))
          (refine takeT (i := 7) (v := ?_) rfl ?_ (fun _ _ _ h => h) rfl hHeld ?_ ?_; rotate_left; (focus kernel_rfl); (focus (intro w hSw; (try dsimp only at hSw); go_simp; (try with_reducible rfl))); (try simp only [Act.put, List.setIfInBounds_toArray, List.set_cons_zero, List.set_cons_succ]))
          (refine takeT (i := 8) (v := ?_) rfl ?_ (fun _ _ _ h => h) rfl hHeld ?_ ?_; rotate_left; (focus kernel_rfl); (focus (intro w hSw; (try dsimp only at hSw); go_simp; (try with_reducible rfl))); (try simp only [Act.put, List.setIfInBounds_toArray, List.set_cons_zero, List.set_cons_succ]))
          (refine takeT (i := 9) (v := ?_) rfl ?_ (fun _ _ _ h => h) rfl hHeld ?_ ?_; rotate_left; (focus kernel_rfl); (focus (intro w hSw; (try dsimp only at hSw); go_simp; (try with_reducible rfl))); (try simp only [Act.put, List.setIfInBounds_toArray, List.set_cons_zero, List.set_cons_succ]))
          (refine takeT (i := 10) (v := ?_) rfl ?_ (fun _ _ _ h => h) rfl hHeld ?_ ?_; rotate_left; (focus kernel_rfl); (focus (intro w hSw; (try dsimp only at hSw); go_simp; (try with_reducible rfl))); (try simp only [Act.put, List.setIfInBounds_toArray, List.set_cons_zero, List.set_cons_succ]))
          (refine takeT (i := 11) (v := ?_) rfl ?_ (fun _ _ _ h => h) rfl hHeld ?_ ?_; rotate_left; (focus kernel_rfl); (focus (intro w hSw; (try dsimp only at hSw); go_simp; (try with_reducible rfl))); (try simp only [Act.put, List.setIfInBounds_toArray, List.set_cons_zero, List.set_cons_succ]))
          (refine doOne (i := 12) rfl ?_ (fun K hK => ?_); (focus kernel_rfl))
          ((first | fail | go_simp); (first | ((first | fail); go_wp2_with fail) | skip); refine hK.out _ _ ?_ (fun hHeldN => ?_); (focus (exact hS _ (by show Below _ _ _; repeat (first | (with_reducible exact Below.refl _ _) | (with_reducible assumption) | (with_reducible refine Below.drew ?_) | ((with_reducible refine Below.alloc ?_ ?_ _); rotate_left; (focus first | omega | (simp; done) | (simp; omega))) | ((with_reducible refine Below.setCell ?_ ?_ _); rotate_left; (focus first | omega | (simp; done) | (simp; omega))) | ((with_reducible refine bl_step (by assumption) ?_ ?_); rotate_left; (focus first | omega | (simp; done) | (simp; omega))))))); clear hHeld hK K; have hHeld := hHeldN; clear hHeldN; (try simp only [Act.put, List.setIfInBounds_toArray, List.set_cons_zero, List.set_cons_succ]))
          (refine doOne (i := 13) rfl ?_ (fun K hK => ?_); (focus kernel_rfl))
          ((first | fail | go_simp); (first | ((first | fail); go_wp2_with fail) | skip); refine hK.out _ _ ?_ (fun hHeldN => ?_); (focus (exact hS _ (by show Below _ _ _; repeat (first | (with_reducible exact Below.refl _ _) | (with_reducible assumption) | (with_reducible refine Below.drew ?_) | ((with_reducible refine Below.alloc ?_ ?_ _); rotate_left; (focus first | omega | (simp; done) | (simp; omega))) | ((with_reducible refine Below.setCell ?_ ?_ _); rotate_left; (focus first | omega | (simp; done) | (simp; omega))) | ((with_reducible refine bl_step (by assumption) ?_ ?_); rotate_left; (focus first | omega | (simp; done) | (simp; omega))))))); clear hHeld hK K; have hHeld := hHeldN; clear hHeldN; (try simp only [Act.put, List.setIfInBounds_toArray, List.set_cons_zero, List.set_cons_succ]))
          (refine wpAnyH_done (by kernel_rfl) ?_ _)
          have bV := (Bk.new wr #[.int .u64 f, .int .u64 l] 24).drew
          have kk := hHeld.2.2
          clear hHeld hS c0 c1 e0 e1
          have hs9 := hsP.nx kk
          have hb9 : Nx w1 (wr.alloc (.cells #[.int .u64 f, .int .u64 l] 24)).drew := bl_step kk hb hb.size
          generalize (wr.alloc (.cells #[.int .u64 f, .int .u64 l] 24)).drew = X at bV kk hs9 hb9 ⊢
          have v0 := bV.cell 0
          have v1 := bV.cell 1
          go_wp2_with fail
          refine (CS.out _ _ _ _ _ (hs9.alloc _) (slAt_one X f l 24 rfl)).mono ?_
          rintro e w5 ⟨rfl, n5⟩
          have n6 : Nx X w5 := bl_step n5 ((Below.refl _ _).alloc (Nat.le_refl _) _) (by simp)
          replace bV := bV.nx n6
          clear v0 v1
          have v0 := bV.cell 0
          have v1 := bV.cell 1
          go_wp2_with fail
          refine (CN.out _ _ _ (hs9.nx n6)).mono ?_
          rintro e w7 ⟨rfl, n7⟩
          have hb10 : Nx w1 w7 := bl_step n7 (bl_step n6 hb9 hb9.size) (by have := hb9.size; have := Below.size n6; omega)
          go_wp2
          go_ret
          exact ⟨rfl, bl_step hb10 n1 n1.size⟩

set_option maxRecDepth 100000 in
theorem lifted (os : Os) (started : os.Started) (H : Type) (enc : TypeId × Value → H) :
    ReturnsInHanded {} Try.checked os 10 .any (Rows.fnFillSpec.pre6 enc Try.prog Try.f10 Rows.fnFillRow.domain false) (Rows.fnFillSpec.post enc Try.prog Try.f10 false true false false) := by
  refine returnsInHanded_of_change (C := Try.checked) own started (by kernel_rfl) Try.func10
    (ChangeSpec.witness6 (enc := enc) (C := Try.checked) false ⟨#[], #[.slice none 0 0], []⟩ 8 (by kernel_rfl) (by kernel_rfl) (by kernel_rfl) (by kernel_rfl)) ?_
  intro W base args ds gs before hval0 hW hcnd _
  have hval : ∀ (j : Nat) t v, Try.f10.params[j]? = some t → args[j]? = some v → Value.okWide Try.prog W .any base t v := hval0
  have hW' := hW
  obtain ⟨p, q, hA0, hV, rfl, hfz, hnd⟩ := hW
  have hA : DataW.TrodAll enc Try.prog W 0 (fun _ => true) true Try.f10.params.toList args.toList ds p := hA0
  rw [Try.params10] at hA hval
  obtain ⟨v0, vs0, d0, ds0, p0, q0, hargs, rfl, rfl, h0, r0⟩ := trodAll_cons hA
  obtain ⟨rfl, rfl, rfl⟩ := trodAll_nil r0
  obtain rfl : args = #[v0] := by cases args; simp_all
  obtain ⟨rfl, rfl⟩ := trodVars_none hV
  obtain ⟨a0, len0, cap0, rfl⟩ := okWide_slice Try.underlying33 (hval 0 33 v0 rfl rfl)
  have k0 := h0
  have lt0 : ∀ x ∈ p0, x.block < W.heap.size := by obtain ⟨m, hm⟩ := k0; exact DataW.trod_lt m _ _ _ hm
  obtain ⟨z0, w0⟩ : ∃ zs, IsRow .u16 W a0 len0 cap0 zs := by
    obtain ⟨fuel, hf⟩ := h0
    rcases open_ints Try.underlying33 Try.underlying59 (by kernel_rfl) hf with ⟨hcs, _⟩ | ⟨x, l, c, zs, hcs, _, hl, hm, hz, _, hcell, hwz⟩
    · simp [Value.cells] at hcs
      obtain ⟨rfl, rfl, rfl⟩ := hcs
      exact ⟨[], .inl ⟨rfl, rfl, rfl, rfl⟩⟩
    · simp [Value.cells] at hcs
      obtain ⟨rfl, rfl, rfl⟩ := hcs
      exact ⟨zs, .inr ⟨_, rfl, hl, hm, by simpa using hz, hcell, hwz⟩⟩
  clear hA0 hval0
  refine (walk a0 len0 cap0 z0 W w0).mono fun e W' ⟨he, bel⟩ => ?_
  subst he
  exact ⟨_, rfl, _, _, _, [], _, [], hW', trodAll_mk1 (shut_bool Try.underlying4 _), (trodAll_cons_mk (Below.trod laidOut (by kernel_rfl) (of_decide_eq_true (by kernel_rfl)) k0 bel lt0) trodAll_mk0), rfl, Below.frame bel _, fun h => by cases h⟩
theorem over : Rows.fnFillRow.holds Try.pinned (OpenSpec.ofChange Rows.fnFillSpec) :=
  OpenClaim.holds_of_wide 10 Try.f10 rfl rfl rfl rfl rfl rfl rfl ⟨rfl, rfl, rfl, rfl, rfl⟩ rfl rfl rfl rfl rfl (by kernel_rfl) Try.func10 (by kernel_rfl)
    (of_decide_eq_true (by kernel_rfl)) (by unfold Func.isWrapper; first | (rw [if_pos (by decide +kernel)]; kernel_rfl) | (rw [if_neg (by decide +kernel)]; exact ⟨rfl, rfl⟩))
    (fun os started H enc _ => lifted os started H enc)
theorem proved : Rows.FnFillSaid := over
#print axioms proved
end Go.Proofs.Ytnmljgjcdofboaa.fnFill
