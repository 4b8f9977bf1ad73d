/- FnSubtractAdd: for every three numbers, what Subtract leaves of the range of the first two, and what was taken away of it, added to an empty list, are the range again, with its size; a range of one address has the size 1. No condition. -/
import Derived.Test.YtnmljgjcdofboaaRows
import Derived.Test.YtnmljgjcdofboaaSu
import Derived.Test.YtnmljgjcdofboaaTm
import Derived.ProofKit
import Derived.OpenShut
import Derived.ShutString
import Derived.ChangeOld
import Derived.Below
namespace Go.Proofs.Ytnmljgjcdofboaa.fnSubtractAdd
open Go.ChangeShapes Go.WideShapes Go.ChangeAt Go.RowKit
set_option linter.unusedVariables false
set_option linter.unusedSimpArgs false
theorem own : ownKnob Try.prog.godebug = none := by kernel_rfl
theorem laidOut : laidOutB Try.prog = true := by kernel_rfl

set_option maxHeartbeats 2000000 in
theorem walk (a0 : Int) (a1 : Int) (a2 : Int) (w : World) (w0 : (Lit.int .u64 a0).wf = true) (w1 : (Lit.int .u64 a1).wf = true) (w2 : (Lit.int .u64 a2).wf = true) :
    Calls Try.prog 3 #[.int .u64 a0, .int .u64 a1, .int .u64 a2] w fun e w' => e = .returned (.bool true) ∧ Nx w w' := by
  have h0 := u64_lo w0
  have b0 : 0 ≤ a0 % 1099511627776 ∧ a0 % 1099511627776 < 1099511627776 := by omega
  have h1 := u64_lo w1
  have b1 : 0 ≤ a1 % 1099511627776 ∧ a1 % 1099511627776 < 1099511627776 := by omega
  have h2 := u64_lo w2
  have b2 : 0 ≤ a2 % 1099511627776 ∧ a2 % 1099511627776 < 1099511627776 := by omega
  obtain ⟨r1, r2, r3⟩ := rg_in a0 a1
  have CR := Lib.hid (fun W => sRange_any a0 a1 W h0 h1)
  clear b0 b1 b2
  generalize rgB a0 a1 = rb at *
  generalize rgL a0 a1 = rl at *
  have CZ := Lib.hid (fun W => iSize_any rb rl W (by omega) (by omega) (by omega) (by omega))
  by_cases hsm : rl - rb < 2
  · rw [show szI rb rl = 1 by rw [szI_pos r2]; omega] at CZ
    go_enter Try.func3, Try.ntmps3
    go_wp2_with fail
    refine (CR.out _).mono ?_
    rintro e w1 ⟨rfl, n1⟩
    have bV := Bk.new w1 #[.int .u64 rb, .int .u64 rl] 24
    have hb1 : Nx w (w1.alloc (.cells #[.int .u64 rb, .int .u64 rl] 24)) := Below.alloc n1 (Below.size n1) _
    have v0 := bV.cell 0
    have v1 := bV.cell 1
    go_upto_region 2 with fail
    generalize w1.alloc (.cells #[.int .u64 rb, .int .u64 rl] 24) = U at bV hb1 v0 v1 ⊢
    go_wp2_with fail
    refine (CZ.out _).mono ?_
    rintro e w2 ⟨rfl, n2⟩
    go_wp2
    go_ret
    exact ⟨rfl, bl_step n2 hb1 hb1.size⟩
  · obtain ⟨d, hd⟩ : ∃ d, rl - rb - 1 = d := ⟨_, rfl⟩
    have hd1 : 1 ≤ d ∧ d < 4398046511104 := by omega
    have hq1 := Int.emod_nonneg a2 (show d ≠ 0 by omega)
    have hq2 := Int.emod_lt_of_pos a2 (show 0 < d by omega)
    have hqt : a2.tmod d = a2 % d := Int.tmod_eq_emod_of_nonneg h2
    generalize a2 % d = q at hq1 hq2 hqt
    have e1 : IntKind.u64.wrap (rb + 1) = rb + 1 := IntWalk.u64_in _ (by omega)
    have e2 : IntKind.u64.wrap (rl - rb) = rl - rb := IntWalk.u64_in _ (by omega)
    have e3 : IntKind.u64.wrap (rl - rb - 1) = d := by rw [hd]; exact IntWalk.u64_in _ (by omega)
    have e4 : IntKind.u64.wrap q = q := IntWalk.u64_in _ (by omega)
    obtain ⟨cb, hcb⟩ : ∃ cb, cb = rb + 1 + q := ⟨_, rfl⟩
    have e5 : IntKind.u64.wrap (rb + 1 + q) = cb := by rw [hcb]; exact IntWalk.u64_in _ (by omega)
    have hc1 : rb < cb ∧ cb < rl := by omega
    have CS1 := Lib.hid (fun W => iSubtract_any rb rl cb rl W (by omega) (by omega) (by omega) (by omega) (by omega) (by omega) (by omega) (by omega) (by omega))
    rw [show sbB rb rl cb rl = rb by unfold sbB; (repeat' split) <;> omega, show sbL rb rl cb rl = cb by unfold sbL; (repeat' split) <;> omega] at CS1
    have hT1 : Td [(cb, rl)] := (td_cons _ _).2 ⟨hc1.2, by simp, td_nil⟩
    have hT2 : Td [(rb, rl)] := (td_cons _ _).2 ⟨r2, by simp, td_nil⟩
    have hB1 : InB [(cb, rl)] := fun s hs => by obtain rfl := List.mem_singleton.1 hs; simp only; omega
    have CA1 : Hid (∀ W, Calls Try.prog 14 #[.slice none 0 0, .agg #[.int .u64 cb, .int .u64 rl]] W (RetN [(cb, rl)] W)) := fun W =>
      addIs (L := []) (N := [(cb, rl)]) (by simp) (by intro s hs; cases hs) td_nil (by omega) hc1.2 (by omega) (by intro s hs; cases hs) hT1 (fun y => by simp [hasL]) none 0 W ⟨Nat.le_refl _, Nat.zero_le _, .inl rfl⟩
    have CA2 : Hid (∀ A c W, SlAt W A c [(cb, rl)] → Calls Try.prog 14 #[.slice A 1 c, .agg #[.int .u64 rb, .int .u64 cb]] W (RetN [(rb, rl)] W)) := fun A c W hW =>
      addIs (L := [(cb, rl)]) (N := [(rb, rl)]) (by simp) hB1 hT1 (by omega) hc1.1 (by omega) (fun s hs => by obtain rfl := List.mem_singleton.1 hs; exact .inr (Int.le_refl _)) hT2 (fun y => by
        rw [hasL_cons, hasL_cons, hasL_nil, Bool.or_false, Bool.or_false, Bool.or_comm]
        exact hasB_join (by omega) (by omega)) A c W hW
    have CS2 : Hid (∀ A A2 c c2 W, SlAt W A c [(rb, rl)] → SlAt W A2 c2 [(rb, rl)] → Calls Try.prog 15 #[.slice A 1 c, .slice A2 1 c2] W fun e w' => e = .returned (.bool (sameB [(rb, rl)] [(rb, rl)])) ∧ Nx W w') := fun A A2 c c2 W hW hW2 =>
      sSame_any A A2 c c2 [(rb, rl)] [(rb, rl)] W hW hW2 (by simp) (by simp)
    rw [show sameB [(rb, rl)] [(rb, rl)] = true by simp [sameB]] at CS2
    unfold RetN at CA1 CA2
    rw [show szI rb rl = totL [(rb, rl)] by simp [totL]] at CZ
    have CA1' : Hid (∀ W, Calls Try.prog 14 #[.slice none 0 0, .agg #[.int .u64 cb, .int .u64 rl]] W fun e w' => ∃ A c, e = .returned (.tuple #[.slice A 1 c, .int .u64 (totL [(cb, rl)])]) ∧ SlAt w' A c [(cb, rl)] ∧ Nx W w') := CA1
    have CA2' : Hid (∀ A c W, SlAt W A c [(cb, rl)] → Calls Try.prog 14 #[.slice A 1 c, .agg #[.int .u64 rb, .int .u64 cb]] W fun e w' => ∃ A c, e = .returned (.tuple #[.slice A 1 c, .int .u64 (totL [(rb, rl)])]) ∧ SlAt w' A c [(rb, rl)] ∧ Nx W w') := CA2
    clear CA1 CA2 hT1 hT2 hB1
    generalize totL [(rb, rl)] = tr at *
    generalize totL [(cb, rl)] = tc at *
    have hq : (tr == tr) = true := by simp
    have hdz : (d == 0) = false := by rw [beq_eq_false_iff_ne]; omega
    have hdn : ¬ d = 0 := by omega
    have HD := Lib.hid (And.intro hd hcb)
    clear hd hcb
    go_enter Try.func3, Try.ntmps3
    go_wp2_with fail
    refine (CR.out _).mono ?_
    rintro e w1 ⟨rfl, n1⟩
    have bV := Bk.new w1 #[.int .u64 rb, .int .u64 rl] 24
    have hb1 : Nx w (w1.alloc (.cells #[.int .u64 rb, .int .u64 rl] 24)) := Below.alloc n1 (Below.size n1) _
    have v0 := bV.cell 0
    have v1 := bV.cell 1
    go_upto_region 2 with fail
    generalize w1.alloc (.cells #[.int .u64 rb, .int .u64 rl] 24) = U at bV hb1 v0 v1 ⊢
    have hS : ∀ w', Nx U w' → w'.cell? ⟨w1.heap.size, 0, none⟩ = some (.int .u64 rb) ∧ w'.cell? ⟨w1.heap.size, 1, none⟩ = some (.int .u64 rl) ∧ Nx U w' := fun w' k => ⟨(bV.nx k).cell 0, (bV.nx k).cell 1, k⟩
    go_upto_region 4 with fail
    refine wp_region_held_drew (S := fun w' => w'.cell? ⟨w1.heap.size, 0, none⟩ = some (.int .u64 rb) ∧ w'.cell? ⟨w1.heap.size, 1, none⟩ = some (.int .u64 rl) ∧ Nx U w') (by kernel_rfl) ?_ (fun hHeld => ?_)
    focus (exact hS _ ((Below.refl _ _).drew))
    (refine takeT (i := 0) (v := ?_) rfl ?_ (fun _ _ _ h => h) rfl hHeld ?_ ?_; rotate_left; (focus kernel_rfl); (focus (intro w hSw; (try dsimp only at hSw); go_simp; (try with_reducible rfl))); (try simp only [Act.put, List.setIfInBounds_toArray, List.set_cons_zero, List.set_cons_succ]))
    (refine takeT (i := 1) (v := ?_) rfl ?_ (fun _ _ _ h => h) rfl hHeld ?_ ?_; rotate_left; (focus kernel_rfl); (focus (intro w hSw; (try dsimp only at hSw); go_simp; (try with_reducible rfl))); (try simp only [Act.put, List.setIfInBounds_toArray, List.set_cons_zero, List.set_cons_succ]))
    (refine takeT (i := 2) (v := ?_) rfl ?_ (fun _ _ _ h => h) rfl hHeld ?_ ?_; rotate_left; (focus kernel_rfl); (focus (intro w hSw; (try dsimp only at hSw); go_simp; (try with_reducible rfl))); (try simp only [Act.put, List.setIfInBounds_toArray, List.set_cons_zero, List.set_cons_succ]))
    (refine takeT (i := 3) (v := ?_) rfl ?_ (fun _ _ _ h => h) rfl hHeld ?_ ?_; rotate_left; (focus kernel_rfl); (focus (intro w hSw; (try dsimp only at hSw); go_simp; (try with_reducible rfl))); (try simp only [Act.put, List.setIfInBounds_toArray, List.set_cons_zero, List.set_cons_succ]))
    (refine takeT (i := 4) (v := ?_) rfl ?_ (fun _ _ _ h => h) rfl hHeld ?_ ?_; rotate_left; (focus kernel_rfl); (focus (intro w hSw; (try dsimp only at hSw); go_simp; (try with_reducible rfl))); (try simp only [Act.put, List.setIfInBounds_toArray, List.set_cons_zero, List.set_cons_succ]))
    (refine takeT (i := 5) (v := ?_) rfl ?_ (fun _ _ _ h => h) rfl hHeld ?_ ?_; rotate_left; (focus kernel_rfl); (focus (intro w hSw; (try dsimp only at hSw); go_simp; (try with_reducible rfl))); (try simp only [Act.put, List.setIfInBounds_toArray, List.set_cons_zero, List.set_cons_succ]))
    (refine takeT (i := 6) (v := ?_) rfl ?_ (fun _ _ _ h => h) rfl hHeld ?_ ?_; rotate_left; (focus kernel_rfl); (focus (intro w hSw; (try dsimp only at hSw); go_simp; (try with_reducible rfl))); (try simp only [Act.put, List.setIfInBounds_toArray, List.set_cons_zero, List.set_cons_succ]))
    (refine takeT (i := 7) (v := ?_) rfl ?_ (fun _ _ _ h => h) rfl hHeld ?_ ?_; rotate_left; (focus kernel_rfl); (focus (intro w hSw; (try dsimp only at hSw); go_simp; (try with_reducible rfl))); (try simp only [Act.put, List.setIfInBounds_toArray, List.set_cons_zero, List.set_cons_succ]))
    (refine takeT (i := 8) (v := ?_) rfl ?_ (fun _ _ _ h => h) rfl hHeld ?_ ?_; rotate_left; (focus kernel_rfl); (focus (intro w hSw; (try dsimp only at hSw); go_simp; (try with_reducible rfl))); (try simp only [Act.put, List.setIfInBounds_toArray, List.set_cons_zero, List.set_cons_succ]))
    (refine takeT (i := 9) (v := ?_) rfl ?_ (fun _ _ _ h => h) rfl hHeld ?_ ?_; rotate_left; (focus kernel_rfl); (focus (intro w hSw; (try dsimp only at hSw); go_simp; (try with_reducible rfl))); (try simp only [Act.put, List.setIfInBounds_toArray, List.set_cons_zero, List.set_cons_succ]))
    (refine takeT (i := 10) (v := ?_) rfl ?_ (fun _ _ _ h => h) rfl hHeld ?_ ?_; rotate_left; (focus kernel_rfl); (focus (intro w hSw; (try dsimp only at hSw); go_simp; (try with_reducible rfl))); (try simp only [Act.put, List.setIfInBounds_toArray, List.set_cons_zero, List.set_cons_succ]))
    (refine takeT (i := 11) (v := ?_) rfl ?_ (fun _ _ _ h => h) rfl hHeld ?_ ?_; rotate_left; (focus kernel_rfl); (focus (intro w hSw; (try dsimp only at hSw); go_simp; (try with_reducible rfl))); (try simp only [Act.put, List.setIfInBounds_toArray, List.set_cons_zero, List.set_cons_succ]))
    (refine takeT (i := 12) (v := ?_) rfl ?_ (fun _ _ _ h => h) rfl hHeld ?_ ?_; rotate_left; (focus kernel_rfl); (focus (intro w hSw; (try dsimp only at hSw); go_simp; (try with_reducible rfl))); (try simp only [Act.put, List.setIfInBounds_toArray, List.set_cons_zero, List.set_cons_succ]))
    (refine takeT (i := 13) (v := ?_) rfl ?_ (fun _ _ _ h => h) rfl hHeld ?_ ?_; rotate_left; (focus kernel_rfl); (focus (intro w hSw; (try dsimp only at hSw); go_simp; (try with_reducible rfl))); (try simp only [Act.put, List.setIfInBounds_toArray, List.set_cons_zero, List.set_cons_succ]))
    (refine takeT (i := 14) (v := ?_) rfl ?_ (fun _ _ _ h => h) rfl hHeld ?_ ?_; rotate_left; (focus kernel_rfl); (focus (intro w hSw; (try dsimp only at hSw); go_simp; (try with_reducible rfl))); (try simp only [Act.put, List.setIfInBounds_toArray, List.set_cons_zero, List.set_cons_succ]))
    (refine doOne (i := 15) rfl ?_ (fun K hK => ?_); (focus kernel_rfl))
    ((first | fail | go_simp); (first | ((first | fail); go_wp2_with fail) | skip); refine hK.out _ _ ?_ (fun hHeldN => ?_); (focus (exact hS _ (by show Below _ _ _; repeat (first | (with_reducible exact Below.refl _ _) | (with_reducible assumption) | (with_reducible refine Below.drew ?_) | ((with_reducible refine Below.alloc ?_ ?_ _); rotate_left; (focus first | omega | (simp; done) | (simp; omega))) | ((with_reducible refine Below.setCell ?_ ?_ _); rotate_left; (focus first | omega | (simp; done) | (simp; omega))) | ((with_reducible refine bl_step (by assumption) ?_ ?_); rotate_left; (focus first | omega | (simp; done) | (simp; omega))))))); clear hHeld hK K; have hHeld := hHeldN; clear hHeldN; (try simp only [Act.put, List.setIfInBounds_toArray, List.set_cons_zero, List.set_cons_succ]))
    (refine doOne (i := 16) rfl ?_ (fun K hK => ?_); (focus kernel_rfl))
    ((first | fail | go_simp); (first | ((first | fail); go_wp2_with fail) | skip); refine hK.out _ _ ?_ (fun hHeldN => ?_); (focus (exact hS _ (by show Below _ _ _; repeat (first | (with_reducible exact Below.refl _ _) | (with_reducible assumption) | (with_reducible refine Below.drew ?_) | ((with_reducible refine Below.alloc ?_ ?_ _); rotate_left; (focus first | omega | (simp; done) | (simp; omega))) | ((with_reducible refine Below.setCell ?_ ?_ _); rotate_left; (focus first | omega | (simp; done) | (simp; omega))) | ((with_reducible refine bl_step (by assumption) ?_ ?_); rotate_left; (focus first | omega | (simp; done) | (simp; omega))))))); clear hHeld hK K; have hHeld := hHeldN; clear hHeldN; (try simp only [Act.put, List.setIfInBounds_toArray, List.set_cons_zero, List.set_cons_succ]))
    (refine wpAnyH_done (by kernel_rfl) ?_ _)
    have kk := hHeld.2.2
    clear hHeld hS v0 v1
    have bC := (Bk.new U #[.int .u64 cb, .int .u64 rl] 24).drew
    replace bV := bV.nx kk
    replace hb1 : Nx w (U.alloc (.cells #[.int .u64 cb, .int .u64 rl] 24)).drew := bl_step kk hb1 hb1.size
    generalize (U.alloc (.cells #[.int .u64 cb, .int .u64 rl] 24)).drew = X at bV bC hb1 kk ⊢
    clear kk e1 e2 e3 e4 e5 hqt hdz hdn
    have v0 := bV.cell 0
    have v1 := bV.cell 1
    have y0 := bC.cell 0
    have y1 := bC.cell 1
    go_wp2_with fail
    refine (CS1.out _).mono ?_
    rintro e w5 ⟨rfl, n5⟩
    have bL := Bk.new w5 #[.int .u64 rb, .int .u64 cb] 24
    replace bV := (bV.nx n5).alloc (.cells #[.int .u64 rb, .int .u64 cb] 24)
    replace bC := (bC.nx n5).alloc (.cells #[.int .u64 rb, .int .u64 cb] 24)
    replace hb1 : Nx w (w5.alloc (.cells #[.int .u64 rb, .int .u64 cb] 24)) := (bl_step n5 hb1 hb1.size).alloc (by have := hb1.size; have := Below.size n5; omega) _
    clear n5 v0 v1 y0 y1
    go_upto_region 6 with fail
    generalize w5.alloc (.cells #[.int .u64 rb, .int .u64 cb] 24) = Y at bV bC bL hb1 ⊢
    have y0 := bC.cell 0
    have y1 := bC.cell 1
    go_wp2_with fail
    refine (CA1'.out _).mono ?_
    rintro e w6 ⟨A1, c1, rfl, hs1, n6⟩
    replace bV := bV.nx n6
    replace bL := bL.nx n6
    replace hb1 : Nx w w6 := bl_step n6 hb1 hb1.size
    clear n6 y0 y1 bC
    have z0 := bL.cell 0
    have z1 := bL.cell 1
    go_wp2_with fail
    refine (CA2'.out _ _ _ hs1).mono ?_
    rintro e w7 ⟨A2, c2, rfl, hs2, n7⟩
    replace bV := bV.nx n7
    replace hb1 : Nx w w7 := bl_step n7 hb1 hb1.size
    clear n7 z0 z1 bL hs1
    have v0 := bV.cell 0
    have v1 := bV.cell 1
    go_wp2_with fail
    refine (CS2.out _ _ _ _ _ (hs2.alloc _) (slAt_one w7 rb rl 24 rfl)).mono ?_
    rintro e w8 ⟨rfl, n8⟩
    have n9 : Nx w7 w8 := bl_step n8 ((Below.refl _ _).alloc (Nat.le_refl _) _) (by simp)
    replace bV := bV.nx n9
    replace hb1 : Nx w w8 := bl_step n9 hb1 hb1.size
    clear n8 n9 v0 v1
    have v0 := bV.cell 0
    have v1 := bV.cell 1
    go_wp2_with fail
    refine (CZ.out _).mono ?_
    rintro e w10 ⟨rfl, n10⟩
    go_wp2
    go_ret
    exact ⟨rfl, bl_step n10 hb1 hb1.size⟩

set_option maxRecDepth 100000 in
theorem lifted (os : Os) (started : os.Started) (H : Type) (enc : TypeId × Value → H) :
    ReturnsInHanded {} Try.checked os 3 .any (Rows.fnSubtractAddSpec.pre6 enc Try.prog Try.f3 Rows.fnSubtractAddRow.domain false) (Rows.fnSubtractAddSpec.post enc Try.prog Try.f3 false true false false) := by
  refine returnsInHanded_of_change (C := Try.checked) own started (by kernel_rfl) Try.func3
    (ChangeSpec.witness6 (enc := enc) (C := Try.checked) false ⟨#[], #[.int .u64 0, .int .u64 0, .int .u64 0], []⟩ 8 (by kernel_rfl) (by kernel_rfl) (by kernel_rfl) (by kernel_rfl)) ?_
  intro W base args ds gs before hval0 hW hcnd _
  have hval : ∀ (j : Nat) t v, Try.f3.params[j]? = some t → args[j]? = some v → Value.okWide Try.prog W .any base t v := hval0
  have hW' := hW
  obtain ⟨p, q, hA0, hV, rfl, hfz, hnd⟩ := hW
  have hA : DataW.TrodAll enc Try.prog W 0 (fun _ => true) true Try.f3.params.toList args.toList ds p := hA0
  rw [Try.params3] at hA hval
  obtain ⟨v0, vs0, d0, ds0, p0, q0, hargs, rfl, rfl, h0, r0⟩ := trodAll_cons hA
  obtain ⟨v1, vs1, d1, ds1, p1, q1, rfl, rfl, rfl, h1, r1⟩ := trodAll_cons r0
  obtain ⟨v2, vs2, d2, ds2, p2, q2, rfl, rfl, rfl, h2, r2⟩ := trodAll_cons r1
  obtain ⟨rfl, rfl, rfl⟩ := trodAll_nil r2
  obtain rfl : args = #[v0, v1, v2] := by cases args; simp_all
  obtain ⟨rfl, rfl⟩ := trodVars_none hV
  obtain ⟨a0, rfl, rfl, rfl, w0⟩ := open_int Try.underlying22 (hval 0 22 v0 rfl rfl) h0
  obtain ⟨a1, rfl, rfl, rfl, w1⟩ := open_int Try.underlying22 (hval 1 22 v1 rfl rfl) h1
  obtain ⟨a2, rfl, rfl, rfl, w2⟩ := open_int Try.underlying22 (hval 2 22 v2 rfl rfl) h2
  clear hA0 hval0
  refine (walk a0 a1 a2 W w0 w1 w2).mono fun e W' ⟨he, bel⟩ => ?_
  subst he
  exact ⟨_, rfl, _, _, _, [], _, [], hW', trodAll_mk1 (shut_bool Try.underlying4 _), (trodAll_cons_mk (shut_int Try.underlying22 w0) (trodAll_cons_mk (shut_int Try.underlying22 w1) (trodAll_cons_mk (shut_int Try.underlying22 w2) trodAll_mk0))), rfl, Below.frame bel _, fun h => by cases h⟩
theorem over : Rows.fnSubtractAddRow.holds Try.pinned (OpenSpec.ofChange Rows.fnSubtractAddSpec) :=
  OpenClaim.holds_of_wide 3 Try.f3 rfl rfl rfl rfl rfl rfl rfl ⟨rfl, rfl, rfl, rfl, rfl⟩ rfl rfl rfl rfl rfl (by kernel_rfl) Try.func3 (by kernel_rfl)
    (of_decide_eq_true (by kernel_rfl)) (by unfold Func.isWrapper; first | (rw [if_pos (by decide +kernel)]; kernel_rfl) | (rw [if_neg (by decide +kernel)]; exact ⟨rfl, rfl⟩))
    (fun os started H enc _ => lifted os started H enc)
theorem proved : Rows.FnSubtractAddSaid := over
#print axioms proved
end Go.Proofs.Ytnmljgjcdofboaa.fnSubtractAdd
