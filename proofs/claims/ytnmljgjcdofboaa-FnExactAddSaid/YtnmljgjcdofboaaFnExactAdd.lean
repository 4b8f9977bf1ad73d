/- FnExactAdd: for all numbers, the list that they tell with one more range, of which it has no address, is the list with this, joined with those that are next to it, and its sum. No condition. -/
import Derived.Test.YtnmljgjcdofboaaRows
import Derived.Test.YtnmljgjcdofboaaTl2
import Derived.Test.YtnmljgjcdofboaaJn
import Derived.ProofKit
import Derived.OpenShut
import Derived.ShutString
import Derived.ChangeOld
import Derived.Below
namespace Go.Proofs.Ytnmljgjcdofboaa.fnExactAdd
open Go.ChangeShapes Go.WideShapes Go.ChangeAt Go.RowKit
set_option linter.unusedVariables false
set_option linter.unusedSimpArgs false
theorem own : ownKnob Try.prog.godebug = none := by kernel_rfl
theorem laidOut : laidOutB Try.prog = true := by kernel_rfl

set_option maxHeartbeats 2000000 in
theorem walk (a0 : Option Addr) (len0 cap0 : Nat) (z0 : List Int) (a1 : Int) (a2 : Int) (w : World) (w0 : IsRow .u16 w a0 len0 cap0 z0) (w1 : (Lit.int .u64 a1).wf = true) (w2 : (Lit.int .u64 a2).wf = true) :
    Calls Try.prog 8 #[.slice a0 len0 cap0, .int .u64 a1, .int .u64 a2] w fun e w' => e = .returned (.bool true) ∧ Nx w w' := by
  have h1 := u64_lo w1
  have b1 : 0 ≤ a1 % 1099511627776 ∧ a1 % 1099511627776 < 1099511627776 := by omega
  have h2 := u64_lo w2
  have b2 : 0 ≤ a2 % 1099511627776 ∧ a2 % 1099511627776 < 1099511627776 := by omega
  by_cases hbig : 2147483647 < len0
  · go_enter Try.func8, Try.ntmps8
    go_wp2
    go_ret
    exact ⟨rfl, Below.refl _ _⟩
  · have hz16 := w0.z16
    have hlist := sList_any a0 len0 cap0 z0 w w0
    have hk : min len0 65536 / 2 ≤ 32768 := by omega
    have hn := Nat.le_trans (Nat.le_of_eq (genL_length z0 (min len0 65536 / 2))) hk
    have hL := genL_InB hz16 _ hk
    have hT := genL_td' hz16 (min len0 65536 / 2)
    have hL2 := Lib.hid (genL_inB hz16 _ hk)
    generalize genL z0 (min len0 65536 / 2) = L at hlist hn hL hT hL2
    clear hk hz16 w0
    obtain ⟨r1, r2, r3⟩ := rg_in a1 a2
    have CR := Lib.hid (fun W => sRange_any a1 a2 W h1 h2)
    generalize rgB a1 a2 = rb at *
    generalize rgL a1 a2 = rl at *
    have CM := Lib.hid (fun A c W h => sMeets_any A c L rb rl W h (by omega))
    by_cases hmt : meetsB L (rb, rl) = true
    · rw [hmt] at CM
      clear hL hT hL2
      go_enter Try.func8, Try.ntmps8
      go_wp2_with fail
      refine hlist.mono ?_
      rintro e w1 ⟨A, c, rfl, hs, n1⟩
      clear hlist
      go_wp2_with fail
      refine (CR.out _).mono ?_
      rintro e w2 ⟨rfl, n2⟩
      replace hs := hs.nx n2
      have hb2 : Nx w w2 := bl_step n2 n1 n1.size
      clear n1 n2
      have bV := Bk.new w2 #[.int .u64 rb, .int .u64 rl] 24
      have hb3 : Nx w (w2.alloc (.cells #[.int .u64 rb, .int .u64 rl] 24)) := hb2.alloc hb2.size _
      replace hs := hs.alloc (.cells #[.int .u64 rb, .int .u64 rl] 24)
      go_upto_region 4 with fail
      generalize w2.alloc (.cells #[.int .u64 rb, .int .u64 rl] 24) = U at bV hb3 hs ⊢
      clear hb2
      have v0 := bV.cell 0
      have v1 := bV.cell 1
      go_wp2_with fail
      refine (CM.out _ _ _ hs).mono ?_
      rintro e w3 ⟨rfl, n3⟩
      replace hb3 : Nx w w3 := bl_step n3 hb3 hb3.size
      go_wp2
      go_ret
      exact ⟨rfl, hb3⟩
    · replace hmt : meetsB L (rb, rl) = false := by simpa using hmt
      rw [hmt] at CM
      have hA := meetsB_no.1 hmt
      obtain ⟨M, hM⟩ := addAt_ex hT (r := (rb, rl)) r2 hA
      have hMl := hM.len
      have hMt := hM.tot
      have hJ := hM.join hT r2 hA
      have CA := Lib.hid (fun A c W h => addIs (N := M) (by omega) hL hT r1 r2 (by omega) hA hM.td (fun y => (hM.has y).symm) A c W h)
      unfold RetN at CA
      have CJ := Lib.hid (fun A c W h => sJoin_any A c L rb rl W h hn hL (by omega))
      rw [← hJ] at CJ
      unfold RetL at CJ
      have CS := Lib.hid (fun A A2 c c2 W h h2 => sSame_any A A2 c c2 M M W h h2 (by omega) (by omega))
      rw [show sameB M M = true by simp [sameB]] at CS
      have CT := Lib.hid (fun A c W h => sTotal_any A c L W h (by omega) hL)
      have CZ := Lib.hid (fun W => sSize_any rb rl W (by omega) (by omega) (by omega) (by omega))
      rw [szI_pos r2] at CZ
      have htb := totL_bd L hL
      have hw : IntKind.u64.wrap (totL L + (rl - rb)) = totL M := by rw [hMt]; exact IntWalk.u64_in _ (by omega)
      have hq : (totL M == totL M) = true := by simp
      clear hM hMt hJ hA hmt hL hT hL2 htb
      generalize totL M = tM at *
      generalize totL L = tL at *
      go_enter Try.func8, Try.ntmps8
      go_wp2_with fail
      refine hlist.mono ?_
      rintro e w1 ⟨A, c, rfl, hs, n1⟩
      clear hlist
      go_wp2_with fail
      refine (CR.out _).mono ?_
      rintro e w2 ⟨rfl, n2⟩
      replace hs := hs.nx n2
      have hb2 : Nx w w2 := bl_step n2 n1 n1.size
      clear n1 n2
      have bV := Bk.new w2 #[.int .u64 rb, .int .u64 rl] 24
      have hb3 : Nx w (w2.alloc (.cells #[.int .u64 rb, .int .u64 rl] 24)) := hb2.alloc hb2.size _
      replace hs := hs.alloc (.cells #[.int .u64 rb, .int .u64 rl] 24)
      go_upto_region 4 with fail
      generalize w2.alloc (.cells #[.int .u64 rb, .int .u64 rl] 24) = U at bV hb3 hs ⊢
      clear hb2
      have v0 := bV.cell 0
      have v1 := bV.cell 1
      go_wp2_with fail
      refine (CM.out _ _ _ hs).mono ?_
      rintro e w3 ⟨rfl, n3⟩
      replace bV := bV.nx n3
      replace hs := hs.nx n3
      replace hb3 : Nx w w3 := bl_step n3 hb3 hb3.size
      clear n3 v0 v1 CM
      have v0 := bV.cell 0
      have v1 := bV.cell 1
      go_wp2_with fail
      refine (CA.out _ _ _ hs).mono ?_
      rintro e w4 ⟨A4, c4, rfl, hs4, n4⟩
      replace bV := bV.nx n4
      replace hs := hs.nx n4
      replace hb3 : Nx w w4 := bl_step n4 hb3 hb3.size
      clear n4 v0 v1 CA
      have hS : ∀ w', Nx w4 w' → w'.cell? ⟨w2.heap.size, 0, none⟩ = some (.int .u64 rb) ∧ w'.cell? ⟨w2.heap.size, 1, none⟩ = some (.int .u64 rl) ∧ Nx w4 w' := fun w' k => ⟨(bV.nx k).cell 0, (bV.nx k).cell 1, k⟩
      go_upto_region 7 with fail
      refine wp_region_held_drew (S := fun w' => w'.cell? ⟨w2.heap.size, 0, none⟩ = some (.int .u64 rb) ∧ w'.cell? ⟨w2.heap.size, 1, none⟩ = some (.int .u64 rl) ∧ Nx w4 w') (by kernel_rfl) ?_ (fun hHeld => ?_)
      focus (exact hS _ ((Below.refl _ _).drew))
      (refine takeT (i := 0) (v := ?_) rfl ?_ (fun _ _ _ h => h) rfl hHeld ?_ ?_; rotate_left; (focus kernel_rfl); (focus (intro w hSw; (try dsimp only at hSw); go_simp; (try with_reducible rfl))); (try simp only [Act.put, List.setIfInBounds_toArray, List.set_cons_zero, List.set_cons_succ]))
      (refine takeT (i := 1) (v := ?_) rfl ?_ (fun _ _ _ h => h) rfl hHeld ?_ ?_; rotate_left; (focus kernel_rfl); (focus (intro w hSw; (try dsimp only at hSw); go_simp; (try with_reducible rfl))); (try simp only [Act.put, List.setIfInBounds_toArray, List.set_cons_zero, List.set_cons_succ]))
      (refine takeT (i := 2) (v := ?_) rfl ?_ (fun _ _ _ h => h) rfl hHeld ?_ ?_; rotate_left; (focus kernel_rfl); (focus (intro w hSw; (try dsimp only at hSw); go_simp; (try with_reducible rfl))); (try simp only [Act.put, List.setIfInBounds_toArray, List.set_cons_zero, List.set_cons_succ]))
      (refine doOne (i := 3) rfl ?_ (fun K hK => ?_); (focus kernel_rfl))
      ((first | fail | go_simp); (first | ((first | first | (go_at_call 24; refine (CJ.out _ _ _ (hs.nx hHeld.2.2)).mono ?_; rintro e wh ⟨A5, c5, rfl, hs5, nh⟩) | (go_at_call 15; refine (CS.out _ _ _ _ _ (hs4.nx hHeld.2.2) hs5).mono ?_; rintro e wh ⟨rfl, nh⟩) | (go_at_call 20; refine (CT.out _ _ _ (hs.nx hHeld.2.2)).mono ?_; rintro e wh ⟨rfl, nh⟩) | (go_at_call 19; refine (CZ.out _).mono ?_; rintro e wh ⟨rfl, nh⟩)); go_wp2_with fail) | skip); refine hK.out _ _ ?_ (fun hHeldN => ?_); (focus (exact hS _ (bl_step nh hHeld.2.2 (Below.size hHeld.2.2)))); clear hHeld hK K; have hHeld := hHeldN; clear hHeldN; (try simp only [Act.put, List.setIfInBounds_toArray, List.set_cons_zero, List.set_cons_succ]))
      (refine doOne (i := 4) rfl ?_ (fun K hK => ?_); (focus kernel_rfl))
      ((first | fail | go_simp); (first | ((first | first | (go_at_call 24; refine (CJ.out _ _ _ (hs.nx hHeld.2.2)).mono ?_; rintro e wh ⟨A5, c5, rfl, hs5, nh⟩) | (go_at_call 15; refine (CS.out _ _ _ _ _ (hs4.nx hHeld.2.2) hs5).mono ?_; rintro e wh ⟨rfl, nh⟩) | (go_at_call 20; refine (CT.out _ _ _ (hs.nx hHeld.2.2)).mono ?_; rintro e wh ⟨rfl, nh⟩) | (go_at_call 19; refine (CZ.out _).mono ?_; rintro e wh ⟨rfl, nh⟩)); go_wp2_with fail) | skip); refine hK.out _ _ ?_ (fun hHeldN => ?_); (focus (exact hS _ (bl_step nh hHeld.2.2 (Below.size hHeld.2.2)))); clear hHeld hK K; have hHeld := hHeldN; clear hHeldN; (try simp only [Act.put, List.setIfInBounds_toArray, List.set_cons_zero, List.set_cons_succ]))
      (refine takeT (i := 5) (v := ?_) rfl ?_ (fun _ _ _ h => h) rfl hHeld ?_ ?_; rotate_left; (focus kernel_rfl); (focus (intro w hSw; (try dsimp only at hSw); go_simp; (try with_reducible rfl))); (try simp only [Act.put, List.setIfInBounds_toArray, List.set_cons_zero, List.set_cons_succ]))
      (refine takeT (i := 6) (v := ?_) rfl ?_ (fun _ _ _ h => h) rfl hHeld ?_ ?_; rotate_left; (focus kernel_rfl); (focus (intro w hSw; (try dsimp only at hSw); go_simp; (try with_reducible rfl))); (try simp only [Act.put, List.setIfInBounds_toArray, List.set_cons_zero, List.set_cons_succ]))
      (refine takeT (i := 7) (v := ?_) rfl ?_ (fun _ _ _ h => h) rfl hHeld ?_ ?_; rotate_left; (focus kernel_rfl); (focus (intro w hSw; (try dsimp only at hSw); go_simp; (try with_reducible rfl))); (try simp only [Act.put, List.setIfInBounds_toArray, List.set_cons_zero, List.set_cons_succ]))
      (refine takeT (i := 9) (v := ?_) rfl ?_ (fun _ _ _ h => h) rfl hHeld ?_ ?_; rotate_left; (focus kernel_rfl); (focus (intro w hSw; (try dsimp only at hSw); go_simp; (try with_reducible rfl))); (try simp only [Act.put, List.setIfInBounds_toArray, List.set_cons_zero, List.set_cons_succ]))
      (refine doOne (i := 8) rfl ?_ (fun K hK => ?_); (focus kernel_rfl))
      ((first | fail | go_simp); (first | ((first | first | (go_at_call 24; refine (CJ.out _ _ _ (hs.nx hHeld.2.2)).mono ?_; rintro e wh ⟨A5, c5, rfl, hs5, nh⟩) | (go_at_call 15; refine (CS.out _ _ _ _ _ (hs4.nx hHeld.2.2) hs5).mono ?_; rintro e wh ⟨rfl, nh⟩) | (go_at_call 20; refine (CT.out _ _ _ (hs.nx hHeld.2.2)).mono ?_; rintro e wh ⟨rfl, nh⟩) | (go_at_call 19; refine (CZ.out _).mono ?_; rintro e wh ⟨rfl, nh⟩)); go_wp2_with fail) | skip); refine hK.out _ _ ?_ (fun hHeldN => ?_); (focus (exact hS _ (bl_step nh hHeld.2.2 (Below.size hHeld.2.2)))); clear hHeld hK K; have hHeld := hHeldN; clear hHeldN; (try simp only [Act.put, List.setIfInBounds_toArray, List.set_cons_zero, List.set_cons_succ]))
      (refine doOne (i := 10) rfl ?_ (fun K hK => ?_); (focus kernel_rfl))
      ((first | fail | go_simp); (first | ((first | first | (go_at_call 24; refine (CJ.out _ _ _ (hs.nx hHeld.2.2)).mono ?_; rintro e wh ⟨A5, c5, rfl, hs5, nh⟩) | (go_at_call 15; refine (CS.out _ _ _ _ _ (hs4.nx hHeld.2.2) hs5).mono ?_; rintro e wh ⟨rfl, nh⟩) | (go_at_call 20; refine (CT.out _ _ _ (hs.nx hHeld.2.2)).mono ?_; rintro e wh ⟨rfl, nh⟩) | (go_at_call 19; refine (CZ.out _).mono ?_; rintro e wh ⟨rfl, nh⟩)); go_wp2_with fail) | skip); refine hK.out _ _ ?_ (fun hHeldN => ?_); (focus (exact hS _ (bl_step nh hHeld.2.2 (Below.size hHeld.2.2)))); clear hHeld hK K; have hHeld := hHeldN; clear hHeldN; (try simp only [Act.put, List.setIfInBounds_toArray, List.set_cons_zero, List.set_cons_succ]))
      (refine takeT (i := 11) (v := ?_) rfl ?_ (fun _ _ _ h => h) rfl hHeld ?_ ?_; rotate_left; (focus kernel_rfl); (focus (intro w hSw; (try dsimp only at hSw); go_simp; (try with_reducible rfl))); (try simp only [Act.put, List.setIfInBounds_toArray, List.set_cons_zero, List.set_cons_succ]))
      (refine takeT (i := 12) (v := ?_) rfl ?_ (fun _ _ _ h => h) rfl hHeld ?_ ?_; rotate_left; (focus kernel_rfl); (focus (intro w hSw; (try dsimp only at hSw); go_simp; (try with_reducible rfl))); (try simp only [Act.put, List.setIfInBounds_toArray, List.set_cons_zero, List.set_cons_succ]))
      (refine takeT (i := 13) (v := ?_) rfl ?_ (fun _ _ _ h => h) rfl hHeld ?_ ?_; rotate_left; (focus kernel_rfl); (focus (intro w hSw; (try dsimp only at hSw); go_simp; (try with_reducible rfl))); (try simp only [Act.put, List.setIfInBounds_toArray, List.set_cons_zero, List.set_cons_succ]))
      (refine takeT (i := 14) (v := ?_) rfl ?_ (fun _ _ _ h => h) rfl hHeld ?_ ?_; rotate_left; (focus kernel_rfl); (focus (intro w hSw; (try dsimp only at hSw); go_simp; (try with_reducible rfl))); (try simp only [Act.put, List.setIfInBounds_toArray, List.set_cons_zero, List.set_cons_succ]))
      (refine wpAnyH_done (by kernel_rfl) ?_ _)
      go_wp2
      go_ret
      exact ⟨rfl, bl_step hHeld.2.2 hb3 hb3.size⟩

set_option maxRecDepth 100000 in
theorem lifted (os : Os) (started : os.Started) (H : Type) (enc : TypeId × Value → H) :
    ReturnsInHanded {} Try.checked os 8 .any (Rows.fnExactAddSpec.pre6 enc Try.prog Try.f8 Rows.fnExactAddRow.domain false) (Rows.fnExactAddSpec.post enc Try.prog Try.f8 false true false false) := by
  refine returnsInHanded_of_change (C := Try.checked) own started (by kernel_rfl) Try.func8
    (ChangeSpec.witness6 (enc := enc) (C := Try.checked) false ⟨#[], #[.slice none 0 0, .int .u64 0, .int .u64 0], []⟩ 8 (by kernel_rfl) (by kernel_rfl) (by kernel_rfl) (by kernel_rfl)) ?_
  intro W base args ds gs before hval0 hW hcnd _
  have hval : ∀ (j : Nat) t v, Try.f8.params[j]? = some t → args[j]? = some v → Value.okWide Try.prog W .any base t v := hval0
  have hW' := hW
  obtain ⟨p, q, hA0, hV, rfl, hfz, hnd⟩ := hW
  have hA : DataW.TrodAll enc Try.prog W 0 (fun _ => true) true Try.f8.params.toList args.toList ds p := hA0
  rw [Try.params8] at hA hval
  obtain ⟨v0, vs0, d0, ds0, p0, q0, hargs, rfl, rfl, h0, r0⟩ := trodAll_cons hA
  obtain ⟨v1, vs1, d1, ds1, p1, q1, rfl, rfl, rfl, h1, r1⟩ := trodAll_cons r0
  obtain ⟨v2, vs2, d2, ds2, p2, q2, rfl, rfl, rfl, h2, r2⟩ := trodAll_cons r1
  obtain ⟨rfl, rfl, rfl⟩ := trodAll_nil r2
  obtain rfl : args = #[v0, v1, v2] := by cases args; simp_all
  obtain ⟨rfl, rfl⟩ := trodVars_none hV
  obtain ⟨a0, len0, cap0, rfl⟩ := okWide_slice Try.underlying33 (hval 0 33 v0 rfl rfl)
  have k0 := h0
  have lt0 : ∀ x ∈ p0, x.block < W.heap.size := by obtain ⟨m, hm⟩ := k0; exact DataW.trod_lt m _ _ _ hm
  obtain ⟨z0, w0⟩ : ∃ zs, IsRow .u16 W a0 len0 cap0 zs := by
    obtain ⟨fuel, hf⟩ := h0
    rcases open_ints Try.underlying33 Try.underlying59 (by kernel_rfl) hf with ⟨hcs, _⟩ | ⟨x, l, c, zs, hcs, _, hl, hm, hz, _, hcell, hwz⟩
    · simp [Value.cells] at hcs
      obtain ⟨rfl, rfl, rfl⟩ := hcs
      exact ⟨[], .inl ⟨rfl, rfl, rfl, rfl⟩⟩
    · simp [Value.cells] at hcs
      obtain ⟨rfl, rfl, rfl⟩ := hcs
      exact ⟨zs, .inr ⟨_, rfl, hl, hm, by simpa using hz, hcell, hwz⟩⟩
  obtain ⟨a1, rfl, rfl, rfl, w1⟩ := open_int Try.underlying22 (hval 1 22 v1 rfl rfl) h1
  obtain ⟨a2, rfl, rfl, rfl, w2⟩ := open_int Try.underlying22 (hval 2 22 v2 rfl rfl) h2
  clear hA0 hval0
  refine (walk a0 len0 cap0 z0 a1 a2 W w0 w1 w2).mono fun e W' ⟨he, bel⟩ => ?_
  subst he
  exact ⟨_, rfl, _, _, _, [], _, [], hW', trodAll_mk1 (shut_bool Try.underlying4 _), (trodAll_cons_mk (Below.trod laidOut (by kernel_rfl) (of_decide_eq_true (by kernel_rfl)) k0 bel lt0) (trodAll_cons_mk (shut_int Try.underlying22 w1) (trodAll_cons_mk (shut_int Try.underlying22 w2) trodAll_mk0))), rfl, Below.frame bel _, fun h => by cases h⟩
theorem over : Rows.fnExactAddRow.holds Try.pinned (OpenSpec.ofChange Rows.fnExactAddSpec) :=
  OpenClaim.holds_of_wide 8 Try.f8 rfl rfl rfl rfl rfl rfl rfl ⟨rfl, rfl, rfl, rfl, rfl⟩ rfl rfl rfl rfl rfl (by kernel_rfl) Try.func8 (by kernel_rfl)
    (of_decide_eq_true (by kernel_rfl)) (by unfold Func.isWrapper; first | (rw [if_pos (by decide +kernel)]; kernel_rfl) | (rw [if_neg (by decide +kernel)]; exact ⟨rfl, rfl⟩))
    (fun os started H enc _ => lifted os started H enc)
theorem proved : Rows.FnExactAddSaid := over
#print axioms proved
end Go.Proofs.Ytnmljgjcdofboaa.fnExactAdd
