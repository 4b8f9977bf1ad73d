/- FnAddHas: for all numbers, the list that they tell with one more range, of which it has no address, is tidy, and has just its addresses and those of the range. No condition. -/
import Derived.Test.YtnmljgjcdofboaaRows
import Derived.Test.YtnmljgjcdofboaaTl2
import Derived.Test.YtnmljgjcdofboaaSq
import Derived.ProofKit
import Derived.OpenShut
import Derived.ShutString
import Derived.ChangeOld
import Derived.Below
namespace Go.Proofs.Ytnmljgjcdofboaa.fnAddHas
open Go.ChangeShapes Go.WideShapes Go.ChangeAt Go.RowKit
set_option linter.unusedVariables false
set_option linter.unusedSimpArgs false
theorem own : ownKnob Try.prog.godebug = none := by kernel_rfl
theorem laidOut : laidOutB Try.prog = true := by kernel_rfl

set_option maxHeartbeats 2000000 in
theorem walk (a0 : Option Addr) (len0 cap0 : Nat) (z0 : List Int) (a1 : Int) (a2 : Int) (a3 : Int) (w : World) (w0 : IsRow .u16 w a0 len0 cap0 z0) (w1 : (Lit.int .u64 a1).wf = true) (w2 : (Lit.int .u64 a2).wf = true) (w3 : (Lit.int .u64 a3).wf = true) :
    Calls Try.prog 9 #[.slice a0 len0 cap0, .int .u64 a1, .int .u64 a2, .int .u64 a3] w fun e w' => e = .returned (.bool true) ∧ Nx w w' := by
  have h1 := u64_lo w1
  have b1 : 0 ≤ a1 % 1099511627776 ∧ a1 % 1099511627776 < 1099511627776 := by omega
  have h2 := u64_lo w2
  have b2 : 0 ≤ a2 % 1099511627776 ∧ a2 % 1099511627776 < 1099511627776 := by omega
  have h3 := u64_lo w3
  have b3 : 0 ≤ a3 % 1099511627776 ∧ a3 % 1099511627776 < 1099511627776 := by omega
  by_cases hbig : 2147483647 < len0
  · go_enter Try.func9, Try.ntmps9
    go_wp2
    go_ret
    exact ⟨rfl, Below.refl _ _⟩
  · have hz16 := w0.z16
    have hlist := sList_any a0 len0 cap0 z0 w w0
    have hk : min len0 65536 / 2 ≤ 32768 := by omega
    have hn := Nat.le_trans (Nat.le_of_eq (genL_length z0 (min len0 65536 / 2))) hk
    have hL := genL_InB hz16 _ hk
    have hT := genL_td' hz16 (min len0 65536 / 2)
    have hL2 := Lib.hid (genL_inB hz16 _ hk)
    generalize genL z0 (min len0 65536 / 2) = L at hlist hn hL hT hL2
    clear hk hz16 w0
    obtain ⟨r1, r2, r3⟩ := rg_in a1 a2
    have CR := Lib.hid (fun W => sRange_any a1 a2 W h1 h2)
    generalize hX : a3 % 1099511627776 = x at b3
    generalize rgB a1 a2 = rb at *
    generalize rgL a1 a2 = rl at *
    have CM := Lib.hid (fun A c W h => sMeets_any A c L rb rl W h (by omega))
    by_cases hmt : meetsB L (rb, rl) = true
    · rw [hmt] at CM
      clear hL hT hL2
      go_enter Try.func9, Try.ntmps9
      go_wp2_with fail
      refine hlist.mono ?_
      rintro e w1 ⟨A, c, rfl, hs, n1⟩
      clear hlist
      go_wp2_with fail
      refine (CR.out _).mono ?_
      rintro e w2 ⟨rfl, n2⟩
      replace hs := hs.nx n2
      have hb2 : Nx w w2 := bl_step n2 n1 n1.size
      clear n1 n2
      go_wp2_with fail
      refine (sAddr_any _ _ (by omega)).mono ?_
      rintro e w9 ⟨rfl, rfl⟩
      rw [hX]
      clear hX
      have bV := Bk.new w2 #[.int .u64 rb, .int .u64 rl] 24
      have hb3 : Nx w (w2.alloc (.cells #[.int .u64 rb, .int .u64 rl] 24)) := hb2.alloc hb2.size _
      replace hs := hs.alloc (.cells #[.int .u64 rb, .int .u64 rl] 24)
      go_upto_region 4 with fail
      generalize w2.alloc (.cells #[.int .u64 rb, .int .u64 rl] 24) = U at bV hb3 hs ⊢
      clear hb2
      have v0 := bV.cell 0
      have v1 := bV.cell 1
      go_wp2_with fail
      refine (CM.out _ _ _ hs).mono ?_
      rintro e w3 ⟨rfl, n3⟩
      replace hb3 : Nx w w3 := bl_step n3 hb3 hb3.size
      go_wp2
      go_ret
      exact ⟨rfl, hb3⟩
    · replace hmt : meetsB L (rb, rl) = false := by simpa using hmt
      rw [hmt] at CM
      have hA := meetsB_no.1 hmt
      obtain ⟨M, hM⟩ := addAt_ex hT (r := (rb, rl)) r2 hA
      have hMb := hM.inB hL ⟨by simp only; omega, by simp only; omega⟩
      have hMl := hM.len
      have hMx := hM.has x
      have CA := Lib.hid (fun A c W h => addIs (N := M) (by omega) hL hT r1 r2 (by omega) hA hM.td (fun y => (hM.has y).symm) A c W h)
      unfold RetN at CA
      have CT := Lib.hid (fun A c W h => sTidy_any A c M W h (by omega) hM.td)
      have CI := Lib.hid (fun A c W h => iInList_any A c M x W h (by omega) hMb hM.td (by omega) (by omega))
      have CN := Lib.hid (fun A c W h => sIn_any A c L x W h (by omega))
      have CH := Lib.hid (fun W => sHas_any rb rl x W)
      rw [hMx] at CI
      clear hM hMx hMb hA hmt hL hT hL2
      have hq : ((true : Bool) == true) = true := rfl
      have hq2 : ((false : Bool) == false) = true := rfl
      generalize hasL L x = hl at *
      generalize hasB rb rl x = hr at *
      generalize totL M = tM at *
      cases hl <;> cases hr
      all_goals
        simp only [Bool.or_false, Bool.or_true, Bool.or_self, Bool.false_or, Bool.true_or] at CI
        go_enter Try.func9, Try.ntmps9
        go_wp2_with fail
        refine hlist.mono ?_
        rintro e w1 ⟨A, c, rfl, hs, n1⟩
        clear hlist
        go_wp2_with fail
        refine (CR.out _).mono ?_
        rintro e w2 ⟨rfl, n2⟩
        replace hs := hs.nx n2
        have hb2 : Nx w w2 := bl_step n2 n1 n1.size
        clear n1 n2
        go_wp2_with fail
        refine (sAddr_any _ _ (by omega)).mono ?_
        rintro e w9 ⟨rfl, rfl⟩
        rw [hX]
        clear hX
        have bV := Bk.new w2 #[.int .u64 rb, .int .u64 rl] 24
        have hb3 : Nx w (w2.alloc (.cells #[.int .u64 rb, .int .u64 rl] 24)) := hb2.alloc hb2.size _
        replace hs := hs.alloc (.cells #[.int .u64 rb, .int .u64 rl] 24)
        go_upto_region 4 with fail
        generalize w2.alloc (.cells #[.int .u64 rb, .int .u64 rl] 24) = U at bV hb3 hs ⊢
        clear hb2
        have v0 := bV.cell 0
        have v1 := bV.cell 1
        go_wp2_with fail
        refine (CM.out _ _ _ hs).mono ?_
        rintro e w3 ⟨rfl, n3⟩
        replace bV := bV.nx n3
        replace hs := hs.nx n3
        replace hb3 : Nx w w3 := bl_step n3 hb3 hb3.size
        clear n3 v0 v1 CM
        have v0 := bV.cell 0
        have v1 := bV.cell 1
        go_wp2_with fail
        refine (CA.out _ _ _ hs).mono ?_
        rintro e w4 ⟨A4, c4, rfl, hs4, n4⟩
        replace bV := bV.nx n4
        replace hs := hs.nx n4
        replace hb3 : Nx w w4 := bl_step n4 hb3 hb3.size
        clear n4 v0 v1 CA
        go_wp2_with fail
        refine (CT.out _ _ _ hs4).mono ?_
        rintro e w5 ⟨rfl, n5⟩
        replace bV := bV.nx n5
        replace hs := hs.nx n5
        replace hs4 := hs4.nx n5
        replace hb3 : Nx w w5 := bl_step n5 hb3 hb3.size
        clear n5 CT
        go_wp2_with fail
        refine (CI.out _ _ _ hs4).mono ?_
        rintro e w6 ⟨rfl, n6⟩
        replace bV := bV.nx n6
        replace hs := hs.nx n6
        replace hb3 : Nx w w6 := bl_step n6 hb3 hb3.size
        clear n6 CI
        go_wp2_with fail
        refine (CN.out _ _ _ hs).mono ?_
        rintro e w7 ⟨rfl, n7⟩
        replace bV := bV.nx n7
        replace hb3 : Nx w w7 := bl_step n7 hb3 hb3.size
        clear n7 CN
        have v0 := bV.cell 0
        have v1 := bV.cell 1
        go_wp2_with (first | (go_at_call 28; refine (CH.out _).mono ?_; rintro e w8 ⟨rfl, n8⟩; replace hb3 : Nx w w8 := bl_step n8 hb3 hb3.size; clear n8))
        go_ret
        exact ⟨rfl, hb3⟩

set_option maxRecDepth 100000 in
theorem lifted (os : Os) (started : os.Started) (H : Type) (enc : TypeId × Value → H) :
    ReturnsInHanded {} Try.checked os 9 .any (Rows.fnAddHasSpec.pre6 enc Try.prog Try.f9 Rows.fnAddHasRow.domain false) (Rows.fnAddHasSpec.post enc Try.prog Try.f9 false true false false) := by
  refine returnsInHanded_of_change (C := Try.checked) own started (by kernel_rfl) Try.func9
    (ChangeSpec.witness6 (enc := enc) (C := Try.checked) false ⟨#[], #[.slice none 0 0, .int .u64 0, .int .u64 0, .int .u64 0], []⟩ 8 (by kernel_rfl) (by kernel_rfl) (by kernel_rfl) (by kernel_rfl)) ?_
  intro W base args ds gs before hval0 hW hcnd _
  have hval : ∀ (j : Nat) t v, Try.f9.params[j]? = some t → args[j]? = some v → Value.okWide Try.prog W .any base t v := hval0
  have hW' := hW
  obtain ⟨p, q, hA0, hV, rfl, hfz, hnd⟩ := hW
  have hA : DataW.TrodAll enc Try.prog W 0 (fun _ => true) true Try.f9.params.toList args.toList ds p := hA0
  rw [Try.params9] at hA hval
  obtain ⟨v0, vs0, d0, ds0, p0, q0, hargs, rfl, rfl, h0, r0⟩ := trodAll_cons hA
  obtain ⟨v1, vs1, d1, ds1, p1, q1, rfl, rfl, rfl, h1, r1⟩ := trodAll_cons r0
  obtain ⟨v2, vs2, d2, ds2, p2, q2, rfl, rfl, rfl, h2, r2⟩ := trodAll_cons r1
  obtain ⟨v3, vs3, d3, ds3, p3, q3, rfl, rfl, rfl, h3, r3⟩ := trodAll_cons r2
  obtain ⟨rfl, rfl, rfl⟩ := trodAll_nil r3
  obtain rfl : args = #[v0, v1, v2, v3] := by cases args; simp_all
  obtain ⟨rfl, rfl⟩ := trodVars_none hV
  obtain ⟨a0, len0, cap0, rfl⟩ := okWide_slice Try.underlying33 (hval 0 33 v0 rfl rfl)
  have k0 := h0
  have lt0 : ∀ x ∈ p0, x.block < W.heap.size := by obtain ⟨m, hm⟩ := k0; exact DataW.trod_lt m _ _ _ hm
  obtain ⟨z0, w0⟩ : ∃ zs, IsRow .u16 W a0 len0 cap0 zs := by
    obtain ⟨fuel, hf⟩ := h0
    rcases open_ints Try.underlying33 Try.underlying59 (by kernel_rfl) hf with ⟨hcs, _⟩ | ⟨x, l, c, zs, hcs, _, hl, hm, hz, _, hcell, hwz⟩
    · simp [Value.cells] at hcs
      obtain ⟨rfl, rfl, rfl⟩ := hcs
      exact ⟨[], .inl ⟨rfl, rfl, rfl, rfl⟩⟩
    · simp [Value.cells] at hcs
      obtain ⟨rfl, rfl, rfl⟩ := hcs
      exact ⟨zs, .inr ⟨_, rfl, hl, hm, by simpa using hz, hcell, hwz⟩⟩
  obtain ⟨a1, rfl, rfl, rfl, w1⟩ := open_int Try.underlying22 (hval 1 22 v1 rfl rfl) h1
  obtain ⟨a2, rfl, rfl, rfl, w2⟩ := open_int Try.underlying22 (hval 2 22 v2 rfl rfl) h2
  obtain ⟨a3, rfl, rfl, rfl, w3⟩ := open_int Try.underlying22 (hval 3 22 v3 rfl rfl) h3
  clear hA0 hval0
  refine (walk a0 len0 cap0 z0 a1 a2 a3 W w0 w1 w2 w3).mono fun e W' ⟨he, bel⟩ => ?_
  subst he
  exact ⟨_, rfl, _, _, _, [], _, [], hW', trodAll_mk1 (shut_bool Try.underlying4 _), (trodAll_cons_mk (Below.trod laidOut (by kernel_rfl) (of_decide_eq_true (by kernel_rfl)) k0 bel lt0) (trodAll_cons_mk (shut_int Try.underlying22 w1) (trodAll_cons_mk (shut_int Try.underlying22 w2) (trodAll_cons_mk (shut_int Try.underlying22 w3) trodAll_mk0)))), rfl, Below.frame bel _, fun h => by cases h⟩
theorem over : Rows.fnAddHasRow.holds Try.pinned (OpenSpec.ofChange Rows.fnAddHasSpec) :=
  OpenClaim.holds_of_wide 9 Try.f9 rfl rfl rfl rfl rfl rfl rfl ⟨rfl, rfl, rfl, rfl, rfl⟩ rfl rfl rfl rfl rfl (by kernel_rfl) Try.func9 (by kernel_rfl)
    (of_decide_eq_true (by kernel_rfl)) (by unfold Func.isWrapper; first | (rw [if_pos (by decide +kernel)]; kernel_rfl) | (rw [if_neg (by decide +kernel)]; exact ⟨rfl, rfl⟩))
    (fun os started H enc _ => lifted os started H enc)
theorem proved : Rows.FnAddHasSaid := over
#print axioms proved
end Go.Proofs.Ytnmljgjcdofboaa.fnAddHas
