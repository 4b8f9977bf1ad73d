/- FnRemoveAdd: for all numbers, what RemoveLast takes from the list that they tell (of at least one range), added again, makes the list, with its sum. No condition. -/
import Derived.Test.YtnmljgjcdofboaaRows
import Derived.Test.YtnmljgjcdofboaaTl
import Derived.ProofKit
import Derived.OpenShut
import Derived.ShutString
import Derived.ChangeOld
import Derived.Below
namespace Go.Proofs.Ytnmljgjcdofboaa.fnRemoveAdd
open Go.ChangeShapes Go.WideShapes Go.ChangeAt Go.RowKit
set_option linter.unusedVariables false
set_option linter.unusedSimpArgs false
theorem own : ownKnob Try.prog.godebug = none := by kernel_rfl
theorem laidOut : laidOutB Try.prog = true := by kernel_rfl

set_option maxHeartbeats 2000000 in
theorem walk (a0 : Option Addr) (len0 cap0 : Nat) (z0 : List Int) (a1 : Int) (w : World) (w0 : IsRow .u16 w a0 len0 cap0 z0) (w1 : (Lit.int .u64 a1).wf = true) :
    Calls Try.prog 4 #[.slice a0 len0 cap0, .int .u64 a1] w fun e w' => e = .returned (.bool true) ∧ Nx w w' := by
  have h1 := u64_lo w1
  have b1 : 0 ≤ a1 % 1099511627776 ∧ a1 % 1099511627776 < 1099511627776 := by omega
  by_cases hbig : 2147483647 < len0
  · go_enter Try.func4, Try.ntmps4
    go_wp2
    go_ret
    exact ⟨rfl, Below.refl _ _⟩
  · have hz16 := w0.z16
    have hlist := sList_any a0 len0 cap0 z0 w w0
    have hk : min len0 65536 / 2 ≤ 32768 := by omega
    have hn := Nat.le_trans (Nat.le_of_eq (genL_length z0 (min len0 65536 / 2))) hk
    have hL := genL_InB hz16 _ hk
    have hT := genL_td' hz16 (min len0 65536 / 2)
    have hL2 := Lib.hid (genL_inB hz16 _ hk)
    generalize genL z0 (min len0 65536 / 2) = L at hlist hn hL hT hL2
    clear hk hz16 w0
    by_cases h0 : L.length = 0
    · have hl0 : ((L.length : Int) == 0) = true := by rw [h0]; rfl
      clear h0
      go_enter Try.func4, Try.ntmps4
      go_wp2_with fail
      refine hlist.mono ?_
      rintro e w1 ⟨A, c, rfl, hs, n1⟩
      clear hlist
      go_wp2_with fail
      refine (sAddr_any _ _ (by omega)).mono ?_
      rintro e w9 ⟨rfl, rfl⟩
      go_wp2_with fail
      go_ret
      exact ⟨rfl, n1⟩
    · have hl0 : ((L.length : Int) == 0) = false := by rw [beq_eq_false_iff_ne]; omega
      obtain ⟨m, hm⟩ : ∃ m, L.length = m + 1 := ⟨L.length - 1, by omega⟩
      have hi : m < L.length := by omega
      have hr : L[m]? = some L[m] := List.getElem?_eq_getElem hi
      have hbd := hL.at hi
      have hne := hT.ne m hi
      have ewn : IntKind.u64.wrap (1 + a1 % 1099511627776) = 1 + a1 % 1099511627776 := IntWalk.u64_in _ (by omega)
      generalize L[m] = r at hr hbd hne
      have CI := Lib.hid (fun A c W h => iRemoveLast_any A c m L (1 + a1 % 1099511627776) r W h hm hr (by omega) hL hT (by omega))
      have hat := rlAt_in (r := r) (n := 1 + a1 % 1099511627776) hne (by omega)
      have CA := Lib.hid (fun A c W h => addBack (at0 := rlAt r (1 + a1 % 1099511627776)) hn hL hT hm hr hat.1 hat.2.1 A c W h)
      have CS := Lib.hid (fun A A2 c c2 W h h2 => sSame_any A A2 c c2 L L W h h2 (by omega) (by omega))
      rw [show sameB L L = true by simp [sameB]] at CS
      have CT := Lib.hid (fun A c W h => sTotal_any A c L W h (by omega) hL)
      have CZ := Lib.hid (fun W => sSize_any (rlAt r (1 + a1 % 1099511627776)) r.2 W (by omega) (by omega) (by omega) (by omega))
      rw [szI_pos hat.2.1] at CZ
      unfold RetRl at CI
      unfold RetN at CA
      generalize belowL L (rlAt r (1 + a1 % 1099511627776)) = B at CI CA
      generalize rlAt r (1 + a1 % 1099511627776) = at0 at CI CA CZ hat
      have hz0 : (r.2 - at0 == 0) = false := by rw [beq_eq_false_iff_ne]; omega
      generalize totL L = tL at CA CT
      generalize totL B = tB at CI
      have hv : (tL == tL) = true := by simp
      clear hm hr h0 hL hT hL2 hat hi
      go_enter Try.func4, Try.ntmps4
      go_wp2_with fail
      refine hlist.mono ?_
      rintro e w1 ⟨A, c, rfl, hs, n1⟩
      clear hlist
      go_wp2_with fail
      refine (sAddr_any _ _ (by omega)).mono ?_
      rintro e w9 ⟨rfl, rfl⟩
      go_wp2_with fail
      refine (CI.out _ _ _ hs).mono ?_
      rintro e w2 ⟨A2, c2, rfl, hs2, n2⟩
      have hsw := hs.nx n2
      have hb2 : Nx w w2 := bl_step n2 n1 n1.size
      clear hs n1 n2 CI
      have bV := Bk.new w2 #[.int .u64 at0, .int .u64 r.2] 24
      have hb3 : Nx w (w2.alloc (.cells #[.int .u64 at0, .int .u64 r.2] 24)) := hb2.alloc hb2.size _
      replace hs2 := hs2.alloc (.cells #[.int .u64 at0, .int .u64 r.2] 24)
      replace hsw := hsw.alloc (.cells #[.int .u64 at0, .int .u64 r.2] 24)
      go_upto_region 7 with fail
      generalize w2.alloc (.cells #[.int .u64 at0, .int .u64 r.2] 24) = U at bV hb3 hs2 hsw ⊢
      clear hb2
      have v0 := bV.cell 0
      have v1 := bV.cell 1
      go_wp2_with fail
      refine (CZ.out _).mono ?_
      rintro e w3 ⟨rfl, n3⟩
      replace bV := bV.nx n3
      replace hs2 := hs2.nx n3
      replace hsw := hsw.nx n3
      replace hb3 := bl_step n3 hb3 hb3.size
      clear n3 v0 v1
      have v0 := bV.cell 0
      have v1 := bV.cell 1
      go_wp2_with fail
      refine (CA.out _ _ _ hs2).mono ?_
      rintro e w4 ⟨A4, c4, rfl, hs4, n4⟩
      replace hsw := hsw.nx n4
      replace hb3 := bl_step n4 hb3 hb3.size
      clear n4 v0 v1 bV hs2
      go_wp2_with fail
      refine (CS.out _ _ _ _ _ hs4 hsw).mono ?_
      rintro e w5 ⟨rfl, n5⟩
      replace hsw := hsw.nx n5
      replace hb3 := bl_step n5 hb3 hb3.size
      clear n5 hs4
      go_wp2_with fail
      refine (CT.out _ _ _ hsw).mono ?_
      rintro e w6 ⟨rfl, n6⟩
      go_wp2
      go_ret
      exact ⟨rfl, bl_step n6 hb3 hb3.size⟩

set_option maxRecDepth 100000 in
theorem lifted (os : Os) (started : os.Started) (H : Type) (enc : TypeId × Value → H) :
    ReturnsInHanded {} Try.checked os 4 .any (Rows.fnRemoveAddSpec.pre6 enc Try.prog Try.f4 Rows.fnRemoveAddRow.domain false) (Rows.fnRemoveAddSpec.post enc Try.prog Try.f4 false true false false) := by
  refine returnsInHanded_of_change (C := Try.checked) own started (by kernel_rfl) Try.func4
    (ChangeSpec.witness6 (enc := enc) (C := Try.checked) false ⟨#[], #[.slice none 0 0, .int .u64 0], []⟩ 8 (by kernel_rfl) (by kernel_rfl) (by kernel_rfl) (by kernel_rfl)) ?_
  intro W base args ds gs before hval0 hW hcnd _
  have hval : ∀ (j : Nat) t v, Try.f4.params[j]? = some t → args[j]? = some v → Value.okWide Try.prog W .any base t v := hval0
  have hW' := hW
  obtain ⟨p, q, hA0, hV, rfl, hfz, hnd⟩ := hW
  have hA : DataW.TrodAll enc Try.prog W 0 (fun _ => true) true Try.f4.params.toList args.toList ds p := hA0
  rw [Try.params4] at hA hval
  obtain ⟨v0, vs0, d0, ds0, p0, q0, hargs, rfl, rfl, h0, r0⟩ := trodAll_cons hA
  obtain ⟨v1, vs1, d1, ds1, p1, q1, rfl, rfl, rfl, h1, r1⟩ := trodAll_cons r0
  obtain ⟨rfl, rfl, rfl⟩ := trodAll_nil r1
  obtain rfl : args = #[v0, v1] := by cases args; simp_all
  obtain ⟨rfl, rfl⟩ := trodVars_none hV
  obtain ⟨a0, len0, cap0, rfl⟩ := okWide_slice Try.underlying33 (hval 0 33 v0 rfl rfl)
  have k0 := h0
  have lt0 : ∀ x ∈ p0, x.block < W.heap.size := by obtain ⟨m, hm⟩ := k0; exact DataW.trod_lt m _ _ _ hm
  obtain ⟨z0, w0⟩ : ∃ zs, IsRow .u16 W a0 len0 cap0 zs := by
    obtain ⟨fuel, hf⟩ := h0
    rcases open_ints Try.underlying33 Try.underlying59 (by kernel_rfl) hf with ⟨hcs, _⟩ | ⟨x, l, c, zs, hcs, _, hl, hm, hz, _, hcell, hwz⟩
    · simp [Value.cells] at hcs
      obtain ⟨rfl, rfl, rfl⟩ := hcs
      exact ⟨[], .inl ⟨rfl, rfl, rfl, rfl⟩⟩
    · simp [Value.cells] at hcs
      obtain ⟨rfl, rfl, rfl⟩ := hcs
      exact ⟨zs, .inr ⟨_, rfl, hl, hm, by simpa using hz, hcell, hwz⟩⟩
  obtain ⟨a1, rfl, rfl, rfl, w1⟩ := open_int Try.underlying22 (hval 1 22 v1 rfl rfl) h1
  clear hA0 hval0
  refine (walk a0 len0 cap0 z0 a1 W w0 w1).mono fun e W' ⟨he, bel⟩ => ?_
  subst he
  exact ⟨_, rfl, _, _, _, [], _, [], hW', trodAll_mk1 (shut_bool Try.underlying4 _), (trodAll_cons_mk (Below.trod laidOut (by kernel_rfl) (of_decide_eq_true (by kernel_rfl)) k0 bel lt0) (trodAll_cons_mk (shut_int Try.underlying22 w1) trodAll_mk0)), rfl, Below.frame bel _, fun h => by cases h⟩
theorem over : Rows.fnRemoveAddRow.holds Try.pinned (OpenSpec.ofChange Rows.fnRemoveAddSpec) :=
  OpenClaim.holds_of_wide 4 Try.f4 rfl rfl rfl rfl rfl rfl rfl ⟨rfl, rfl, rfl, rfl, rfl⟩ rfl rfl rfl rfl rfl (by kernel_rfl) Try.func4 (by kernel_rfl)
    (of_decide_eq_true (by kernel_rfl)) (by unfold Func.isWrapper; first | (rw [if_pos (by decide +kernel)]; kernel_rfl) | (rw [if_neg (by decide +kernel)]; exact ⟨rfl, rfl⟩))
    (fun os started H enc _ => lifted os started H enc)
theorem proved : Rows.FnRemoveAddSaid := over
#print axioms proved
end Go.Proofs.Ytnmljgjcdofboaa.fnRemoveAdd
