/- FnCutTwice: for all numbers, the list that they tell, cut at two addresses one after the other, is the list cut at the lower one, with its sum. No condition. -/
import Derived.Test.YtppdgbjalnbboaaRows
import Derived.Test.YtppdgbjalnbboaaCv
import Derived.ProofKit
import Derived.OpenShut
import Derived.ShutString
import Derived.ChangeOld
import Derived.Below
namespace Go.Proofs.Ytppdgbjalnbboaa.fnCutTwice
open Go.ChangeShapes Go.WideShapes Go.ChangeAt Go.RowKit
set_option linter.unusedVariables false
theorem own : ownKnob Try.prog.godebug = none := by kernel_rfl
theorem laidOut : laidOutB Try.prog = true := by kernel_rfl

set_option maxHeartbeats 2000000 in
theorem walk (a0 : Option Addr) (len0 cap0 : Nat) (z0 : List Int) (a1 : Int) (a2 : Int) (w : World) (w0 : IsRow .u16 w a0 len0 cap0 z0) (w1 : (Lit.int .u64 a1).wf = true) (w2 : (Lit.int .u64 a2).wf = true) :
    Calls Try.prog 9 #[.slice a0 len0 cap0, .int .u64 a1, .int .u64 a2] w fun e w' => e = .returned (.bool true) ∧ Nx w w' := by
  have h1 := u64_lo w1
  have b1 : 0 ≤ a1 % 1099511627776 ∧ a1 % 1099511627776 < 1099511627776 := by omega
  have h2 := u64_lo w2
  have b2 : 0 ≤ a2 % 1099511627776 ∧ a2 % 1099511627776 < 1099511627776 := by omega
  by_cases hbig : 2147483647 < len0
  · go_enter Try.func9, Try.ntmps9
    go_wp2
    go_ret
    exact ⟨rfl, Below.refl _ _⟩
  · have hz16 := w0.z16
    have hlist := sList_any a0 len0 cap0 z0 w w0
    have hk : min len0 65536 / 2 ≤ 32768 := by omega
    have hn := Nat.le_trans (Nat.le_of_eq (genL_length z0 (min len0 65536 / 2))) hk
    have hL := genL_InB hz16 _ hk
    have hT := genL_td' hz16 (min len0 65536 / 2)
    have hL2 := Lib.hid (genL_inB hz16 _ hk)
    generalize genL z0 (min len0 65536 / 2) = L at hlist hn hL hT hL2
    clear hk hz16 w0
    generalize hX : a1 % 1099511627776 = x at b1
    generalize hY : a2 % 1099511627776 = y at b2
    have CI1 := Lib.hid (fun A c W h => iCutFrom_any A c L x W h (by omega) hL hT (by omega) (by omega))
    have hl1 := Nat.le_trans (belowL_len L x) hn
    have CI2 := Lib.hid (fun A c W h => iCutFrom_any A c (belowL L x) y W h (by omega) (belowL_inB hT hL x) (belowL_td x hT) (by omega) (by omega))
    rw [belowL_belowL hT x y] at CI2
    have hmn : min x y = (if y < x then y else x) := by split <;> omega
    rw [hmn] at CI2
    have hmb : 0 ≤ (if y < x then y else x) ∧ (if y < x then y else x) < 4398046511104 := by split <;> omega
    have CI3 := Lib.hid (fun A c W h => iCutFrom_any A c L (if y < x then y else x) W h (by omega) hL hT hmb.1 hmb.2)
    have CB := Lib.hid (fun A c W h => sBelow_any A c L (if y < x then y else x) W h (by omega))
    have hBl := Nat.le_trans (belowL_len L (if y < x then y else x)) hn
    have hBb := belowL_inB hT hL (if y < x then y else x)
    have CS := Lib.hid (fun A A2 c c2 W h h2 => sSame_any A A2 c c2 (belowL L (if y < x then y else x)) (belowL L (if y < x then y else x)) W h h2 (by omega) (by omega))
    have CT := Lib.hid (fun A c W h => sTotal_any A c (belowL L (if y < x then y else x)) W h (by omega) hBb)
    rw [show sameB (belowL L (if y < x then y else x)) (belowL L (if y < x then y else x)) = true by simp [sameB]] at CS
    unfold RetLS at CI1 CI2 CI3
    generalize belowL L (if y < x then y else x) = B at CI2 CI3 CB CS CT hBl hBb
    generalize belowL L x = B1 at CI1 CI2 hl1
    generalize totL B = tB at CI2 CI3 CT
    generalize totL B1 = t1 at CI1
    have he : (tB == tB) = true := by simp
    clear hmn
    by_cases hxy : y < x
    all_goals
      first | (rw [if_pos hxy] at CI3 CB hmb) | (rw [if_neg hxy] at CI3 CB hmb)
      clear hL hT hL2
      go_enter Try.func9, Try.ntmps9
      go_wp2_with fail
      refine hlist.mono ?_
      rintro e w1 ⟨A, c, rfl, hs, n1⟩
      clear hlist
      go_wp2_with fail
      refine (sAddr_any _ _ (by omega)).mono ?_
      rintro e w9 ⟨rfl, rfl⟩
      rw [hX]
      clear hX
      go_wp2_with fail
      refine (sAddr_any _ _ (by omega)).mono ?_
      rintro e w9 ⟨rfl, rfl⟩
      rw [hY]
      clear hY
      go_wp2_with fail
      refine (CI1.out _ _ _ hs).mono ?_
      rintro e w2 ⟨A2, c2, rfl, hs2, n2⟩
      have hsw := hs.nx n2
      have hb2 := bl_step n2 n1 n1.size
      clear n1 n2 hs CI1
      go_wp2_with fail
      refine (CI2.out _ _ _ hs2).mono ?_
      rintro e w3 ⟨A3, c3, rfl, hs3, n3⟩
      replace hsw := hsw.nx n3
      replace hb2 := bl_step n3 hb2 hb2.size
      clear n3 hs2 CI2
      go_wp2_with fail
      refine (CI3.out _ _ _ hsw).mono ?_
      rintro e w4 ⟨A4, c4, rfl, hs4, n4⟩
      replace hsw := hsw.nx n4
      replace hs3 := hs3.nx n4
      replace hb2 := bl_step n4 hb2 hb2.size
      clear n4 CI3
      go_wp2_with fail
      refine (CS.out _ _ _ _ _ hs3 hs4).mono ?_
      rintro e w5 ⟨rfl, n5⟩
      replace hsw := hsw.nx n5
      replace hb2 := bl_step n5 hb2 hb2.size
      clear n5 CS hs3 hs4
      go_wp2_with fail
      refine (CB.out _ _ _ hsw).mono ?_
      rintro e w6 ⟨A6, c6, rfl, hs6, n6⟩
      replace hb2 := bl_step n6 hb2 hb2.size
      clear n6 CB
      go_wp2_with fail
      refine (CT.out _ _ _ hs6).mono ?_
      rintro e w7 ⟨rfl, n7⟩
      replace hb2 := bl_step n7 hb2 hb2.size
      go_wp2
      go_ret
      exact ⟨rfl, hb2⟩

set_option maxRecDepth 100000 in
theorem lifted (os : Os) (started : os.Started) (H : Type) (enc : TypeId × Value → H) :
    ReturnsInHanded {} Try.checked os 9 .any (Rows.fnCutTwiceSpec.pre6 enc Try.prog Try.f9 Rows.fnCutTwiceRow.domain false) (Rows.fnCutTwiceSpec.post enc Try.prog Try.f9 false true false false) := by
  refine returnsInHanded_of_change (C := Try.checked) own started (by kernel_rfl) Try.func9
    (ChangeSpec.witness6 (enc := enc) (C := Try.checked) false ⟨#[], #[.slice none 0 0, .int .u64 0, .int .u64 0], []⟩ 8 (by kernel_rfl) (by kernel_rfl) (by kernel_rfl) (by kernel_rfl)) ?_
  intro W base args ds gs before hval0 hW hcnd _
  have hval : ∀ (j : Nat) t v, Try.f9.params[j]? = some t → args[j]? = some v → Value.okWide Try.prog W .any base t v := hval0
  have hW' := hW
  obtain ⟨p, q, hA0, hV, rfl, hfz, hnd⟩ := hW
  have hA : DataW.TrodAll enc Try.prog W 0 (fun _ => true) true Try.f9.params.toList args.toList ds p := hA0
  rw [Try.params9] at hA hval
  obtain ⟨v0, vs0, d0, ds0, p0, q0, hargs, rfl, rfl, h0, r0⟩ := trodAll_cons hA
  obtain ⟨v1, vs1, d1, ds1, p1, q1, rfl, rfl, rfl, h1, r1⟩ := trodAll_cons r0
  obtain ⟨v2, vs2, d2, ds2, p2, q2, rfl, rfl, rfl, h2, r2⟩ := trodAll_cons r1
  obtain ⟨rfl, rfl, rfl⟩ := trodAll_nil r2
  obtain rfl : args = #[v0, v1, v2] := by cases args; simp_all
  obtain ⟨rfl, rfl⟩ := trodVars_none hV
  obtain ⟨a0, len0, cap0, rfl⟩ := okWide_slice Try.underlying22 (hval 0 22 v0 rfl rfl)
  have k0 := h0
  have lt0 : ∀ x ∈ p0, x.block < W.heap.size := by obtain ⟨m, hm⟩ := k0; exact DataW.trod_lt m _ _ _ hm
  obtain ⟨z0, w0⟩ : ∃ zs, IsRow .u16 W a0 len0 cap0 zs := by
    obtain ⟨fuel, hf⟩ := h0
    rcases open_ints Try.underlying22 Try.underlying44 (by kernel_rfl) hf with ⟨hcs, _⟩ | ⟨x, l, c, zs, hcs, _, hl, hm, hz, _, hcell, hwz⟩
    · simp [Value.cells] at hcs
      obtain ⟨rfl, rfl, rfl⟩ := hcs
      exact ⟨[], .inl ⟨rfl, rfl, rfl, rfl⟩⟩
    · simp [Value.cells] at hcs
      obtain ⟨rfl, rfl, rfl⟩ := hcs
      exact ⟨zs, .inr ⟨_, rfl, hl, hm, by simpa using hz, hcell, hwz⟩⟩
  obtain ⟨a1, rfl, rfl, rfl, w1⟩ := open_int Try.underlying23 (hval 1 23 v1 rfl rfl) h1
  obtain ⟨a2, rfl, rfl, rfl, w2⟩ := open_int Try.underlying23 (hval 2 23 v2 rfl rfl) h2
  clear hA0 hval0
  refine (walk a0 len0 cap0 z0 a1 a2 W w0 w1 w2).mono fun e W' ⟨he, bel⟩ => ?_
  subst he
  exact ⟨_, rfl, _, _, _, [], _, [], hW', trodAll_mk1 (shut_bool Try.underlying4 _), (trodAll_cons_mk (Below.trod laidOut (by kernel_rfl) (of_decide_eq_true (by kernel_rfl)) k0 bel lt0) (trodAll_cons_mk (shut_int Try.underlying23 w1) (trodAll_cons_mk (shut_int Try.underlying23 w2) trodAll_mk0))), rfl, Below.frame bel _, fun h => by cases h⟩
theorem over : Rows.fnCutTwiceRow.holds Try.pinned (OpenSpec.ofChange Rows.fnCutTwiceSpec) :=
  OpenClaim.holds_of_wide 9 Try.f9 rfl rfl rfl rfl rfl rfl rfl ⟨rfl, rfl, rfl, rfl, rfl⟩ rfl rfl rfl rfl rfl (by kernel_rfl) Try.func9 (by kernel_rfl)
    (of_decide_eq_true (by kernel_rfl)) (by unfold Func.isWrapper; first | (rw [if_pos (by decide +kernel)]; kernel_rfl) | (rw [if_neg (by decide +kernel)]; exact ⟨rfl, rfl⟩))
    (fun os started H enc _ => lifted os started H enc)
theorem proved : Rows.FnCutTwiceSaid := over
#print axioms proved
end Go.Proofs.Ytppdgbjalnbboaa.fnCutTwice
