/- FnFindIn: for all numbers, what FindAddrGreaterEqual finds in the list that they tell is in the list and not below the address, the address itself just if the list has it; else it is the base of the range that FindSucc finds. No condition. -/
import Derived.Test.YtppdgbjalnbboaaRows
import Derived.Test.YtppdgbjalnbboaaSp
import Derived.ProofKit
import Derived.OpenShut
import Derived.ShutString
import Derived.ChangeOld
import Derived.Below
namespace Go.Proofs.Ytppdgbjalnbboaa.fnFindIn
open Go.ChangeShapes Go.WideShapes Go.ChangeAt Go.RowKit
set_option linter.unusedVariables false
theorem own : ownKnob Try.prog.godebug = none := by kernel_rfl
theorem laidOut : laidOutB Try.prog = true := by kernel_rfl

set_option maxHeartbeats 2000000 in
theorem walk (a0 : Option Addr) (len0 cap0 : Nat) (z0 : List Int) (a1 : Int) (w : World) (w0 : IsRow .u16 w a0 len0 cap0 z0) (w1 : (Lit.int .u64 a1).wf = true) :
    Calls Try.prog 8 #[.slice a0 len0 cap0, .int .u64 a1] w fun e w' => e = .returned (.bool true) ∧ Nx w w' := by
  have h1 := u64_lo w1
  have b1 : 0 ≤ a1 % 1099511627776 ∧ a1 % 1099511627776 < 1099511627776 := by omega
  by_cases hbig : 2147483647 < len0
  · go_enter Try.func8, Try.ntmps8
    go_wp2
    go_ret
    exact ⟨rfl, Below.refl _ _⟩
  · have hz16 := w0.z16
    have hlist := sList_any a0 len0 cap0 z0 w w0
    have hk : min len0 65536 / 2 ≤ 32768 := by omega
    have hn := Nat.le_trans (Nat.le_of_eq (genL_length z0 (min len0 65536 / 2))) hk
    have hL := genL_InB hz16 _ hk
    have hT := genL_td' hz16 (min len0 65536 / 2)
    have hL2 := Lib.hid (genL_inB hz16 _ hk)
    generalize genL z0 (min len0 65536 / 2) = L at hlist hn hL hT hL2
    clear hk hz16 w0
    generalize hX : a1 % 1099511627776 = x at b1
    by_cases h0 : L.length = 0
    · have hl0 : ((L.length : Int) == 0) = true := by rw [h0]; rfl
      have H0 := Lib.hid h0
      clear h0
      go_enter Try.func8, Try.ntmps8
      go_wp2_with fail
      refine hlist.mono ?_
      rintro e w1 ⟨A, c, rfl, hs, n1⟩
      clear hlist
      go_wp2_with fail
      refine (sAddr_any _ _ (by omega)).mono ?_
      rintro e w9 ⟨rfl, rfl⟩
      rw [hX]
      clear hX
      go_wp2_with fail
      refine (iFindSucc_any A c L x _ hs (by omega) hL hT (by omega) (by omega)).mono ?_
      rintro e w2 ⟨i2, rfl, hs2, n2⟩
      have hi0 : i2 = 0 := by have := hs2.le; have := H0.out; omega
      subst hi0
      go_wp2_with fail
      go_ret
      exact ⟨rfl, bl_step n2 n1 n1.size⟩
    · have hl0 : ((L.length : Int) == 0) = false := by rw [beq_eq_false_iff_ne]; omega
      have hp : 0 < L.length := by omega
      clear h0
      go_enter Try.func8, Try.ntmps8
      go_wp2_with fail
      refine hlist.mono ?_
      rintro e w1 ⟨A, c, rfl, hs, n1⟩
      clear hlist
      go_wp2_with fail
      refine (sAddr_any _ _ (by omega)).mono ?_
      rintro e w9 ⟨rfl, rfl⟩
      rw [hX]
      clear hX
      go_wp2_with fail
      refine (iFindAddrGreaterEqual_any A c L x _ hs (by omega) hp hL hT (by omega) (by omega)).mono ?_
      rintro e w2 ⟨j, hj, rfl, n2⟩
      have hs2 := hs.nx n2
      have hb2 := bl_step n2 n1 n1.size
      by_cases hlt : j < L.length
      · have hd : decide (j < L.length) = true := by simpa using hlt
        have hxj := hj.hi j hlt (Nat.le_refl _)
        have hbd := hL.at hlt
        by_cases hm : x < (L[j]).1
        · have hv : fgV L x j = (L[j]).1 := by unfold fgV; rw [dif_pos hlt, if_pos hm]
          have hS := Lib.hid (show SuccAt L x j from ⟨hj.le, fun k hk hkj => by have := hj.lo k hk hkj; have := hT.ne k hk; omega, fun k hk hle => Int.lt_of_lt_of_le hm (hT.base_mono hlt hk hle)⟩)
          have hin := Lib.hid (show hasL L (L[j]).1 = true from (hasL_iff _ _).2 ⟨j, hlt, Int.le_refl _, hT.ne j hlt⟩)
          have hout := Lib.hid (show hasL L x = false by
            rw [← Bool.not_eq_true, hasL_iff]
            rintro ⟨k, hk, h1, h2⟩
            by_cases hkj : k < j
            · have := hj.lo k hk hkj; omega
            · have := hT.base_mono hlt hk (show j ≤ k by omega); omega)
          have hcell := fun W (hW : SlAt W A c L) => hW.at hlt
          rw [hv]
          generalize (L[j]).1 = v at hcell hbd hin hm ⊢
          have hne : (v == x) = false := by rw [beq_eq_false_iff_ne]; omega
          have hnl : decide (v < x) = false := by simp; omega
          have hvv : (v == v) = true := by simp
          have HC := Lib.hid hcell
          clear hcell hj hv
          go_wp2_with fail
          refine (iInList_any A c L v _ hs2 (by omega) hL hT hbd.1 hbd.2.1).mono ?_
          rintro e w3 ⟨rfl, n3⟩
          have hs3 := hs2.nx n3
          have hb3 := bl_step n3 hb2 hb2.size
          rw [hin.out]
          go_wp2_with fail
          refine (iInList_any A c L x _ hs3 (by omega) hL hT (by omega) (by omega)).mono ?_
          rintro e w4 ⟨rfl, n4⟩
          have hs4 := hs3.nx n4
          have hb4 := bl_step n4 hb3 hb3.size
          rw [hout.out]
          go_wp2_with fail
          refine (iFindSucc_any A c L x _ hs4 (by omega) hL hT (by omega) (by omega)).mono ?_
          rintro e w5 ⟨i2, rfl, hss, n5⟩
          have hs5 := hs4.nx n5
          have hb5 := bl_step n5 hb4 hb4.size
          have hij : i2 = j := succ_unique hss hS.out
          subst hij
          obtain ⟨g, rfl, hg, hc0, hc1⟩ := HC.out _ hs5
          have hji : (i2 : Int) < (L.length : Int) := by omega
          clear hss
          go_wp2_with fail
          go_ret
          exact ⟨rfl, hb5⟩
        · have hv : fgV L x j = x := by unfold fgV; rw [dif_pos hlt, if_neg hm]
          have hin := Lib.hid (show hasL L x = true from (hasL_iff _ _).2 ⟨j, hlt, by omega, hxj⟩)
          have hvv : (x == x) = true := by simp
          rw [hv]
          clear hj hv hm hxj
          go_wp2_with fail
          refine (iInList_any A c L x _ hs2 (by omega) hL hT (by omega) (by omega)).mono ?_
          rintro e w3 ⟨rfl, n3⟩
          have hs3 := hs2.nx n3
          have hb3 := bl_step n3 hb2 hb2.size
          rw [hin.out]
          go_wp2_with fail
          refine (iInList_any A c L x _ hs3 (by omega) hL hT (by omega) (by omega)).mono ?_
          rintro e w4 ⟨rfl, n4⟩
          have hb4 := bl_step n4 hb3 hb3.size
          rw [hin.out]
          go_wp2_with fail
          go_ret
          exact ⟨rfl, hb4⟩
      · have hd : decide (j < L.length) = false := by simpa using hlt
        have hje : j = L.length := by have := hj.le; omega
        have hS := Lib.hid (show SuccAt L x L.length from ⟨Nat.le_refl _, fun k hk _ => by have := hj.lo k hk (by omega); have := hT.ne k hk; omega, fun k hk hle => by omega⟩)
        have hout := Lib.hid (show hasL L x = false by
          rw [← Bool.not_eq_true, hasL_iff]
          rintro ⟨k, hk, h1, h2⟩
          have := hj.lo k hk (by omega); omega)
        clear hj hje
        go_wp2_with fail
        refine (iFindSucc_any A c L x _ hs2 (by omega) hL hT (by omega) (by omega)).mono ?_
        rintro e w3 ⟨i2, rfl, hss, n3⟩
        have hs3 := hs2.nx n3
        have hb3 := bl_step n3 hb2 hb2.size
        have hij : i2 = L.length := succ_unique hss hS.out
        have he : ((i2 : Int) == (L.length : Int)) = true := by rw [hij]; simp
        clear hij hss
        go_wp2_with fail
        refine (iInList_any A c L x _ hs3 (by omega) hL hT (by omega) (by omega)).mono ?_
        rintro e w4 ⟨rfl, n4⟩
        have hb4 := bl_step n4 hb3 hb3.size
        rw [hout.out]
        go_wp2_with fail
        go_ret
        exact ⟨rfl, hb4⟩

set_option maxRecDepth 100000 in
theorem lifted (os : Os) (started : os.Started) (H : Type) (enc : TypeId × Value → H) :
    ReturnsInHanded {} Try.checked os 8 .any (Rows.fnFindInSpec.pre6 enc Try.prog Try.f8 Rows.fnFindInRow.domain false) (Rows.fnFindInSpec.post enc Try.prog Try.f8 false true false false) := by
  refine returnsInHanded_of_change (C := Try.checked) own started (by kernel_rfl) Try.func8
    (ChangeSpec.witness6 (enc := enc) (C := Try.checked) false ⟨#[], #[.slice none 0 0, .int .u64 0], []⟩ 8 (by kernel_rfl) (by kernel_rfl) (by kernel_rfl) (by kernel_rfl)) ?_
  intro W base args ds gs before hval0 hW hcnd _
  have hval : ∀ (j : Nat) t v, Try.f8.params[j]? = some t → args[j]? = some v → Value.okWide Try.prog W .any base t v := hval0
  have hW' := hW
  obtain ⟨p, q, hA0, hV, rfl, hfz, hnd⟩ := hW
  have hA : DataW.TrodAll enc Try.prog W 0 (fun _ => true) true Try.f8.params.toList args.toList ds p := hA0
  rw [Try.params8] at hA hval
  obtain ⟨v0, vs0, d0, ds0, p0, q0, hargs, rfl, rfl, h0, r0⟩ := trodAll_cons hA
  obtain ⟨v1, vs1, d1, ds1, p1, q1, rfl, rfl, rfl, h1, r1⟩ := trodAll_cons r0
  obtain ⟨rfl, rfl, rfl⟩ := trodAll_nil r1
  obtain rfl : args = #[v0, v1] := by cases args; simp_all
  obtain ⟨rfl, rfl⟩ := trodVars_none hV
  obtain ⟨a0, len0, cap0, rfl⟩ := okWide_slice Try.underlying22 (hval 0 22 v0 rfl rfl)
  have k0 := h0
  have lt0 : ∀ x ∈ p0, x.block < W.heap.size := by obtain ⟨m, hm⟩ := k0; exact DataW.trod_lt m _ _ _ hm
  obtain ⟨z0, w0⟩ : ∃ zs, IsRow .u16 W a0 len0 cap0 zs := by
    obtain ⟨fuel, hf⟩ := h0
    rcases open_ints Try.underlying22 Try.underlying44 (by kernel_rfl) hf with ⟨hcs, _⟩ | ⟨x, l, c, zs, hcs, _, hl, hm, hz, _, hcell, hwz⟩
    · simp [Value.cells] at hcs
      obtain ⟨rfl, rfl, rfl⟩ := hcs
      exact ⟨[], .inl ⟨rfl, rfl, rfl, rfl⟩⟩
    · simp [Value.cells] at hcs
      obtain ⟨rfl, rfl, rfl⟩ := hcs
      exact ⟨zs, .inr ⟨_, rfl, hl, hm, by simpa using hz, hcell, hwz⟩⟩
  obtain ⟨a1, rfl, rfl, rfl, w1⟩ := open_int Try.underlying23 (hval 1 23 v1 rfl rfl) h1
  clear hA0 hval0
  refine (walk a0 len0 cap0 z0 a1 W w0 w1).mono fun e W' ⟨he, bel⟩ => ?_
  subst he
  exact ⟨_, rfl, _, _, _, [], _, [], hW', trodAll_mk1 (shut_bool Try.underlying4 _), (trodAll_cons_mk (Below.trod laidOut (by kernel_rfl) (of_decide_eq_true (by kernel_rfl)) k0 bel lt0) (trodAll_cons_mk (shut_int Try.underlying23 w1) trodAll_mk0)), rfl, Below.frame bel _, fun h => by cases h⟩
theorem over : Rows.fnFindInRow.holds Try.pinned (OpenSpec.ofChange Rows.fnFindInSpec) :=
  OpenClaim.holds_of_wide 8 Try.f8 rfl rfl rfl rfl rfl rfl rfl ⟨rfl, rfl, rfl, rfl, rfl⟩ rfl rfl rfl rfl rfl (by kernel_rfl) Try.func8 (by kernel_rfl)
    (of_decide_eq_true (by kernel_rfl)) (by unfold Func.isWrapper; first | (rw [if_pos (by decide +kernel)]; kernel_rfl) | (rw [if_neg (by decide +kernel)]; exact ⟨rfl, rfl⟩))
    (fun os started H enc _ => lifted os started H enc)
theorem proved : Rows.FnFindInSaid := over
#print axioms proved
end Go.Proofs.Ytppdgbjalnbboaa.fnFindIn
