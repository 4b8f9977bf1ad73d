/- FnExactIn: for all numbers, the list that they tell has the address of the last just if one of its ranges has it, and it has its first base. No condition. -/
import Derived.Test.YtppdgbjalnbboaaRows
import Derived.Test.YtppdgbjalnbboaaSp
import Derived.ProofKit
import Derived.OpenShut
import Derived.ShutString
import Derived.ChangeOld
import Derived.Below
namespace Go.Proofs.Ytppdgbjalnbboaa.fnExactIn
open Go.ChangeShapes Go.WideShapes Go.ChangeAt Go.RowKit
set_option linter.unusedVariables false
theorem own : ownKnob Try.prog.godebug = none := by kernel_rfl
theorem laidOut : laidOutB Try.prog = true := by kernel_rfl

set_option maxHeartbeats 2000000 in
theorem walk (a0 : Option Addr) (len0 cap0 : Nat) (z0 : List Int) (a1 : Int) (w : World) (w0 : IsRow .u16 w a0 len0 cap0 z0) (w1 : (Lit.int .u64 a1).wf = true) :
    Calls Try.prog 6 #[.slice a0 len0 cap0, .int .u64 a1] w fun e w' => e = .returned (.bool true) ∧ Nx w w' := by
  have h1 := u64_lo w1
  have b1 : 0 ≤ a1 % 1099511627776 ∧ a1 % 1099511627776 < 1099511627776 := by omega
  by_cases hbig : 2147483647 < len0
  · go_enter Try.func6, Try.ntmps6
    go_wp2
    go_ret
    exact ⟨rfl, Below.refl _ _⟩
  · have hz16 := w0.z16
    have hlist := sList_any a0 len0 cap0 z0 w w0
    have hk : min len0 65536 / 2 ≤ 32768 := by omega
    have hn := Nat.le_trans (Nat.le_of_eq (genL_length z0 (min len0 65536 / 2))) hk
    have hL := genL_InB hz16 _ hk
    have hT := genL_td' hz16 (min len0 65536 / 2)
    have hL2 := Lib.hid (genL_inB hz16 _ hk)
    generalize genL z0 (min len0 65536 / 2) = L at hlist hn hL hT hL2
    clear hk hz16 w0
    generalize hX : a1 % 1099511627776 = x at b1
    by_cases h0 : L.length = 0
    · have hl0 : ((L.length : Int) == 0) = true := by rw [h0]; rfl
      clear h0
      go_enter Try.func6, Try.ntmps6
      go_wp2_with fail
      refine hlist.mono ?_
      rintro e w1 ⟨A, c, rfl, hs, n1⟩
      clear hlist
      go_wp2_with fail
      refine (sAddr_any _ _ (by omega)).mono ?_
      rintro e w9 ⟨rfl, rfl⟩
      rw [hX]
      clear hX
      go_wp2_with fail
      refine (iInList_any A c L x _ hs (by omega) hL hT (by omega) (by omega)).mono ?_
      rintro e w2 ⟨rfl, n2⟩
      go_wp2_with fail
      refine (sIn_any A c L x _ (hs.nx n2) (by omega)).mono ?_
      rintro e w3 ⟨rfl, n3⟩
      have he : (hasL L x == hasL L x) = true := by simp
      go_wp2_with fail
      go_ret
      exact ⟨rfl, bl_step n3 (bl_step n2 n1 n1.size) (Nat.le_trans n1.size n2.size)⟩
    · have hl0 : ((L.length : Int) == 0) = false := by rw [beq_eq_false_iff_ne]; omega
      have hp : 0 < L.length := by omega
      have hfirst := Lib.hid (show hasL L (L[0]).1 = true from (hasL_iff _ _).2 ⟨0, hp, Int.le_refl _, hT.ne 0 hp⟩)
      have hbd := hL.at hp
      clear h0
      go_enter Try.func6, Try.ntmps6
      go_wp2_with fail
      refine hlist.mono ?_
      rintro e w1 ⟨A, c, rfl, hs, n1⟩
      clear hlist
      go_wp2_with fail
      refine (sAddr_any _ _ (by omega)).mono ?_
      rintro e w9 ⟨rfl, rfl⟩
      rw [hX]
      clear hX
      go_wp2_with fail
      refine (iInList_any A c L x _ hs (by omega) hL hT (by omega) (by omega)).mono ?_
      rintro e w2 ⟨rfl, n2⟩
      go_wp2_with fail
      refine (sIn_any A c L x _ (hs.nx n2) (by omega)).mono ?_
      rintro e w3 ⟨rfl, n3⟩
      have he : (hasL L x == hasL L x) = true := by simp
      obtain ⟨g, rfl, hgs, hc0, hc1⟩ := ((hs.nx n2).nx n3).at hp
      have hs3 := (hs.nx n2).nx n3
      rw [Nat.zero_mul] at hc0
      generalize (L[0]).1 = y at hc0 hfirst hbd
      go_wp2_with fail
      refine (iInList_any _ c L y _ hs3 (by omega) hL hT hbd.1 hbd.2.1).mono ?_
      rintro e w4 ⟨rfl, n4⟩
      rw [hfirst.out]
      go_wp2_with fail
      go_ret
      exact ⟨rfl, bl_step n4 (bl_step n3 (bl_step n2 n1 n1.size) (Nat.le_trans n1.size n2.size)) (Nat.le_trans n1.size (Nat.le_trans n2.size n3.size))⟩

set_option maxRecDepth 100000 in
theorem lifted (os : Os) (started : os.Started) (H : Type) (enc : TypeId × Value → H) :
    ReturnsInHanded {} Try.checked os 6 .any (Rows.fnExactInSpec.pre6 enc Try.prog Try.f6 Rows.fnExactInRow.domain false) (Rows.fnExactInSpec.post enc Try.prog Try.f6 false true false false) := by
  refine returnsInHanded_of_change (C := Try.checked) own started (by kernel_rfl) Try.func6
    (ChangeSpec.witness6 (enc := enc) (C := Try.checked) false ⟨#[], #[.slice none 0 0, .int .u64 0], []⟩ 8 (by kernel_rfl) (by kernel_rfl) (by kernel_rfl) (by kernel_rfl)) ?_
  intro W base args ds gs before hval0 hW hcnd _
  have hval : ∀ (j : Nat) t v, Try.f6.params[j]? = some t → args[j]? = some v → Value.okWide Try.prog W .any base t v := hval0
  have hW' := hW
  obtain ⟨p, q, hA0, hV, rfl, hfz, hnd⟩ := hW
  have hA : DataW.TrodAll enc Try.prog W 0 (fun _ => true) true Try.f6.params.toList args.toList ds p := hA0
  rw [Try.params6] at hA hval
  obtain ⟨v0, vs0, d0, ds0, p0, q0, hargs, rfl, rfl, h0, r0⟩ := trodAll_cons hA
  obtain ⟨v1, vs1, d1, ds1, p1, q1, rfl, rfl, rfl, h1, r1⟩ := trodAll_cons r0
  obtain ⟨rfl, rfl, rfl⟩ := trodAll_nil r1
  obtain rfl : args = #[v0, v1] := by cases args; simp_all
  obtain ⟨rfl, rfl⟩ := trodVars_none hV
  obtain ⟨a0, len0, cap0, rfl⟩ := okWide_slice Try.underlying22 (hval 0 22 v0 rfl rfl)
  have k0 := h0
  have lt0 : ∀ x ∈ p0, x.block < W.heap.size := by obtain ⟨m, hm⟩ := k0; exact DataW.trod_lt m _ _ _ hm
  obtain ⟨z0, w0⟩ : ∃ zs, IsRow .u16 W a0 len0 cap0 zs := by
    obtain ⟨fuel, hf⟩ := h0
    rcases open_ints Try.underlying22 Try.underlying44 (by kernel_rfl) hf with ⟨hcs, _⟩ | ⟨x, l, c, zs, hcs, _, hl, hm, hz, _, hcell, hwz⟩
    · simp [Value.cells] at hcs
      obtain ⟨rfl, rfl, rfl⟩ := hcs
      exact ⟨[], .inl ⟨rfl, rfl, rfl, rfl⟩⟩
    · simp [Value.cells] at hcs
      obtain ⟨rfl, rfl, rfl⟩ := hcs
      exact ⟨zs, .inr ⟨_, rfl, hl, hm, by simpa using hz, hcell, hwz⟩⟩
  obtain ⟨a1, rfl, rfl, rfl, w1⟩ := open_int Try.underlying23 (hval 1 23 v1 rfl rfl) h1
  clear hA0 hval0
  refine (walk a0 len0 cap0 z0 a1 W w0 w1).mono fun e W' ⟨he, bel⟩ => ?_
  subst he
  exact ⟨_, rfl, _, _, _, [], _, [], hW', trodAll_mk1 (shut_bool Try.underlying4 _), (trodAll_cons_mk (Below.trod laidOut (by kernel_rfl) (of_decide_eq_true (by kernel_rfl)) k0 bel lt0) (trodAll_cons_mk (shut_int Try.underlying23 w1) trodAll_mk0)), rfl, Below.frame bel _, fun h => by cases h⟩
theorem over : Rows.fnExactInRow.holds Try.pinned (OpenSpec.ofChange Rows.fnExactInSpec) :=
  OpenClaim.holds_of_wide 6 Try.f6 rfl rfl rfl rfl rfl rfl rfl ⟨rfl, rfl, rfl, rfl, rfl⟩ rfl rfl rfl rfl rfl (by kernel_rfl) Try.func6 (by kernel_rfl)
    (of_decide_eq_true (by kernel_rfl)) (by unfold Func.isWrapper; first | (rw [if_pos (by decide +kernel)]; kernel_rfl) | (rw [if_neg (by decide +kernel)]; exact ⟨rfl, rfl⟩))
    (fun os started H enc _ => lifted os started H enc)
theorem proved : Rows.FnExactInSaid := over
#print axioms proved
end Go.Proofs.Ytppdgbjalnbboaa.fnExactIn
