/- FnExactFindGreaterEqual: for all numbers, the least address of the list that they tell which is not below the last is found (of a list with at least one range). No condition. -/
import Derived.Test.YtppdgbjalnbboaaRows
import Derived.Test.YtppdgbjalnbboaaSp
import Derived.ProofKit
import Derived.OpenShut
import Derived.ShutString
import Derived.ChangeOld
import Derived.Below
namespace Go.Proofs.Ytppdgbjalnbboaa.fnExactFindGreaterEqual
open Go.ChangeShapes Go.WideShapes Go.ChangeAt Go.RowKit
set_option linter.unusedVariables false
theorem own : ownKnob Try.prog.godebug = none := by kernel_rfl
theorem laidOut : laidOutB Try.prog = true := by kernel_rfl

set_option maxHeartbeats 2000000 in
theorem walk (a0 : Option Addr) (len0 cap0 : Nat) (z0 : List Int) (a1 : Int) (w : World) (w0 : IsRow .u16 w a0 len0 cap0 z0) (w1 : (Lit.int .u64 a1).wf = true) :
    Calls Try.prog 7 #[.slice a0 len0 cap0, .int .u64 a1] w fun e w' => e = .returned (.bool true) ∧ Nx w w' := by
  have h1 := u64_lo w1
  have b1 : 0 ≤ a1 % 1099511627776 ∧ a1 % 1099511627776 < 1099511627776 := by omega
  by_cases hbig : 2147483647 < len0
  · go_enter Try.func7, Try.ntmps7
    go_wp2
    go_ret
    exact ⟨rfl, Below.refl _ _⟩
  · have hz16 := w0.z16
    have hlist := sList_any a0 len0 cap0 z0 w w0
    have hk : min len0 65536 / 2 ≤ 32768 := by omega
    have hn := Nat.le_trans (Nat.le_of_eq (genL_length z0 (min len0 65536 / 2))) hk
    have hL := genL_InB hz16 _ hk
    have hT := genL_td' hz16 (min len0 65536 / 2)
    have hL2 := Lib.hid (genL_inB hz16 _ hk)
    generalize genL z0 (min len0 65536 / 2) = L at hlist hn hL hT hL2
    clear hk hz16 w0
    generalize hX : a1 % 1099511627776 = x at b1
    by_cases h0 : L.length = 0
    · have hl0 : ((L.length : Int) == 0) = true := by rw [h0]; rfl
      clear h0
      go_enter Try.func7, Try.ntmps7
      go_wp2_with fail
      refine hlist.mono ?_
      rintro e w1 ⟨A, c, rfl, hs, n1⟩
      clear hlist
      go_wp2_with fail
      refine (sAddr_any _ _ (by omega)).mono ?_
      rintro e w9 ⟨rfl, rfl⟩
      go_wp2_with fail
      go_ret
      exact ⟨rfl, n1⟩
    · have hl0 : ((L.length : Int) == 0) = false := by rw [beq_eq_false_iff_ne]; omega
      have hp : 0 < L.length := by omega
      clear h0
      go_enter Try.func7, Try.ntmps7
      go_wp2_with fail
      refine hlist.mono ?_
      rintro e w1 ⟨A, c, rfl, hs, n1⟩
      clear hlist
      go_wp2_with fail
      refine (sAddr_any _ _ (by omega)).mono ?_
      rintro e w9 ⟨rfl, rfl⟩
      rw [hX]
      clear hX
      go_wp2_with fail
      refine (iFindAddrGreaterEqual_any A c L x _ hs (by omega) hp hL hT (by omega) (by omega)).mono ?_
      rintro e w2 ⟨j, hj, rfl, n2⟩
      have hs2 := hs.nx n2
      have HJ := Lib.hid hj
      clear hj
      have hb2 := bl_step n2 n1 n1.size
      go_wp2_with fail
      go_loop [9] (fun v => ∃ i : Nat, i ≤ L.length ∧ v = .int .i64 i ∧ Hid (∀ k (h : k < L.length), k < i → (L[k]).2 ≤ x)) (fun v => L.length - (intOf v).toNat)
      case atStart => exact ⟨0, by omega, rfl, fun _ _ h => by omega⟩
      case round =>
        obtain ⟨i, hi, rfl, hlo⟩ := hrel
        by_cases hlt : i < L.length
        · obtain ⟨g, rfl, hg, hc0, hc1⟩ := hs2.at hlt
          by_cases hx : x < (L[i]).2
          · have hij : j = i := ge_unique HJ.out ⟨by omega, hlo.out, fun k hk hle => Int.lt_of_lt_of_le hx (hT.lim_mono hlt hk hle)⟩
            subst hij
            have hd : decide (j < L.length) = true := by simpa using hlt
            have hv : fgV L x j = if x < (L[j]).1 then (L[j]).1 else x := by unfold fgV; rw [dif_pos hlt]
            have hbd := hL.at hlt
            generalize fgV L x j = v at hv ⊢
            generalize L[j] = r at hc0 hc1 hx hv hbd
            by_cases hm : x < r.1
            · rw [if_pos hm] at hv
              subst hv
              have he : (r.1 == r.1) = true := by simp
              clear hlo
              go_wp2
              go_ret
              exact ⟨rfl, hb2⟩
            · rw [if_neg hm] at hv
              subst hv
              have he : (v == v) = true := by simp
              have hm' : r.1 ≤ v := by omega
              clear hlo hm
              go_wp2
              go_ret
              exact ⟨rfl, hb2⟩
          · have hn2 := Lib.hid (show ∀ k (h : k < L.length), k < i + 1 → (L[k]).2 ≤ x from fun k hk hlt2 => by
              by_cases hki : k < i
              · exact hlo.out k hk hki
              · obtain rfl : k = i := by omega
                omega)
            generalize L[i] = r at hc0 hc1 hx
            go_wp2
            go_round
            case rel => exact ⟨i + 1, by omega, by go_num, hn2.out⟩
            case measure => simp [intOf]; omega
        · have hij : j = L.length := ge_unique HJ.out ⟨Nat.le_refl _, fun k hk _ => hlo.out k hk (by omega), fun k hk hle => by omega⟩
          have hd : decide (j < L.length) = false := by simp; omega
          clear hij hlo
          go_wp2
          go_ret
          exact ⟨rfl, hb2⟩

set_option maxRecDepth 100000 in
theorem lifted (os : Os) (started : os.Started) (H : Type) (enc : TypeId × Value → H) :
    ReturnsInHanded {} Try.checked os 7 .any (Rows.fnExactFindGreaterEqualSpec.pre6 enc Try.prog Try.f7 Rows.fnExactFindGreaterEqualRow.domain false) (Rows.fnExactFindGreaterEqualSpec.post enc Try.prog Try.f7 false true false false) := by
  refine returnsInHanded_of_change (C := Try.checked) own started (by kernel_rfl) Try.func7
    (ChangeSpec.witness6 (enc := enc) (C := Try.checked) false ⟨#[], #[.slice none 0 0, .int .u64 0], []⟩ 8 (by kernel_rfl) (by kernel_rfl) (by kernel_rfl) (by kernel_rfl)) ?_
  intro W base args ds gs before hval0 hW hcnd _
  have hval : ∀ (j : Nat) t v, Try.f7.params[j]? = some t → args[j]? = some v → Value.okWide Try.prog W .any base t v := hval0
  have hW' := hW
  obtain ⟨p, q, hA0, hV, rfl, hfz, hnd⟩ := hW
  have hA : DataW.TrodAll enc Try.prog W 0 (fun _ => true) true Try.f7.params.toList args.toList ds p := hA0
  rw [Try.params7] at hA hval
  obtain ⟨v0, vs0, d0, ds0, p0, q0, hargs, rfl, rfl, h0, r0⟩ := trodAll_cons hA
  obtain ⟨v1, vs1, d1, ds1, p1, q1, rfl, rfl, rfl, h1, r1⟩ := trodAll_cons r0
  obtain ⟨rfl, rfl, rfl⟩ := trodAll_nil r1
  obtain rfl : args = #[v0, v1] := by cases args; simp_all
  obtain ⟨rfl, rfl⟩ := trodVars_none hV
  obtain ⟨a0, len0, cap0, rfl⟩ := okWide_slice Try.underlying22 (hval 0 22 v0 rfl rfl)
  have k0 := h0
  have lt0 : ∀ x ∈ p0, x.block < W.heap.size := by obtain ⟨m, hm⟩ := k0; exact DataW.trod_lt m _ _ _ hm
  obtain ⟨z0, w0⟩ : ∃ zs, IsRow .u16 W a0 len0 cap0 zs := by
    obtain ⟨fuel, hf⟩ := h0
    rcases open_ints Try.underlying22 Try.underlying44 (by kernel_rfl) hf with ⟨hcs, _⟩ | ⟨x, l, c, zs, hcs, _, hl, hm, hz, _, hcell, hwz⟩
    · simp [Value.cells] at hcs
      obtain ⟨rfl, rfl, rfl⟩ := hcs
      exact ⟨[], .inl ⟨rfl, rfl, rfl, rfl⟩⟩
    · simp [Value.cells] at hcs
      obtain ⟨rfl, rfl, rfl⟩ := hcs
      exact ⟨zs, .inr ⟨_, rfl, hl, hm, by simpa using hz, hcell, hwz⟩⟩
  obtain ⟨a1, rfl, rfl, rfl, w1⟩ := open_int Try.underlying23 (hval 1 23 v1 rfl rfl) h1
  clear hA0 hval0
  refine (walk a0 len0 cap0 z0 a1 W w0 w1).mono fun e W' ⟨he, bel⟩ => ?_
  subst he
  exact ⟨_, rfl, _, _, _, [], _, [], hW', trodAll_mk1 (shut_bool Try.underlying4 _), (trodAll_cons_mk (Below.trod laidOut (by kernel_rfl) (of_decide_eq_true (by kernel_rfl)) k0 bel lt0) (trodAll_cons_mk (shut_int Try.underlying23 w1) trodAll_mk0)), rfl, Below.frame bel _, fun h => by cases h⟩
theorem over : Rows.fnExactFindGreaterEqualRow.holds Try.pinned (OpenSpec.ofChange Rows.fnExactFindGreaterEqualSpec) :=
  OpenClaim.holds_of_wide 7 Try.f7 rfl rfl rfl rfl rfl rfl rfl ⟨rfl, rfl, rfl, rfl, rfl⟩ rfl rfl rfl rfl rfl (by kernel_rfl) Try.func7 (by kernel_rfl)
    (of_decide_eq_true (by kernel_rfl)) (by unfold Func.isWrapper; first | (rw [if_pos (by decide +kernel)]; kernel_rfl) | (rw [if_neg (by decide +kernel)]; exact ⟨rfl, rfl⟩))
    (fun os started H enc _ => lifted os started H enc)
theorem proved : Rows.FnExactFindGreaterEqualSaid := over
#print axioms proved
end Go.Proofs.Ytppdgbjalnbboaa.fnExactFindGreaterEqual
