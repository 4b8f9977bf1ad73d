/- FnExactFindSucc: for all numbers, FindSucc gives the number of the first range of the list that they tell whose base is above the address. No condition. -/
import Derived.Test.YtppdgbjalnbboaaRows
import Derived.Test.YtppdgbjalnbboaaFi
import Derived.ProofKit
import Derived.OpenShut
import Derived.ShutString
import Derived.ChangeOld
import Derived.Below
namespace Go.Proofs.Ytppdgbjalnbboaa.fnExactFindSucc
open Go.ChangeShapes Go.WideShapes Go.ChangeAt Go.RowKit
set_option linter.unusedVariables false
theorem own : ownKnob Try.prog.godebug = none := by kernel_rfl
theorem laidOut : laidOutB Try.prog = true := by kernel_rfl

set_option maxHeartbeats 2000000 in
theorem walk (a0 : Option Addr) (len0 cap0 : Nat) (z0 : List Int) (a1 : Int) (w : World) (w0 : IsRow .u16 w a0 len0 cap0 z0) (w1 : (Lit.int .u64 a1).wf = true) :
    Calls Try.prog 5 #[.slice a0 len0 cap0, .int .u64 a1] w fun e w' => e = .returned (.bool true) ∧ Nx w w' := by
  have h1 := u64_lo w1
  have b1 : 0 ≤ a1 % 1099511627776 ∧ a1 % 1099511627776 < 1099511627776 := by omega
  by_cases hbig : 2147483647 < len0
  · go_enter Try.func5, Try.ntmps5
    go_wp2
    go_ret
    exact ⟨rfl, Below.refl _ _⟩
  · have hz16 := w0.z16
    have hlist := sList_any a0 len0 cap0 z0 w w0
    have hk : min len0 65536 / 2 ≤ 32768 := by omega
    have hn := Nat.le_trans (Nat.le_of_eq (genL_length z0 (min len0 65536 / 2))) hk
    have hL := genL_InB hz16 _ hk
    have hT := genL_td' hz16 (min len0 65536 / 2)
    have hL2 := Lib.hid (genL_inB hz16 _ hk)
    generalize genL z0 (min len0 65536 / 2) = L at hlist hn hL hT hL2
    clear hk hz16 w0
    generalize hX : a1 % 1099511627776 = x at b1
    go_enter Try.func5, Try.ntmps5
    go_wp2_with fail
    refine hlist.mono ?_
    rintro e w1 ⟨A, c, rfl, hs, n1⟩
    clear hlist
    go_wp2_with fail
    refine (sAddr_any _ _ (by omega)).mono ?_
    rintro e w9 ⟨rfl, rfl⟩
    rw [hX]
    clear hX
    have hb1 : Below w.heap.size w w1 := n1
    go_wp2_with fail
    go_loop [7] (fun v => ∃ i : Nat, i ≤ L.length ∧ v = .int .i64 i ∧ (∀ j (h : j < L.length), j < i → (L[j]).1 ≤ x)) (fun v => L.length - (intOf v).toNat)
    case atStart => exact ⟨0, by omega, rfl, fun _ _ h => by omega⟩
    case round =>
      obtain ⟨i, hi, rfl, hlo⟩ := hrel
      by_cases hlt : i < L.length
      · obtain ⟨g, rfl, hg, hc0, hc1⟩ := hs.at hlt
        by_cases hx : (L[i]).1 ≤ x
        · have hd : decide ((L[i]).1 ≤ x) = true := by simpa using hx
          have hS3 := Lib.hid (fun (j : Nat) (hj : j < L.length) (hle : j < i + 1) => Int.le_trans (hT.base_mono hj hlt (by omega)) hx)
          clear hlo
          go_wp2_with fail
          go_round
          case rel => exact ⟨i + 1, by omega, by go_num, hS3.out⟩
          case measure => simp [intOf]; omega
        · have hd : decide ((L[i]).1 ≤ x) = false := by simpa using hx
          have hS := Lib.hid (show SuccAt L x i from ⟨by omega, hlo, fun j hj hle => Int.lt_of_lt_of_le (by omega) (hT.base_mono hlt hj hle)⟩)
          clear hlo
          go_wp2_with fail
          refine (iFindSucc_any _ c L x _ hs (by omega) hL hT (by omega) (by omega)).mono ?_
          rintro e w2 ⟨i2, rfl, hs2, n2⟩
          obtain rfl := succ_unique hs2 hS.out
          have he : ((i2 : Int) == (i2 : Int)) = true := by simp
          go_wp2_with fail
          go_ret
          exact ⟨rfl, bl_step n2 n1 n1.size⟩
      · have hS := Lib.hid (show SuccAt L x i from ⟨by omega, hlo, fun j hj hle => by omega⟩)
        clear hlo
        go_wp2_with fail
        refine (iFindSucc_any _ c L x _ hs (by omega) hL hT (by omega) (by omega)).mono ?_
        rintro e w2 ⟨i2, rfl, hs2, n2⟩
        obtain rfl := succ_unique hs2 hS.out
        have he : ((i2 : Int) == (i2 : Int)) = true := by simp
        go_wp2_with fail
        go_ret
        exact ⟨rfl, bl_step n2 n1 n1.size⟩

set_option maxRecDepth 100000 in
theorem lifted (os : Os) (started : os.Started) (H : Type) (enc : TypeId × Value → H) :
    ReturnsInHanded {} Try.checked os 5 .any (Rows.fnExactFindSuccSpec.pre6 enc Try.prog Try.f5 Rows.fnExactFindSuccRow.domain false) (Rows.fnExactFindSuccSpec.post enc Try.prog Try.f5 false true false false) := by
  refine returnsInHanded_of_change (C := Try.checked) own started (by kernel_rfl) Try.func5
    (ChangeSpec.witness6 (enc := enc) (C := Try.checked) false ⟨#[], #[.slice none 0 0, .int .u64 0], []⟩ 8 (by kernel_rfl) (by kernel_rfl) (by kernel_rfl) (by kernel_rfl)) ?_
  intro W base args ds gs before hval0 hW hcnd _
  have hval : ∀ (j : Nat) t v, Try.f5.params[j]? = some t → args[j]? = some v → Value.okWide Try.prog W .any base t v := hval0
  have hW' := hW
  obtain ⟨p, q, hA0, hV, rfl, hfz, hnd⟩ := hW
  have hA : DataW.TrodAll enc Try.prog W 0 (fun _ => true) true Try.f5.params.toList args.toList ds p := hA0
  rw [Try.params5] at hA hval
  obtain ⟨v0, vs0, d0, ds0, p0, q0, hargs, rfl, rfl, h0, r0⟩ := trodAll_cons hA
  obtain ⟨v1, vs1, d1, ds1, p1, q1, rfl, rfl, rfl, h1, r1⟩ := trodAll_cons r0
  obtain ⟨rfl, rfl, rfl⟩ := trodAll_nil r1
  obtain rfl : args = #[v0, v1] := by cases args; simp_all
  obtain ⟨rfl, rfl⟩ := trodVars_none hV
  obtain ⟨a0, len0, cap0, rfl⟩ := okWide_slice Try.underlying22 (hval 0 22 v0 rfl rfl)
  have k0 := h0
  have lt0 : ∀ x ∈ p0, x.block < W.heap.size := by obtain ⟨m, hm⟩ := k0; exact DataW.trod_lt m _ _ _ hm
  obtain ⟨z0, w0⟩ : ∃ zs, IsRow .u16 W a0 len0 cap0 zs := by
    obtain ⟨fuel, hf⟩ := h0
    rcases open_ints Try.underlying22 Try.underlying44 (by kernel_rfl) hf with ⟨hcs, _⟩ | ⟨x, l, c, zs, hcs, _, hl, hm, hz, _, hcell, hwz⟩
    · simp [Value.cells] at hcs
      obtain ⟨rfl, rfl, rfl⟩ := hcs
      exact ⟨[], .inl ⟨rfl, rfl, rfl, rfl⟩⟩
    · simp [Value.cells] at hcs
      obtain ⟨rfl, rfl, rfl⟩ := hcs
      exact ⟨zs, .inr ⟨_, rfl, hl, hm, by simpa using hz, hcell, hwz⟩⟩
  obtain ⟨a1, rfl, rfl, rfl, w1⟩ := open_int Try.underlying23 (hval 1 23 v1 rfl rfl) h1
  clear hA0 hval0
  refine (walk a0 len0 cap0 z0 a1 W w0 w1).mono fun e W' ⟨he, bel⟩ => ?_
  subst he
  exact ⟨_, rfl, _, _, _, [], _, [], hW', trodAll_mk1 (shut_bool Try.underlying4 _), (trodAll_cons_mk (Below.trod laidOut (by kernel_rfl) (of_decide_eq_true (by kernel_rfl)) k0 bel lt0) (trodAll_cons_mk (shut_int Try.underlying23 w1) trodAll_mk0)), rfl, Below.frame bel _, fun h => by cases h⟩
theorem over : Rows.fnExactFindSuccRow.holds Try.pinned (OpenSpec.ofChange Rows.fnExactFindSuccSpec) :=
  OpenClaim.holds_of_wide 5 Try.f5 rfl rfl rfl rfl rfl rfl rfl ⟨rfl, rfl, rfl, rfl, rfl⟩ rfl rfl rfl rfl rfl (by kernel_rfl) Try.func5 (by kernel_rfl)
    (of_decide_eq_true (by kernel_rfl)) (by unfold Func.isWrapper; first | (rw [if_pos (by decide +kernel)]; kernel_rfl) | (rw [if_neg (by decide +kernel)]; exact ⟨rfl, rfl⟩))
    (fun os started H enc _ => lifted os started H enc)
theorem proved : Rows.FnExactFindSuccSaid := over
#print axioms proved
end Go.Proofs.Ytppdgbjalnbboaa.fnExactFindSucc
