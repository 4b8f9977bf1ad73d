/- FnBuild: for all numbers, the ranges of the list that they tell, added one by one from the last one on, make the list, with its sum. No condition. -/
import Derived.Test.YtnmljgjcdofboaaRows
import Derived.Test.YtnmljgjcdofboaaTl
import Derived.ProofKit
import Derived.OpenShut
import Derived.ShutString
import Derived.ChangeOld
import Derived.Below
namespace Go.Proofs.Ytnmljgjcdofboaa.fnBuild
open Go.ChangeShapes Go.WideShapes Go.ChangeAt Go.RowKit
set_option linter.unusedVariables false
set_option linter.unusedSimpArgs false
theorem own : ownKnob Try.prog.godebug = none := by kernel_rfl
theorem laidOut : laidOutB Try.prog = true := by kernel_rfl

set_option maxHeartbeats 2000000 in
theorem walk (a0 : Option Addr) (len0 cap0 : Nat) (z0 : List Int) (w : World) (w0 : IsRow .u16 w a0 len0 cap0 z0) :
    Calls Try.prog 7 #[.slice a0 len0 cap0] w fun e w' => e = .returned (.bool true) ∧ Nx w w' := by
  by_cases hbig : 2147483647 < len0
  · go_enter Try.func7, Try.ntmps7
    go_wp2
    go_ret
    exact ⟨rfl, Below.refl _ _⟩
  · have hz16 := w0.z16
    have hlist := sList_any a0 len0 cap0 z0 w w0
    have hk : min len0 65536 / 2 ≤ 32768 := by omega
    have hn := Nat.le_trans (Nat.le_of_eq (genL_length z0 (min len0 65536 / 2))) hk
    have hL := genL_InB hz16 _ hk
    have hT := genL_td' hz16 (min len0 65536 / 2)
    have hL2 := Lib.hid (genL_inB hz16 _ hk)
    generalize genL z0 (min len0 65536 / 2) = L at hlist hn hL hT hL2
    clear hk hz16 w0
    have CI := Lib.hid (fun (m : Nat) (hm : m < L.length) => buildStep (L := L) hm hn hL hT)
    have CS := Lib.hid (fun A A2 c c2 W h h2 => sSame_any A A2 c c2 L L W h h2 (by omega) (by omega))
    rw [show sameB L L = true by simp [sameB]] at CS
    have CT := Lib.hid (fun A c W h => sTotal_any A c L W h (by omega) hL)
    have hwl : IntKind.i64.wrap ((L.length : Int) - 1) = (L.length : Int) - 1 := IntWalk.i64_in _ (by omega)
    clear hL hT hL2
    unfold RetN at CI
    go_enter Try.func7, Try.ntmps7
    go_wp2_with fail
    refine hlist.mono ?_
    rintro e w1 ⟨A, c, rfl, hs, n1⟩
    clear hlist
    go_wp2_with fail
    go_loopg [4, 5, 6] L.length (fun gn s t v wr => ∃ (k : Nat) (j : Int) (P : List R) (A' : Option Addr) (c' : Nat), k ≤ L.length ∧ k ≤ gn ∧ v = .int .i64 j ∧ (j ≤ (k : Int) - 1 ∧ (k : Int) - 1 ≤ j) ∧ s = .slice A' P.length c' ∧ t = .int .u64 (totL P) ∧ Hid (P = L.drop k) ∧ SlAt wr A' c' P ∧ Nx w1 wr)
    case atStart => exact ⟨L.length, (L.length : Int) - 1, [], none, 0, by omega, by omega, rfl, by omega, rfl, rfl, (List.drop_length).symm, ⟨Nat.le_refl _, Nat.zero_le _, .inl rfl⟩, Below.refl _ _⟩
    case round =>
      obtain ⟨k, j, P, A', c', hk, hg, rfl, hj, rfl, rfl, hP, hsP, hb⟩ := hrel
      cases k with
      | zero =>
        have hjn : j < 0 := by omega
        have hPe : P = L := by have := hP.out; rwa [List.drop_zero] at this
        subst hPe
        have hv3 : (totL P == totL P) = true := by simp
        have hsL := hs.nx hb
        go_wp2_with fail
        refine (CS.out _ _ _ _ _ hsP hsL).mono ?_
        rintro e w2 ⟨rfl, n2⟩
        go_wp2_with fail
        refine (CT.out _ _ _ (hsL.nx n2)).mono ?_
        rintro e w3 ⟨rfl, n3⟩
        go_wp2
        go_ret
        exact ⟨rfl, bl_step n3 (bl_step n2 (bl_step hb n1 n1.size) (by have := hb.size; have := Below.size n1; omega)) (by have := hb.size; have := Below.size n1; have := Below.size n2; omega)⟩
      | succ m =>
        obtain rfl : j = (m : Int) := by omega
        have hm : m < L.length := by omega
        obtain ⟨g, rfl, hgL, c0, c1⟩ := (hs.nx hb).at hm
        have CIm := CI.out m hm
        generalize L[m] = r at c0 c1 CIm
        generalize hQ : L.drop m = Q at CIm
        have HQ := Lib.hid hQ
        rw [← hP.out] at CIm
        have CIm := Lib.hid CIm
        have hmi : (0 : Int) ≤ m ∧ (m : Int) < L.length := by omega
        have hwm : IntKind.i64.wrap ((m : Int) - 1) = (m : Int) - 1 := IntWalk.i64_in _ (by omega)
        clear hQ hP CI CS CT
        go_wp2_with fail
        refine (CIm.out _ _ _ hsP).mono ?_
        rintro e w2 ⟨A2, c2, rfl, hs2, n2⟩
        have hb2 : Nx w1 w2 := bl_step n2 hb hb.size
        go_wp2
        go_roundg m
        case measure => omega
        case rel => exact ⟨m, (m : Int) - 1, Q, A2, c2, by omega, by omega, rfl, by omega, rfl, rfl, HQ.out.symm, hs2, hb2⟩

set_option maxRecDepth 100000 in
theorem lifted (os : Os) (started : os.Started) (H : Type) (enc : TypeId × Value → H) :
    ReturnsInHanded {} Try.checked os 7 .any (Rows.fnBuildSpec.pre6 enc Try.prog Try.f7 Rows.fnBuildRow.domain false) (Rows.fnBuildSpec.post enc Try.prog Try.f7 false true false false) := by
  refine returnsInHanded_of_change (C := Try.checked) own started (by kernel_rfl) Try.func7
    (ChangeSpec.witness6 (enc := enc) (C := Try.checked) false ⟨#[], #[.slice none 0 0], []⟩ 8 (by kernel_rfl) (by kernel_rfl) (by kernel_rfl) (by kernel_rfl)) ?_
  intro W base args ds gs before hval0 hW hcnd _
  have hval : ∀ (j : Nat) t v, Try.f7.params[j]? = some t → args[j]? = some v → Value.okWide Try.prog W .any base t v := hval0
  have hW' := hW
  obtain ⟨p, q, hA0, hV, rfl, hfz, hnd⟩ := hW
  have hA : DataW.TrodAll enc Try.prog W 0 (fun _ => true) true Try.f7.params.toList args.toList ds p := hA0
  rw [Try.params7] at hA hval
  obtain ⟨v0, vs0, d0, ds0, p0, q0, hargs, rfl, rfl, h0, r0⟩ := trodAll_cons hA
  obtain ⟨rfl, rfl, rfl⟩ := trodAll_nil r0
  obtain rfl : args = #[v0] := by cases args; simp_all
  obtain ⟨rfl, rfl⟩ := trodVars_none hV
  obtain ⟨a0, len0, cap0, rfl⟩ := okWide_slice Try.underlying33 (hval 0 33 v0 rfl rfl)
  have k0 := h0
  have lt0 : ∀ x ∈ p0, x.block < W.heap.size := by obtain ⟨m, hm⟩ := k0; exact DataW.trod_lt m _ _ _ hm
  obtain ⟨z0, w0⟩ : ∃ zs, IsRow .u16 W a0 len0 cap0 zs := by
    obtain ⟨fuel, hf⟩ := h0
    rcases open_ints Try.underlying33 Try.underlying59 (by kernel_rfl) hf with ⟨hcs, _⟩ | ⟨x, l, c, zs, hcs, _, hl, hm, hz, _, hcell, hwz⟩
    · simp [Value.cells] at hcs
      obtain ⟨rfl, rfl, rfl⟩ := hcs
      exact ⟨[], .inl ⟨rfl, rfl, rfl, rfl⟩⟩
    · simp [Value.cells] at hcs
      obtain ⟨rfl, rfl, rfl⟩ := hcs
      exact ⟨zs, .inr ⟨_, rfl, hl, hm, by simpa using hz, hcell, hwz⟩⟩
  clear hA0 hval0
  refine (walk a0 len0 cap0 z0 W w0).mono fun e W' ⟨he, bel⟩ => ?_
  subst he
  exact ⟨_, rfl, _, _, _, [], _, [], hW', trodAll_mk1 (shut_bool Try.underlying4 _), (trodAll_cons_mk (Below.trod laidOut (by kernel_rfl) (of_decide_eq_true (by kernel_rfl)) k0 bel lt0) trodAll_mk0), rfl, Below.frame bel _, fun h => by cases h⟩
theorem over : Rows.fnBuildRow.holds Try.pinned (OpenSpec.ofChange Rows.fnBuildSpec) :=
  OpenClaim.holds_of_wide 7 Try.f7 rfl rfl rfl rfl rfl rfl rfl ⟨rfl, rfl, rfl, rfl, rfl⟩ rfl rfl rfl rfl rfl (by kernel_rfl) Try.func7 (by kernel_rfl)
    (of_decide_eq_true (by kernel_rfl)) (by unfold Func.isWrapper; first | (rw [if_pos (by decide +kernel)]; kernel_rfl) | (rw [if_neg (by decide +kernel)]; exact ⟨rfl, rfl⟩))
    (fun os started H enc _ => lifted os started H enc)
theorem proved : Rows.FnBuildSaid := over
#print axioms proved
end Go.Proofs.Ytnmljgjcdofboaa.fnBuild
