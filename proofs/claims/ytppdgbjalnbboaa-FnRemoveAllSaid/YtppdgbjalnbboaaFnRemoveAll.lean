/- FnRemoveAll: for all numbers, the ranges that RemoveLast takes one by one from the list that they tell are those of the list, from the last one on, with the sums of what is left. No condition. -/
import Derived.Test.YtppdgbjalnbboaaRows
import Derived.Test.YtppdgbjalnbboaaRm
import Derived.Test.YtppdgbjalnbboaaTk
import Derived.ProofKit
import Derived.OpenShut
import Derived.ShutString
import Derived.ChangeOld
import Derived.Below
namespace Go.Proofs.Ytppdgbjalnbboaa.fnRemoveAll
open Go.ChangeShapes Go.WideShapes Go.ChangeAt Go.RowKit
set_option linter.unusedVariables false
theorem own : ownKnob Try.prog.godebug = none := by kernel_rfl
theorem laidOut : laidOutB Try.prog = true := by kernel_rfl

set_option maxHeartbeats 2000000 in
theorem walk (a0 : Option Addr) (len0 cap0 : Nat) (z0 : List Int) (w : World) (w0 : IsRow .u16 w a0 len0 cap0 z0) :
    Calls Try.prog 4 #[.slice a0 len0 cap0] w fun e w' => e = .returned (.bool true) ∧ Nx w w' := by
  by_cases hbig : 2147483647 < len0
  · go_enter Try.func4, Try.ntmps4
    go_wp2
    go_ret
    exact ⟨rfl, Below.refl _ _⟩
  · have hz16 := w0.z16
    have hlist := sList_any a0 len0 cap0 z0 w w0
    have hk : min len0 65536 / 2 ≤ 32768 := by omega
    have hn := Nat.le_trans (Nat.le_of_eq (genL_length z0 (min len0 65536 / 2))) hk
    have hL := genL_InB hz16 _ hk
    have hT := genL_td' hz16 (min len0 65536 / 2)
    have hL2 := Lib.hid (genL_inB hz16 _ hk)
    generalize genL z0 (min len0 65536 / 2) = L at hlist hn hL hT hL2
    clear hk hz16 w0
    have hTop : ∀ r ∈ L, 0 ≤ r.1 ∧ r.2 - r.1 ≤ 1099511627776 := fun r hr => by have := hL2.out r hr; omega
    have CI := Lib.hid (fun (m : Nat) (hm : m < L.length) => removeTop (L := L) hm (by omega) hL hT hTop)
    have CT := Lib.hid (fun (m : Nat) (hm : m < L.length) A c W (h : SlAt W A c L) => totalTake (L := L) hm (by omega) hL A c W h)
    have hwl : IntKind.i64.wrap ((L.length : Int) - 1) = (L.length : Int) - 1 := IntWalk.i64_in _ (by omega)
    clear hL hT hTop hL2
    go_enter Try.func4, Try.ntmps4
    go_wp2_with fail
    refine hlist.mono ?_
    rintro e w1 ⟨A, c, rfl, hs, n1⟩
    clear hlist
    go_wp2_with fail
    go_loopg [4, 5] L.length (fun gn s v wr => ∃ (k : Nat) (j : Int) (P : List R) (A' : Option Addr) (c' : Nat), k ≤ L.length ∧ k ≤ gn ∧ v = .int .i64 j ∧ (j ≤ (k : Int) - 1 ∧ (k : Int) - 1 ≤ j) ∧ s = .slice A' P.length c' ∧ Hid (P = L.take k) ∧ SlAt wr A' c' P ∧ Nx w1 wr)
    case atStart => exact ⟨L.length, (L.length : Int) - 1, L, A, c, by omega, by omega, rfl, by omega, rfl, (List.take_length).symm, hs, Below.refl _ _⟩
    case round =>
      obtain ⟨k, j, P, A', c', hk, hg, rfl, hj, rfl, hP, hsP, hb⟩ := hrel
      cases k with
      | zero =>
        have hjn : j < 0 := by omega
        have hPe : P = [] := by have := hP.out; rwa [List.take_zero] at this
        subst hPe
        go_wp2
        go_ret
        exact ⟨rfl, bl_step hb n1 n1.size⟩
      | succ m =>
        obtain rfl : j = (m : Int) := by omega
        have hm : m < L.length := by omega
        have hsL := hs.nx hb
        obtain ⟨g, rfl, hgL, c0, c1⟩ := hsL.at hm
        have CIm := CI.out m hm
        have CTm := CT.out m hm
        generalize L[m] = r at c0 c1 CIm
        generalize hQ : L.take m = Q at CIm CTm
        have HQ := Lib.hid hQ
        rw [← hP.out] at CIm
        have CIm := Lib.hid CIm
        have CTm := Lib.hid CTm
        generalize totL Q = tQ at CIm CTm
        clear hQ hP
        go_wp2_with fail
        refine (CIm.out _ _ _ hsP).mono ?_
        rintro e w2 ⟨A2, c2, rfl, hs2, n2⟩
        go_upto_region 9 with fail
        clear CI CT
        have hwm : IntKind.i64.wrap ((m : Int) - 1) = (m : Int) - 1 := IntWalk.i64_in _ (by omega)
        have hmi : (0 : Int) ≤ m ∧ (m : Int) < L.length ∧ (m : Int) ≤ L.length := by omega
        have hcap : (m : Int) ≤ c := by have := hs.cap; omega
        have hv1 : (r.1 == r.1) = true := by simp
        have hv2 : (r.2 == r.2) = true := by simp
        have hv3 : (tQ == tQ) = true := by simp
        have hv4 : (tQ != tQ) = false := by simp
        have bV := Bk.new w2 #[.int .u64 r.1, .int .u64 r.2] 28
        have kb : Nx wr (w2.alloc (.cells #[.int .u64 r.1, .int .u64 r.2] 28)) := Below.alloc n2 (Below.size n2) _
        replace hs2 := hs2.alloc (.cells #[.int .u64 r.1, .int .u64 r.2] 28)
        have hsL3 := hsL.nx kb
        have d0 := (Below.cell kb (p := ⟨g, m * 2, none⟩) (World.block_lt_of_cell? wr _ c0)).trans c0
        have d1 := (Below.cell kb (p := ⟨g, m * 2 + 1, none⟩) (World.block_lt_of_cell? wr _ c1)).trans c1
        generalize w2.alloc (.cells #[.int .u64 r.1, .int .u64 r.2] 28) = U at bV kb hs2 hsL3 d0 d1 ⊢
        have hS : ∀ w', Nx U w' → w'.cell? ⟨w2.heap.size, 0, none⟩ = some (.int .u64 r.1) ∧ w'.cell? ⟨w2.heap.size, 1, none⟩ = some (.int .u64 r.2) ∧ w'.cell? ⟨g, m * 2, none⟩ = some (.int .u64 r.1) ∧ w'.cell? ⟨g, m * 2 + 1, none⟩ = some (.int .u64 r.2) ∧ Nx U w' := fun w' k => ⟨(bV.nx k).cell 0, (bV.nx k).cell 1, (Below.cell k (p := ⟨g, m * 2, none⟩) (World.block_lt_of_cell? U _ d0)).trans d0, (Below.cell k (p := ⟨g, m * 2 + 1, none⟩) (World.block_lt_of_cell? U _ d1)).trans d1, k⟩
        clear c0 c1 d0 d1 n2 hsL
        refine wp_region_held_drew (S := fun w' => w'.cell? ⟨w2.heap.size, 0, none⟩ = some (.int .u64 r.1) ∧ w'.cell? ⟨w2.heap.size, 1, none⟩ = some (.int .u64 r.2) ∧ w'.cell? ⟨g, m * 2, none⟩ = some (.int .u64 r.1) ∧ w'.cell? ⟨g, m * 2 + 1, none⟩ = some (.int .u64 r.2) ∧ Nx U w') (by kernel_rfl) ?_ (fun hHeld => ?_)
        focus (exact hS _ ((Below.refl _ _).drew))
        (refine takeT (i := 0) (v := ?_) rfl ?_ (fun _ _ _ h => h) rfl hHeld ?_ ?_; rotate_left; (focus kernel_rfl); (focus (intro w hSw; (try dsimp only at hSw); go_simp; (try with_reducible rfl))); (try simp only [Act.put, List.setIfInBounds_toArray, List.set_cons_zero, List.set_cons_succ]))
        (refine takeT (i := 1) (v := ?_) rfl ?_ (fun _ _ _ h => h) rfl hHeld ?_ ?_; rotate_left; (focus kernel_rfl); (focus (intro w hSw; (try dsimp only at hSw); go_simp; (try with_reducible rfl))); (try simp only [Act.put, List.setIfInBounds_toArray, List.set_cons_zero, List.set_cons_succ]))
        (refine takeT (i := 2) (v := ?_) rfl ?_ (fun _ _ _ h => h) rfl hHeld ?_ ?_; rotate_left; (focus kernel_rfl); (focus (intro w hSw; (try dsimp only at hSw); go_simp; (try with_reducible rfl))); (try simp only [Act.put, List.setIfInBounds_toArray, List.set_cons_zero, List.set_cons_succ]))
        (refine takeT (i := 3) (v := ?_) rfl ?_ (fun _ _ _ h => h) rfl hHeld ?_ ?_; rotate_left; (focus kernel_rfl); (focus (intro w hSw; (try dsimp only at hSw); go_simp; (try with_reducible rfl))); (try simp only [Act.put, List.setIfInBounds_toArray, List.set_cons_zero, List.set_cons_succ]))
        (refine takeT (i := 4) (v := ?_) rfl ?_ (fun _ _ _ h => h) rfl hHeld ?_ ?_; rotate_left; (focus kernel_rfl); (focus (intro w hSw; (try dsimp only at hSw); go_simp; (try with_reducible rfl))); (try simp only [Act.put, List.setIfInBounds_toArray, List.set_cons_zero, List.set_cons_succ]))
        (refine takeT (i := 5) (v := ?_) rfl ?_ (fun _ _ _ h => h) rfl hHeld ?_ ?_; rotate_left; (focus kernel_rfl); (focus (intro w hSw; (try dsimp only at hSw); go_simp; (try with_reducible rfl))); (try simp only [Act.put, List.setIfInBounds_toArray, List.set_cons_zero, List.set_cons_succ]))
        (refine takeT (i := 6) (v := ?_) rfl ?_ (fun _ _ _ h => h) rfl hHeld ?_ ?_; rotate_left; (focus kernel_rfl); (focus (intro w hSw; (try dsimp only at hSw); go_simp; (try with_reducible rfl))); (try simp only [Act.put, List.setIfInBounds_toArray, List.set_cons_zero, List.set_cons_succ]))
        (refine takeT (i := 7) (v := ?_) rfl ?_ (fun _ _ _ h => h) rfl hHeld ?_ ?_; rotate_left; (focus kernel_rfl); (focus (intro w hSw; (try dsimp only at hSw); go_simp; (try with_reducible rfl))); (try simp only [Act.put, List.setIfInBounds_toArray, List.set_cons_zero, List.set_cons_succ]))
        (refine takeT (i := 8) (v := ?_) rfl ?_ (fun _ _ _ h => h) rfl hHeld ?_ ?_; rotate_left; (focus kernel_rfl); (focus (intro w hSw; (try dsimp only at hSw); go_simp; (try with_reducible rfl))); (try simp only [Act.put, List.setIfInBounds_toArray, List.set_cons_zero, List.set_cons_succ]))
        (refine takeT (i := 9) (v := ?_) rfl ?_ (fun _ _ _ h => h) rfl hHeld ?_ ?_; rotate_left; (focus kernel_rfl); (focus (intro w hSw; (try dsimp only at hSw); go_simp; (try with_reducible rfl))); (try simp only [Act.put, List.setIfInBounds_toArray, List.set_cons_zero, List.set_cons_succ]))
        (refine takeT (i := 10) (v := ?_) rfl ?_ (fun _ _ _ h => h) rfl hHeld ?_ ?_; rotate_left; (focus kernel_rfl); (focus (intro w hSw; (try dsimp only at hSw); go_simp; (try with_reducible rfl))); (try simp only [Act.put, List.setIfInBounds_toArray, List.set_cons_zero, List.set_cons_succ]))
        (refine doOne (i := 11) rfl ?_ (fun K hK => ?_); (focus kernel_rfl))
        ((first | fail | go_simp); (first | ((first | (go_at_call 17; refine (CTm.out _ _ _ (hsL3.nx hHeld.2.2.2.2)).mono ?_; rintro e wh ⟨rfl, nh⟩)); go_wp2_with fail) | skip); refine hK.out _ _ ?_ (fun hHeldN => ?_); (focus (exact hS _ (bl_step nh hHeld.2.2.2.2 (Below.size hHeld.2.2.2.2)))); clear hHeld hK K; have hHeld := hHeldN; clear hHeldN; (try simp only [Act.put, List.setIfInBounds_toArray, List.set_cons_zero, List.set_cons_succ]))
        (refine takeT (i := 12) (v := ?_) rfl ?_ (fun _ _ _ h => h) rfl hHeld ?_ ?_; rotate_left; (focus kernel_rfl); (focus (intro w hSw; (try dsimp only at hSw); go_simp; (try with_reducible rfl))); (try simp only [Act.put, List.setIfInBounds_toArray, List.set_cons_zero, List.set_cons_succ]))
        (refine takeT (i := 13) (v := ?_) rfl ?_ (fun _ _ _ h => h) rfl hHeld ?_ ?_; rotate_left; (focus kernel_rfl); (focus (intro w hSw; (try dsimp only at hSw); go_simp; (try with_reducible rfl))); (try simp only [Act.put, List.setIfInBounds_toArray, List.set_cons_zero, List.set_cons_succ]))
        (refine wpAnyH_done (by kernel_rfl) ?_ _)
        have kk := hHeld.2.2.2.2
        have hb5 : Nx w1 wh := bl_step kk (bl_step kb hb hb.size) (by have := Below.size kb; have := hb.size; omega)
        replace hs2 := hs2.nx kk
        clear hHeld hS bV kb hsL3 kk
        go_wp2
        go_roundg m
        case measure => omega
        case rel => exact ⟨m, (m : Int) - 1, Q, A2, c2, by omega, by omega, rfl, by omega, rfl, HQ.out.symm, hs2, hb5⟩

set_option maxRecDepth 100000 in
theorem lifted (os : Os) (started : os.Started) (H : Type) (enc : TypeId × Value → H) :
    ReturnsInHanded {} Try.checked os 4 .any (Rows.fnRemoveAllSpec.pre6 enc Try.prog Try.f4 Rows.fnRemoveAllRow.domain false) (Rows.fnRemoveAllSpec.post enc Try.prog Try.f4 false true false false) := by
  refine returnsInHanded_of_change (C := Try.checked) own started (by kernel_rfl) Try.func4
    (ChangeSpec.witness6 (enc := enc) (C := Try.checked) false ⟨#[], #[.slice none 0 0], []⟩ 8 (by kernel_rfl) (by kernel_rfl) (by kernel_rfl) (by kernel_rfl)) ?_
  intro W base args ds gs before hval0 hW hcnd _
  have hval : ∀ (j : Nat) t v, Try.f4.params[j]? = some t → args[j]? = some v → Value.okWide Try.prog W .any base t v := hval0
  have hW' := hW
  obtain ⟨p, q, hA0, hV, rfl, hfz, hnd⟩ := hW
  have hA : DataW.TrodAll enc Try.prog W 0 (fun _ => true) true Try.f4.params.toList args.toList ds p := hA0
  rw [Try.params4] at hA hval
  obtain ⟨v0, vs0, d0, ds0, p0, q0, hargs, rfl, rfl, h0, r0⟩ := trodAll_cons hA
  obtain ⟨rfl, rfl, rfl⟩ := trodAll_nil r0
  obtain rfl : args = #[v0] := by cases args; simp_all
  obtain ⟨rfl, rfl⟩ := trodVars_none hV
  obtain ⟨a0, len0, cap0, rfl⟩ := okWide_slice Try.underlying22 (hval 0 22 v0 rfl rfl)
  have k0 := h0
  have lt0 : ∀ x ∈ p0, x.block < W.heap.size := by obtain ⟨m, hm⟩ := k0; exact DataW.trod_lt m _ _ _ hm
  obtain ⟨z0, w0⟩ : ∃ zs, IsRow .u16 W a0 len0 cap0 zs := by
    obtain ⟨fuel, hf⟩ := h0
    rcases open_ints Try.underlying22 Try.underlying44 (by kernel_rfl) hf with ⟨hcs, _⟩ | ⟨x, l, c, zs, hcs, _, hl, hm, hz, _, hcell, hwz⟩
    · simp [Value.cells] at hcs
      obtain ⟨rfl, rfl, rfl⟩ := hcs
      exact ⟨[], .inl ⟨rfl, rfl, rfl, rfl⟩⟩
    · simp [Value.cells] at hcs
      obtain ⟨rfl, rfl, rfl⟩ := hcs
      exact ⟨zs, .inr ⟨_, rfl, hl, hm, by simpa using hz, hcell, hwz⟩⟩
  clear hA0 hval0
  refine (walk a0 len0 cap0 z0 W w0).mono fun e W' ⟨he, bel⟩ => ?_
  subst he
  exact ⟨_, rfl, _, _, _, [], _, [], hW', trodAll_mk1 (shut_bool Try.underlying4 _), (trodAll_cons_mk (Below.trod laidOut (by kernel_rfl) (of_decide_eq_true (by kernel_rfl)) k0 bel lt0) trodAll_mk0), rfl, Below.frame bel _, fun h => by cases h⟩
theorem over : Rows.fnRemoveAllRow.holds Try.pinned (OpenSpec.ofChange Rows.fnRemoveAllSpec) :=
  OpenClaim.holds_of_wide 4 Try.f4 rfl rfl rfl rfl rfl rfl rfl ⟨rfl, rfl, rfl, rfl, rfl⟩ rfl rfl rfl rfl rfl (by kernel_rfl) Try.func4 (by kernel_rfl)
    (of_decide_eq_true (by kernel_rfl)) (by unfold Func.isWrapper; first | (rw [if_pos (by decide +kernel)]; kernel_rfl) | (rw [if_neg (by decide +kernel)]; exact ⟨rfl, rfl⟩))
    (fun os started H enc _ => lifted os started H enc)
theorem proved : Rows.FnRemoveAllSaid := over
#print axioms proved
end Go.Proofs.Ytppdgbjalnbboaa.fnRemoveAll
