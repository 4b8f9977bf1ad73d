/- FnExactTakeFront: for all numbers, bytes are taken from the front of the range that the first two tell, from the first aligned address on, just if there is room; what is left lies behind them. No condition. -/
import Derived.Test.YtjhchjocaafakaaRows
import Derived.Test.YtjhchjocaafakaaRh
import Derived.Test.YtjhchjocaafakaaRw
import Derived.Test.YtjhchjocaafakaaRi
import Derived.Deep.DeepCutAuto
import Derived.ProofKit
import Derived.OpenShut
namespace Go.Proofs.Ytjhchjocaafakaa.fnExactTakeFront
open Go.ChangeShapes Go.WideShapes Go.ChangeAt Go.RowKit
set_option linter.unusedVariables false
theorem own : ownKnob Try.prog.godebug = none := by kernel_rfl

set_option maxHeartbeats 400000 in
theorem walk (a0 a1 a2 a3 : Int) (w : World) (w0 : (Lit.int .u64 a0).wf = true) (w1 : (Lit.int .u64 a1).wf = true) (w2 : (Lit.int .u64 a2).wf = true) (w3 : (Lit.int .u8 a3).wf = true) :
    Calls Try.prog 8 #[.int .u64 a0, .int .u64 a1, .int .u64 a2, .int .u8 a3] w fun e w' => e = .returned (.bool true) ∧ Nx w w' := by
  have h0 := u64_lo w0
  have h1 := u64_lo w1
  have h2 := u64_lo w2
  have h3 := u8_lo w3
  clear w0 w1 w2 w3
  have r := rg_in a0 a1
  obtain ⟨r1, r2, r3⟩ := r
  obtain ⟨al, hal1, hal2, hal⟩ := p2_of a3 h3.1
  have hab := p2_bd hal
  have hk8 : 0 ≤ a3 % 8 ∧ a3 % 8 < 8 := by omega
  have CR := Lib.hid (fun W => sRange_any a0 a1 W h0 h1)
  generalize rgB a0 a1 = B at CR r1 r2
  generalize rgL a0 a1 = Lm at CR r2 r3
  have b2 : 0 ≤ a2 % 1099511627776 ∧ a2 % 1099511627776 < 1099511627776 := by omega
  have hd := dnI_bd (n := B + al - 1) (a := al) (by omega) hab.1
  by_cases hroom : dnI (B + al - 1) al + (1 + a2 % 1099511627776) ≤ Lm
  · have CT := Lib.hid (fun W => iTakeFromFront_yes B Lm (1 + a2 % 1099511627776) al W (by omega) (by omega) (by omega) (by omega) (by omega) (by omega) hal hroom)
    have CU := Lib.hid (fun W => sUp_any B al W (by omega) (by omega) hal)
    generalize dnI (B + al - 1) al = at0 at CT CU hroom hd
    have hsz : szI (at0 + (1 + a2 % 1099511627776)) Lm = Lm - at0 - (1 + a2 % 1099511627776) := by unfold szI; split <;> omega
    have hsb : 0 ≤ Lm - at0 - (1 + a2 % 1099511627776) := by omega
    have ew : IntKind.u64.wrap (at0 + (1 + a2 % 1099511627776)) = at0 + (1 + a2 % 1099511627776) := IntWalk.u64_in _ (by omega)
    have ew2 : IntKind.u64.wrap (Lm - at0) = Lm - at0 := IntWalk.u64_in _ (by omega)
    have ew3 : IntKind.u64.wrap (Lm - at0 - (1 + a2 % 1099511627776)) = Lm - at0 - (1 + a2 % 1099511627776) := IntWalk.u64_in _ (by omega)
    have ee1 : (at0 == at0) = true := by simp
    have ee2 : (Lm - at0 - (1 + a2 % 1099511627776) == Lm - at0 - (1 + a2 % 1099511627776)) = true := by simp
    have ee3 : (at0 + (1 + a2 % 1099511627776) == at0 + (1 + a2 % 1099511627776)) = true := by simp
    clear hal
    go_enter Try.func8, Try.ntmps8
    go_wp2_with fail
    refine (CR.out _).mono ?_
    rintro e w1 ⟨rfl, n1⟩
    have k1 := hd_new n1 (.int .u64 B) (.int .u64 Lm) 26
    go_wp2_with fail
    refine (sAddr_any _ _ (by omega)).mono ?_
    rintro e w2 ⟨rfl, rfl⟩
    go_wp2_with fail
    refine (CT.out _).mono ?_
    rintro e w2 ⟨rfl, n2⟩
    have k2 := k1.nx n2
    have f0 := k2.at w1.heap.size 0 (.int .u64 B) (by simp)
    have f1 := k2.at w1.heap.size 1 (.int .u64 Lm) (by simp)
    have hz := World.block_lt_of_cell? _ _ f0
    have k3 := hd_more k2 (.int .u64 (at0 + (1 + a2 % 1099511627776))) (.int .u64 Lm) 26
    clear k1
    go_wp2_with fail
    refine (CU.out _).mono ?_
    rintro e w4 ⟨rfl, rfl⟩
    go_upto_region 6 with fail
    generalize w2.alloc (.cells #[.int .u64 (at0 + (1 + a2 % 1099511627776)), .int .u64 Lm] 26) = U at k3 ⊢
    have p0 := k3.at w2.heap.size 0 (.int .u64 (at0 + (1 + a2 % 1099511627776))) (by simp)
    have p1 := k3.at w2.heap.size 1 (.int .u64 Lm) (by simp)
    have p2 := k3.at w1.heap.size 0 (.int .u64 B) (by simp)
    have p3 := k3.at w1.heap.size 1 (.int .u64 Lm) (by simp)
    clear f0 f1
    refine wp_region_held_drew (S := fun w' => w'.cell? ⟨w2.heap.size, 0, none⟩ = some (.int .u64 (at0 + (1 + a2 % 1099511627776))) ∧ w'.cell? ⟨w2.heap.size, 1, none⟩ = some (.int .u64 Lm) ∧ w'.cell? ⟨w1.heap.size, 0, none⟩ = some (.int .u64 B) ∧ w'.cell? ⟨w1.heap.size, 1, none⟩ = some (.int .u64 Lm) ∧ Hd w [(w2.heap.size, 0, .int .u64 (at0 + (1 + a2 % 1099511627776))), (w2.heap.size, 1, .int .u64 Lm), (w1.heap.size, 0, .int .u64 B), (w1.heap.size, 1, .int .u64 Lm)] w') (by kernel_rfl) ?_ (fun hHeld => ?_)
    focus (have k := Hd.drew (w := w) (cs := [(w2.heap.size, 0, .int .u64 (at0 + (1 + a2 % 1099511627776))), (w2.heap.size, 1, .int .u64 Lm), (w1.heap.size, 0, .int .u64 B), (w1.heap.size, 1, .int .u64 Lm)]) (by assumption); exact ⟨k.at (w2.heap.size) (0) (.int .u64 (at0 + (1 + a2 % 1099511627776))) (by simp), k.at (w2.heap.size) (1) (.int .u64 Lm) (by simp), k.at (w1.heap.size) (0) (.int .u64 B) (by simp), k.at (w1.heap.size) (1) (.int .u64 Lm) (by simp), k⟩)
    (refine takeT (i := 0) (v := ?_) rfl ?_ (fun _ _ _ h => h) rfl hHeld ?_ ?_; rotate_left; (focus kernel_rfl); (focus (intro w hSw; (try dsimp only at hSw); go_simp; (try with_reducible rfl))); (try simp only [Act.put, List.setIfInBounds_toArray, List.set_cons_zero, List.set_cons_succ]))
    (refine takeT (i := 1) (v := ?_) rfl ?_ (fun _ _ _ h => h) rfl hHeld ?_ ?_; rotate_left; (focus kernel_rfl); (focus (intro w hSw; (try dsimp only at hSw); go_simp; (try with_reducible rfl))); (try simp only [Act.put, List.setIfInBounds_toArray, List.set_cons_zero, List.set_cons_succ]))
    (refine takeT (i := 2) (v := ?_) rfl ?_ (fun _ _ _ h => h) rfl hHeld ?_ ?_; rotate_left; (focus kernel_rfl); (focus (intro w hSw; (try dsimp only at hSw); go_simp; (try with_reducible rfl))); (try simp only [Act.put, List.setIfInBounds_toArray, List.set_cons_zero, List.set_cons_succ]))
    (refine takeT (i := 3) (v := ?_) rfl ?_ (fun _ _ _ h => h) rfl hHeld ?_ ?_; rotate_left; (focus kernel_rfl); (focus (intro w hSw; (try dsimp only at hSw); go_simp; (try with_reducible rfl))); (try simp only [Act.put, List.setIfInBounds_toArray, List.set_cons_zero, List.set_cons_succ]))
    (refine takeT (i := 4) (v := ?_) rfl ?_ (fun _ _ _ h => h) rfl hHeld ?_ ?_; rotate_left; (focus kernel_rfl); (focus (intro w hSw; (try dsimp only at hSw); go_simp; (try with_reducible rfl))); (try simp only [Act.put, List.setIfInBounds_toArray, List.set_cons_zero, List.set_cons_succ]))
    (refine takeT (i := 5) (v := ?_) rfl ?_ (fun _ _ _ h => h) rfl hHeld ?_ ?_; rotate_left; (focus kernel_rfl); (focus (intro w hSw; (try dsimp only at hSw); go_simp; (try with_reducible rfl))); (try simp only [Act.put, List.setIfInBounds_toArray, List.set_cons_zero, List.set_cons_succ]))
    (refine takeT (i := 6) (v := ?_) rfl ?_ (fun _ _ _ h => h) rfl hHeld ?_ ?_; rotate_left; (focus kernel_rfl); (focus (intro w hSw; (try dsimp only at hSw); go_simp; (try with_reducible rfl))); (try simp only [Act.put, List.setIfInBounds_toArray, List.set_cons_zero, List.set_cons_succ]))
    (refine takeT (i := 7) (v := ?_) rfl ?_ (fun _ _ _ h => h) rfl hHeld ?_ ?_; rotate_left; (focus kernel_rfl); (focus (intro w hSw; (try dsimp only at hSw); go_simp; (try with_reducible rfl))); (try simp only [Act.put, List.setIfInBounds_toArray, List.set_cons_zero, List.set_cons_succ]))
    (refine takeT (i := 9) (v := ?_) rfl ?_ (fun _ _ _ h => h) rfl hHeld ?_ ?_; rotate_left; (focus kernel_rfl); (focus (intro w hSw; (try dsimp only at hSw); go_simp; (try with_reducible rfl))); (try simp only [Act.put, List.setIfInBounds_toArray, List.set_cons_zero, List.set_cons_succ]))
    (refine takeT (i := 10) (v := ?_) rfl ?_ (fun _ _ _ h => h) rfl hHeld ?_ ?_; rotate_left; (focus kernel_rfl); (focus (intro w hSw; (try dsimp only at hSw); go_simp; (try with_reducible rfl))); (try simp only [Act.put, List.setIfInBounds_toArray, List.set_cons_zero, List.set_cons_succ]))
    (refine takeT (i := 11) (v := ?_) rfl ?_ (fun _ _ _ h => h) rfl hHeld ?_ ?_; rotate_left; (focus kernel_rfl); (focus (intro w hSw; (try dsimp only at hSw); go_simp; (try with_reducible rfl))); (try simp only [Act.put, List.setIfInBounds_toArray, List.set_cons_zero, List.set_cons_succ]))
    (refine takeT (i := 12) (v := ?_) rfl ?_ (fun _ _ _ h => h) rfl hHeld ?_ ?_; rotate_left; (focus kernel_rfl); (focus (intro w hSw; (try dsimp only at hSw); go_simp; (try with_reducible rfl))); (try simp only [Act.put, List.setIfInBounds_toArray, List.set_cons_zero, List.set_cons_succ]))
    (refine takeT (i := 13) (v := ?_) rfl ?_ (fun _ _ _ h => h) rfl hHeld ?_ ?_; rotate_left; (focus kernel_rfl); (focus (intro w hSw; (try dsimp only at hSw); go_simp; (try with_reducible rfl))); (try simp only [Act.put, List.setIfInBounds_toArray, List.set_cons_zero, List.set_cons_succ]))
    (refine takeT (i := 14) (v := ?_) rfl ?_ (fun _ _ _ h => h) rfl hHeld ?_ ?_; rotate_left; (focus kernel_rfl); (focus (intro w hSw; (try dsimp only at hSw); go_simp; (try with_reducible rfl))); (try simp only [Act.put, List.setIfInBounds_toArray, List.set_cons_zero, List.set_cons_succ]))
    (refine doOne (i := 8) rfl ?_ (fun K hK => ?_); (focus kernel_rfl))
    (go_simp; (first | ((first | first | (go_at_call 19; refine (sSize_any _ _ _ (by omega) (by omega) (by omega) (by omega)).mono ?_; rintro e wh ⟨rfl, nh⟩)); go_wp2_with fail) | skip); refine hK.out _ _ ?_ (fun hHeld => ?_); (focus (first | (have hq := hHeld; (try dsimp only at hq); have k := Hd.nx (w := w) (cs := [(w2.heap.size, 0, .int .u64 (at0 + (1 + a2 % 1099511627776))), (w2.heap.size, 1, .int .u64 Lm), (w1.heap.size, 0, .int .u64 B), (w1.heap.size, 1, .int .u64 Lm)]) (by go_split_ands; assumption) (by assumption); exact ⟨k.at (w2.heap.size) (0) (.int .u64 (at0 + (1 + a2 % 1099511627776))) (by simp), k.at (w2.heap.size) (1) (.int .u64 Lm) (by simp), k.at (w1.heap.size) (0) (.int .u64 B) (by simp), k.at (w1.heap.size) (1) (.int .u64 Lm) (by simp), k⟩) | (have hq := hHeld; (try dsimp only at hq); have k := Hd.nx (w := w) (cs := [(w2.heap.size, 0, .int .u64 (at0 + (1 + a2 % 1099511627776))), (w2.heap.size, 1, .int .u64 Lm), (w1.heap.size, 0, .int .u64 B), (w1.heap.size, 1, .int .u64 Lm)]) (by go_split_ands; assumption) (by assumption); exact ⟨k.at (w2.heap.size) (0) (.int .u64 (at0 + (1 + a2 % 1099511627776))) (by simp), k.at (w2.heap.size) (1) (.int .u64 Lm) (by simp), k.at (w1.heap.size) (0) (.int .u64 B) (by simp), k.at (w1.heap.size) (1) (.int .u64 Lm) (by simp), k⟩))); clear hK K; (try simp only [Act.put, List.setIfInBounds_toArray, List.set_cons_zero, List.set_cons_succ]))
    (refine takeT (i := 15) (v := ?_) rfl ?_ (fun _ _ _ h => h) rfl hHeld ?_ ?_; rotate_left; (focus kernel_rfl); (focus (intro w hSw; (try dsimp only at hSw); go_simp; (try with_reducible rfl))); (try simp only [Act.put, List.setIfInBounds_toArray, List.set_cons_zero, List.set_cons_succ]))
    (refine takeT (i := 16) (v := ?_) rfl ?_ (fun _ _ _ h => h) rfl hHeld ?_ ?_; rotate_left; (focus kernel_rfl); (focus (intro w hSw; (try dsimp only at hSw); go_simp; (try with_reducible rfl))); (try simp only [Act.put, List.setIfInBounds_toArray, List.set_cons_zero, List.set_cons_succ]))
    (refine takeT (i := 17) (v := ?_) rfl ?_ (fun _ _ _ h => h) rfl hHeld ?_ ?_; rotate_left; (focus kernel_rfl); (focus (intro w hSw; (try dsimp only at hSw); go_simp; (try with_reducible rfl))); (try simp only [Act.put, List.setIfInBounds_toArray, List.set_cons_zero, List.set_cons_succ]))
    (refine takeT (i := 18) (v := ?_) rfl ?_ (fun _ _ _ h => h) rfl hHeld ?_ ?_; rotate_left; (focus kernel_rfl); (focus (intro w hSw; (try dsimp only at hSw); go_simp; (try with_reducible rfl))); (try simp only [Act.put, List.setIfInBounds_toArray, List.set_cons_zero, List.set_cons_succ]))
    (refine takeT (i := 19) (v := ?_) rfl ?_ (fun _ _ _ h => h) rfl hHeld ?_ ?_; rotate_left; (focus kernel_rfl); (focus (intro w hSw; (try dsimp only at hSw); go_simp; (try with_reducible rfl))); (try simp only [Act.put, List.setIfInBounds_toArray, List.set_cons_zero, List.set_cons_succ]))
    (refine takeT (i := 20) (v := ?_) rfl ?_ (fun _ _ _ h => h) rfl hHeld ?_ ?_; rotate_left; (focus kernel_rfl); (focus (intro w hSw; (try dsimp only at hSw); go_simp; (try with_reducible rfl))); (try simp only [Act.put, List.setIfInBounds_toArray, List.set_cons_zero, List.set_cons_succ]))
    (refine takeT (i := 21) (v := ?_) rfl ?_ (fun _ _ _ h => h) rfl hHeld ?_ ?_; rotate_left; (focus kernel_rfl); (focus (intro w hSw; (try dsimp only at hSw); go_simp; (try with_reducible rfl))); (try simp only [Act.put, List.setIfInBounds_toArray, List.set_cons_zero, List.set_cons_succ]))
    (refine takeT (i := 22) (v := ?_) rfl ?_ (fun _ _ _ h => h) rfl hHeld ?_ ?_; rotate_left; (focus kernel_rfl); (focus (intro w hSw; (try dsimp only at hSw); go_simp; (try with_reducible rfl))); (try simp only [Act.put, List.setIfInBounds_toArray, List.set_cons_zero, List.set_cons_succ]))
    (refine takeT (i := 23) (v := ?_) rfl ?_ (fun _ _ _ h => h) rfl hHeld ?_ ?_; rotate_left; (focus kernel_rfl); (focus (intro w hSw; (try dsimp only at hSw); go_simp; (try with_reducible rfl))); (try simp only [Act.put, List.setIfInBounds_toArray, List.set_cons_zero, List.set_cons_succ]))
    (refine takeT (i := 24) (v := ?_) rfl ?_ (fun _ _ _ h => h) rfl hHeld ?_ ?_; rotate_left; (focus kernel_rfl); (focus (intro w hSw; (try dsimp only at hSw); go_simp; (try with_reducible rfl))); (try simp only [Act.put, List.setIfInBounds_toArray, List.set_cons_zero, List.set_cons_succ]))
    (refine takeF (i := 25) rfl ?_ (fun _ _ _ h => h) rfl hHeld ?_; (focus kernel_rfl); (try simp only [Act.put, List.setIfInBounds_toArray, List.set_cons_zero, List.set_cons_succ]))
    (refine takeF (i := 26) rfl ?_ (fun _ _ _ h => h) rfl hHeld ?_; (focus kernel_rfl); (try simp only [Act.put, List.setIfInBounds_toArray, List.set_cons_zero, List.set_cons_succ]))
    (refine takeF (i := 27) rfl ?_ (fun _ _ _ h => h) rfl hHeld ?_; (focus kernel_rfl); (try simp only [Act.put, List.setIfInBounds_toArray, List.set_cons_zero, List.set_cons_succ]))
    (refine takeT (i := 28) (v := ?_) rfl ?_ (fun _ _ _ h => h) rfl hHeld ?_ ?_; rotate_left; (focus kernel_rfl); (focus (intro w hSw; (try dsimp only at hSw); go_simp; (try with_reducible rfl))); (try simp only [Act.put, List.setIfInBounds_toArray, List.set_cons_zero, List.set_cons_succ]))
    (refine takeT (i := 29) (v := ?_) rfl ?_ (fun _ _ _ h => h) rfl hHeld ?_ ?_; rotate_left; (focus kernel_rfl); (focus (intro w hSw; (try dsimp only at hSw); go_simp; (try with_reducible rfl))); (try simp only [Act.put, List.setIfInBounds_toArray, List.set_cons_zero, List.set_cons_succ]))
    (refine takeT (i := 30) (v := ?_) rfl ?_ (fun _ _ _ h => h) rfl hHeld ?_ ?_; rotate_left; (focus kernel_rfl); (focus (intro w hSw; (try dsimp only at hSw); go_simp; (try with_reducible rfl))); (try simp only [Act.put, List.setIfInBounds_toArray, List.set_cons_zero, List.set_cons_succ]))
    (refine wpAnyH_done (by kernel_rfl) ?_ _)
    obtain ⟨kc0, kc1, kc2, kc3, k⟩ := hHeld
    go_wp2
    go_ret
    exact ⟨rfl, k.below⟩
  · have CT := Lib.hid (fun W => iTakeFromFront_no B Lm (1 + a2 % 1099511627776) al W (by omega) (by omega) (by omega) (by omega) (by omega) (by omega) hal hroom)
    have CU := Lib.hid (fun W => sUp_any B al W (by omega) (by omega) hal)
    generalize dnI (B + al - 1) al = at0 at CT CU hroom hd
    clear hal
    go_enter Try.func8, Try.ntmps8
    go_wp2_with fail
    refine (CR.out _).mono ?_
    rintro e w1 ⟨rfl, n1⟩
    have k1 := hd_new n1 (.int .u64 B) (.int .u64 Lm) 26
    go_wp2_with fail
    refine (sAddr_any _ _ (by omega)).mono ?_
    rintro e w2 ⟨rfl, rfl⟩
    go_wp2_with fail
    refine (CT.out _).mono ?_
    rintro e w2 ⟨rfl, n2⟩
    have k2 := k1.nx n2
    have f0 := k2.at w1.heap.size 0 (.int .u64 B) (by simp)
    have f1 := k2.at w1.heap.size 1 (.int .u64 Lm) (by simp)
    have hz := World.block_lt_of_cell? _ _ f0
    go_wp2_with fail
    refine (CU.out _).mono ?_
    rintro e w4 ⟨rfl, rfl⟩
    go_wp2
    go_ret
    exact ⟨rfl, k2.below.alloc k2.below.size _⟩

set_option maxRecDepth 100000 in
theorem lifted (os : Os) (started : os.Started) (H : Type) (enc : TypeId × Value → H) :
    ReturnsInHanded {} Try.checked os 8 .any (Rows.fnExactTakeFrontSpec.pre6 enc Try.prog Try.f8 Rows.fnExactTakeFrontRow.domain false) (Rows.fnExactTakeFrontSpec.post enc Try.prog Try.f8 false true false false) := by
  refine returnsInHanded_of_change (C := Try.checked) own started (by kernel_rfl) Try.func8
    (ChangeSpec.witness6 (enc := enc) (C := Try.checked) false ⟨#[], #[.int .u64 0, .int .u64 0, .int .u64 0, .int .u8 0], []⟩ 8 (by kernel_rfl) (by kernel_rfl) (by kernel_rfl) (by kernel_rfl)) ?_
  intro W base args ds gs before hval0 hW hcnd _
  have hval : ∀ (j : Nat) t v, Try.f8.params[j]? = some t → args[j]? = some v → Value.okWide Try.prog W .any base t v := hval0
  have hW' := hW
  obtain ⟨p, q, hA0, hV, rfl, hfz, hnd⟩ := hW
  have hA : DataW.TrodAll enc Try.prog W 0 (fun _ => true) true Try.f8.params.toList args.toList ds p := hA0
  rw [Try.params8] at hA hval
  obtain ⟨v0, vs0, d0, ds0, p0, q0, hargs, rfl, rfl, h0, r0⟩ := trodAll_cons hA
  obtain ⟨v1, vs1, d1, ds1, p1, q1, rfl, rfl, rfl, h1, r1⟩ := trodAll_cons r0
  obtain ⟨v2, vs2, d2, ds2, p2, q2, rfl, rfl, rfl, h2, r2⟩ := trodAll_cons r1
  obtain ⟨v3, vs3, d3, ds3, p3, q3, rfl, rfl, rfl, h3, r3⟩ := trodAll_cons r2
  obtain ⟨rfl, rfl, rfl⟩ := trodAll_nil r3
  obtain rfl : args = #[v0, v1, v2, v3] := by cases args; simp_all
  obtain ⟨rfl, rfl⟩ := trodVars_none hV
  obtain ⟨a0, rfl, rfl, rfl, w0⟩ := open_int Try.underlying22 (hval 0 22 v0 rfl rfl) h0
  obtain ⟨a1, rfl, rfl, rfl, w1⟩ := open_int Try.underlying22 (hval 1 22 v1 rfl rfl) h1
  obtain ⟨a2, rfl, rfl, rfl, w2⟩ := open_int Try.underlying22 (hval 2 22 v2 rfl rfl) h2
  obtain ⟨a3, rfl, rfl, rfl, w3⟩ := open_int Try.underlying5 (hval 3 5 v3 rfl rfl) h3
  clear hA0 hval0
  refine (walk a0 a1 a2 a3 W w0 w1 w2 w3).mono fun e W' ⟨he, bel⟩ => ?_
  subst he
  exact ⟨_, rfl, _, _, _, [], _, [], hW', trodAll_mk1 (shut_bool Try.underlying4 _), (trodAll_cons_mk (shut_int Try.underlying22 w0) (trodAll_cons_mk (shut_int Try.underlying22 w1) (trodAll_cons_mk (shut_int Try.underlying22 w2) (trodAll_cons_mk (shut_int Try.underlying5 w3) trodAll_mk0)))), rfl, Below.frame bel _, fun h => by cases h⟩
theorem over : Rows.fnExactTakeFrontRow.holds Try.pinned (OpenSpec.ofChange Rows.fnExactTakeFrontSpec) :=
  OpenClaim.holds_of_wide 8 Try.f8 rfl rfl rfl rfl rfl rfl rfl ⟨rfl, rfl, rfl, rfl, rfl⟩ rfl rfl rfl rfl rfl (by kernel_rfl) Try.func8 (by kernel_rfl)
    (of_decide_eq_true (by kernel_rfl)) (by unfold Func.isWrapper; first | (rw [if_pos (by decide +kernel)]; kernel_rfl) | (rw [if_neg (by decide +kernel)]; exact ⟨rfl, rfl⟩))
    (fun os started H enc _ => lifted os started H enc)
theorem proved : Rows.FnExactTakeFrontSaid := over
#print axioms proved
end Go.Proofs.Ytjhchjocaafakaa.fnExactTakeFront
