/- FnExactRemove: for every four numbers, the range of the first two without all addresses from the third's on has as many addresses as lie below, and has the fourth's just if the range has it and it lies below. No condition. -/
import Derived.Test.YtjhchjocaafakaaRows
import Derived.Test.YtjhchjocaafakaaRh
import Derived.Test.YtjhchjocaafakaaRw
import Derived.Deep.DeepCutAuto
import Derived.ProofKit
import Derived.OpenShut
namespace Go.Proofs.Ytjhchjocaafakaa.fnExactRemove
open Go.ChangeShapes Go.WideShapes Go.ChangeAt Go.RowKit
set_option linter.unusedVariables false
theorem own : ownKnob Try.prog.godebug = none := by kernel_rfl

set_option maxHeartbeats 400000 in
theorem walk (a0 a1 a2 a3 : Int) (w : World) (w0 : (Lit.int .u64 a0).wf = true) (w1 : (Lit.int .u64 a1).wf = true) (w2 : (Lit.int .u64 a2).wf = true) (w3 : (Lit.int .u64 a3).wf = true) :
    Calls Try.prog 11 #[.int .u64 a0, .int .u64 a1, .int .u64 a2, .int .u64 a3] w fun e w' => e = .returned (.bool true) ∧ Nx w w' := by
  have h0 := u64_lo w0
  have h1 := u64_lo w1
  have h2 := u64_lo w2
  have h3 := u64_lo w3
  clear w0 w1 w2 w3
  have r := rg_in a0 a1
  obtain ⟨r1, r2, r3⟩ := r
  have b2 : 0 ≤ a2 % 1099511627776 ∧ a2 % 1099511627776 < 1099511627776 := by omega
  have b3 : 0 ≤ a3 % 1099511627776 ∧ a3 % 1099511627776 < 1099511627776 := by omega
  have CR := Lib.hid (fun W => sRange_any a0 a1 W h0 h1)
  have CA := Lib.hid (fun W => sAddr_any a2 W h2)
  have CB := Lib.hid (fun W => sAddr_any a3 W h3)
  generalize rgB a0 a1 = B at CR r1 r2
  generalize rgL a0 a1 = Lm at CR r2 r3
  generalize a2 % 1099511627776 = x at CA b2
  generalize a3 % 1099511627776 = y at CB b3
  have CM := Lib.hid (fun W => iRemoveGreaterEqual_any B Lm x W (by omega) (by omega) (by omega) (by omega) (by omega) (by omega))
  by_cases hx : x ≤ B
  · have g1 : rmB B Lm x = 0 := by simp [rmB, hx]
    have g2 : rmL B Lm x = 0 := by simp [rmL, hx]
    rw [g1, g2] at CM
    have hx' : ¬ B < x := by omega
    rcases hr : hasB B Lm y with _ | _
    · have CS := Lib.hid (fun W => iSize_any 0 0 W (by omega) (by omega) (by omega) (by omega))
      have hsz : szI 0 0 = 0 := by unfold szI; split <;> omega
      rw [hsz] at CS
      have CC := Lib.hid (fun W => iContains_any 0 0 y W (by omega) (by omega) (by omega) (by omega) (by omega) (by omega))
      have hcc : hasB 0 0 y = false := by
        simp only [hasB, Bool.and_eq_false_iff, decide_eq_false_iff_not] at hr; simp [hasB]; try omega
      rw [hcc] at CC
      have CH := Lib.hid (fun W => sHas_any B Lm y W)
      rw [hr] at CH
      have ee1 : (0 == 0) = true := by simp
      have ee2 : (false == false) = true := by simp
      go_enter Try.func11, Try.ntmps11
      go_wp2_with fail
      refine (CR.out _).mono ?_
      rintro e w1 ⟨rfl, n1⟩
      have k1 := hd_new n1 (.int .u64 B) (.int .u64 Lm) 26
      go_wp2_with fail
      refine (CA.out _).mono ?_
      rintro e w2 ⟨rfl, rfl⟩
      go_wp2_with fail
      refine (CB.out _).mono ?_
      rintro e w2 ⟨rfl, rfl⟩
      go_wp2_with fail
      refine (CM.out _).mono ?_
      rintro e w2 ⟨rfl, n2⟩
      have k2 := k1.nx n2
      have f0 := k2.at w1.heap.size 0 (.int .u64 B) (by simp)
      have f1 := k2.at w1.heap.size 1 (.int .u64 Lm) (by simp)
      have hz := World.block_lt_of_cell? _ _ f0
      have k3 := hd_more k2 (.int .u64 0) (.int .u64 0) 26
      clear k1
      go_upto_region 6 with fail
      generalize w2.alloc (.cells #[.int .u64 0, .int .u64 0] 26) = U at k3 ⊢
      have p0 := k3.at w2.heap.size 0 (.int .u64 0) (by simp)
      have p1 := k3.at w2.heap.size 1 (.int .u64 0) (by simp)
      have p2 := k3.at w1.heap.size 0 (.int .u64 B) (by simp)
      have p3 := k3.at w1.heap.size 1 (.int .u64 Lm) (by simp)
      clear f0 f1
      refine wp_region_held_drew (S := fun w' => w'.cell? ⟨w2.heap.size, 0, none⟩ = some (.int .u64 0) ∧ w'.cell? ⟨w2.heap.size, 1, none⟩ = some (.int .u64 0) ∧ w'.cell? ⟨w1.heap.size, 0, none⟩ = some (.int .u64 B) ∧ w'.cell? ⟨w1.heap.size, 1, none⟩ = some (.int .u64 Lm) ∧ Hd w [(w2.heap.size, 0, .int .u64 0), (w2.heap.size, 1, .int .u64 0), (w1.heap.size, 0, .int .u64 B), (w1.heap.size, 1, .int .u64 Lm)] w') (by kernel_rfl) ?_ (fun hHeld => ?_)
      focus (have k := Hd.drew (w := w) (cs := [(w2.heap.size, 0, .int .u64 0), (w2.heap.size, 1, .int .u64 0), (w1.heap.size, 0, .int .u64 B), (w1.heap.size, 1, .int .u64 Lm)]) (by assumption); exact ⟨k.at (w2.heap.size) (0) (.int .u64 0) (by simp), k.at (w2.heap.size) (1) (.int .u64 0) (by simp), k.at (w1.heap.size) (0) (.int .u64 B) (by simp), k.at (w1.heap.size) (1) (.int .u64 Lm) (by simp), k⟩)
      (refine takeT (i := 0) (v := ?_) rfl ?_ (fun _ _ _ h => h) rfl hHeld ?_ ?_; rotate_left; (focus kernel_rfl); (focus (intro w hSw; (try dsimp only at hSw); go_simp; (try with_reducible rfl))); (try simp only [Act.put, List.setIfInBounds_toArray, List.set_cons_zero, List.set_cons_succ]))
      (refine takeT (i := 2) (v := ?_) rfl ?_ (fun _ _ _ h => h) rfl hHeld ?_ ?_; rotate_left; (focus kernel_rfl); (focus (intro w hSw; (try dsimp only at hSw); go_simp; (try with_reducible rfl))); (try simp only [Act.put, List.setIfInBounds_toArray, List.set_cons_zero, List.set_cons_succ]))
      (refine doOne (i := 1) rfl ?_ (fun K hK => ?_); (focus kernel_rfl))
      (go_simp; (first | ((first | first | (go_at_call 18; refine (CS.out _).mono ?_; rintro e wh ⟨rfl, nh⟩) | (go_at_call 15; refine (CC.out _).mono ?_; rintro e wh ⟨rfl, nh⟩) | (go_at_call 16; refine (CH.out _).mono ?_; rintro e wh ⟨rfl, nh⟩)); go_wp2_with fail) | skip); refine hK.out _ _ ?_ (fun hHeld => ?_); (focus (first | (have hq := hHeld; (try dsimp only at hq); have k := Hd.nx (w := w) (cs := [(w2.heap.size, 0, .int .u64 0), (w2.heap.size, 1, .int .u64 0), (w1.heap.size, 0, .int .u64 B), (w1.heap.size, 1, .int .u64 Lm)]) (by go_split_ands; assumption) (by assumption); exact ⟨k.at (w2.heap.size) (0) (.int .u64 0) (by simp), k.at (w2.heap.size) (1) (.int .u64 0) (by simp), k.at (w1.heap.size) (0) (.int .u64 B) (by simp), k.at (w1.heap.size) (1) (.int .u64 Lm) (by simp), k⟩) | (have hq := hHeld; (try dsimp only at hq); have k := Hd.nx (w := w) (cs := [(w2.heap.size, 0, .int .u64 0), (w2.heap.size, 1, .int .u64 0), (w1.heap.size, 0, .int .u64 B), (w1.heap.size, 1, .int .u64 Lm)]) (by go_split_ands; assumption) (by assumption); exact ⟨k.at (w2.heap.size) (0) (.int .u64 0) (by simp), k.at (w2.heap.size) (1) (.int .u64 0) (by simp), k.at (w1.heap.size) (0) (.int .u64 B) (by simp), k.at (w1.heap.size) (1) (.int .u64 Lm) (by simp), k⟩))); clear hK K; (try simp only [Act.put, List.setIfInBounds_toArray, List.set_cons_zero, List.set_cons_succ]))
      (refine takeT (i := 3) (v := ?_) rfl ?_ (fun _ _ _ h => h) rfl hHeld ?_ ?_; rotate_left; (focus kernel_rfl); (focus (intro w hSw; (try dsimp only at hSw); go_simp; (try with_reducible rfl))); (try simp only [Act.put, List.setIfInBounds_toArray, List.set_cons_zero, List.set_cons_succ]))
      (refine takeT (i := 4) (v := ?_) rfl ?_ (fun _ _ _ h => h) rfl hHeld ?_ ?_; rotate_left; (focus kernel_rfl); (focus (intro w hSw; (try dsimp only at hSw); go_simp; (try with_reducible rfl))); (try simp only [Act.put, List.setIfInBounds_toArray, List.set_cons_zero, List.set_cons_succ]))
      (refine takeT (i := 5) (v := ?_) rfl ?_ (fun _ _ _ h => h) rfl hHeld ?_ ?_; rotate_left; (focus kernel_rfl); (focus (intro w hSw; (try dsimp only at hSw); go_simp; (try with_reducible rfl))); (try simp only [Act.put, List.setIfInBounds_toArray, List.set_cons_zero, List.set_cons_succ]))
      (refine takeT (i := 6) (v := ?_) rfl ?_ (fun _ _ _ h => h) rfl hHeld ?_ ?_; rotate_left; (focus kernel_rfl); (focus (intro w hSw; (try dsimp only at hSw); go_simp; (try with_reducible rfl))); (try simp only [Act.put, List.setIfInBounds_toArray, List.set_cons_zero, List.set_cons_succ]))
      (refine takeT (i := 8) (v := ?_) rfl ?_ (fun _ _ _ h => h) rfl hHeld ?_ ?_; rotate_left; (focus kernel_rfl); (focus (intro w hSw; (try dsimp only at hSw); go_simp; (try with_reducible rfl))); (try simp only [Act.put, List.setIfInBounds_toArray, List.set_cons_zero, List.set_cons_succ]))
      (refine takeT (i := 9) (v := ?_) rfl ?_ (fun _ _ _ h => h) rfl hHeld ?_ ?_; rotate_left; (focus kernel_rfl); (focus (intro w hSw; (try dsimp only at hSw); go_simp; (try with_reducible rfl))); (try simp only [Act.put, List.setIfInBounds_toArray, List.set_cons_zero, List.set_cons_succ]))
      (refine doOne (i := 7) rfl ?_ (fun K hK => ?_); (focus kernel_rfl))
      (go_simp; (first | ((first | first | (go_at_call 18; refine (CS.out _).mono ?_; rintro e wh ⟨rfl, nh⟩) | (go_at_call 15; refine (CC.out _).mono ?_; rintro e wh ⟨rfl, nh⟩) | (go_at_call 16; refine (CH.out _).mono ?_; rintro e wh ⟨rfl, nh⟩)); go_wp2_with fail) | skip); refine hK.out _ _ ?_ (fun hHeld => ?_); (focus (first | (have hq := hHeld; (try dsimp only at hq); have k := Hd.nx (w := w) (cs := [(w2.heap.size, 0, .int .u64 0), (w2.heap.size, 1, .int .u64 0), (w1.heap.size, 0, .int .u64 B), (w1.heap.size, 1, .int .u64 Lm)]) (by go_split_ands; assumption) (by assumption); exact ⟨k.at (w2.heap.size) (0) (.int .u64 0) (by simp), k.at (w2.heap.size) (1) (.int .u64 0) (by simp), k.at (w1.heap.size) (0) (.int .u64 B) (by simp), k.at (w1.heap.size) (1) (.int .u64 Lm) (by simp), k⟩) | (have hq := hHeld; (try dsimp only at hq); have k := Hd.nx (w := w) (cs := [(w2.heap.size, 0, .int .u64 0), (w2.heap.size, 1, .int .u64 0), (w1.heap.size, 0, .int .u64 B), (w1.heap.size, 1, .int .u64 Lm)]) (by go_split_ands; assumption) (by assumption); exact ⟨k.at (w2.heap.size) (0) (.int .u64 0) (by simp), k.at (w2.heap.size) (1) (.int .u64 0) (by simp), k.at (w1.heap.size) (0) (.int .u64 B) (by simp), k.at (w1.heap.size) (1) (.int .u64 Lm) (by simp), k⟩))); clear hK K; (try simp only [Act.put, List.setIfInBounds_toArray, List.set_cons_zero, List.set_cons_succ]))
      (refine doOne (i := 10) rfl ?_ (fun K hK => ?_); (focus kernel_rfl))
      (go_simp; (first | ((first | first | (go_at_call 18; refine (CS.out _).mono ?_; rintro e wh ⟨rfl, nh⟩) | (go_at_call 15; refine (CC.out _).mono ?_; rintro e wh ⟨rfl, nh⟩) | (go_at_call 16; refine (CH.out _).mono ?_; rintro e wh ⟨rfl, nh⟩)); go_wp2_with fail) | skip); refine hK.out _ _ ?_ (fun hHeld => ?_); (focus (first | (have hq := hHeld; (try dsimp only at hq); have k := Hd.nx (w := w) (cs := [(w2.heap.size, 0, .int .u64 0), (w2.heap.size, 1, .int .u64 0), (w1.heap.size, 0, .int .u64 B), (w1.heap.size, 1, .int .u64 Lm)]) (by go_split_ands; assumption) (by assumption); exact ⟨k.at (w2.heap.size) (0) (.int .u64 0) (by simp), k.at (w2.heap.size) (1) (.int .u64 0) (by simp), k.at (w1.heap.size) (0) (.int .u64 B) (by simp), k.at (w1.heap.size) (1) (.int .u64 Lm) (by simp), k⟩) | (have hq := hHeld; (try dsimp only at hq); have k := Hd.nx (w := w) (cs := [(w2.heap.size, 0, .int .u64 0), (w2.heap.size, 1, .int .u64 0), (w1.heap.size, 0, .int .u64 B), (w1.heap.size, 1, .int .u64 Lm)]) (by go_split_ands; assumption) (by assumption); exact ⟨k.at (w2.heap.size) (0) (.int .u64 0) (by simp), k.at (w2.heap.size) (1) (.int .u64 0) (by simp), k.at (w1.heap.size) (0) (.int .u64 B) (by simp), k.at (w1.heap.size) (1) (.int .u64 Lm) (by simp), k⟩))); clear hK K; (try simp only [Act.put, List.setIfInBounds_toArray, List.set_cons_zero, List.set_cons_succ]))
      (refine takeT (i := 11) (v := ?_) rfl ?_ (fun _ _ _ h => h) rfl hHeld ?_ ?_; rotate_left; (focus kernel_rfl); (focus (intro w hSw; (try dsimp only at hSw); go_simp; (try with_reducible rfl))); (try simp only [Act.put, List.setIfInBounds_toArray, List.set_cons_zero, List.set_cons_succ]))
      (refine takeF (i := 12) rfl ?_ (fun _ _ _ h => h) rfl hHeld ?_; (focus kernel_rfl); (try simp only [Act.put, List.setIfInBounds_toArray, List.set_cons_zero, List.set_cons_succ]))
      (refine takeF (i := 13) rfl ?_ (fun _ _ _ h => h) rfl hHeld ?_; (focus kernel_rfl); (try simp only [Act.put, List.setIfInBounds_toArray, List.set_cons_zero, List.set_cons_succ]))
      (refine takeF (i := 14) rfl ?_ (fun _ _ _ h => h) rfl hHeld ?_; (focus kernel_rfl); (try simp only [Act.put, List.setIfInBounds_toArray, List.set_cons_zero, List.set_cons_succ]))
      (refine takeT (i := 15) (v := ?_) rfl ?_ (fun _ _ _ h => h) rfl hHeld ?_ ?_; rotate_left; (focus kernel_rfl); (focus (intro w hSw; (try dsimp only at hSw); go_simp; (try with_reducible rfl))); (try simp only [Act.put, List.setIfInBounds_toArray, List.set_cons_zero, List.set_cons_succ]))
      (refine takeT (i := 16) (v := ?_) rfl ?_ (fun _ _ _ h => h) rfl hHeld ?_ ?_; rotate_left; (focus kernel_rfl); (focus (intro w hSw; (try dsimp only at hSw); go_simp; (try with_reducible rfl))); (try simp only [Act.put, List.setIfInBounds_toArray, List.set_cons_zero, List.set_cons_succ]))
      (refine takeT (i := 17) (v := ?_) rfl ?_ (fun _ _ _ h => h) rfl hHeld ?_ ?_; rotate_left; (focus kernel_rfl); (focus (intro w hSw; (try dsimp only at hSw); go_simp; (try with_reducible rfl))); (try simp only [Act.put, List.setIfInBounds_toArray, List.set_cons_zero, List.set_cons_succ]))
      (refine takeT (i := 18) (v := ?_) rfl ?_ (fun _ _ _ h => h) rfl hHeld ?_ ?_; rotate_left; (focus kernel_rfl); (focus (intro w hSw; (try dsimp only at hSw); go_simp; (try with_reducible rfl))); (try simp only [Act.put, List.setIfInBounds_toArray, List.set_cons_zero, List.set_cons_succ]))
      (refine wpAnyH_done (by kernel_rfl) ?_ _)
      obtain ⟨kc0, kc1, kc2, kc3, k⟩ := hHeld
      go_wp2
      go_ret
      exact ⟨rfl, k.below⟩
    · have CS := Lib.hid (fun W => iSize_any 0 0 W (by omega) (by omega) (by omega) (by omega))
      have hsz : szI 0 0 = 0 := by unfold szI; split <;> omega
      rw [hsz] at CS
      have CC := Lib.hid (fun W => iContains_any 0 0 y W (by omega) (by omega) (by omega) (by omega) (by omega) (by omega))
      have hcc : hasB 0 0 y = decide (y < x) := by
        simp only [hasB, Bool.and_eq_true, decide_eq_true_eq] at hr; by_cases hy : y < x <;> (simp [hasB, hy]; try omega)
      rw [hcc] at CC
      have CH := Lib.hid (fun W => sHas_any B Lm y W)
      rw [hr] at CH
      have ee1 : (0 == 0) = true := by simp
      have ee2 : (decide (y < x) == decide (y < x)) = true := by simp
      go_enter Try.func11, Try.ntmps11
      go_wp2_with fail
      refine (CR.out _).mono ?_
      rintro e w1 ⟨rfl, n1⟩
      have k1 := hd_new n1 (.int .u64 B) (.int .u64 Lm) 26
      go_wp2_with fail
      refine (CA.out _).mono ?_
      rintro e w2 ⟨rfl, rfl⟩
      go_wp2_with fail
      refine (CB.out _).mono ?_
      rintro e w2 ⟨rfl, rfl⟩
      go_wp2_with fail
      refine (CM.out _).mono ?_
      rintro e w2 ⟨rfl, n2⟩
      have k2 := k1.nx n2
      have f0 := k2.at w1.heap.size 0 (.int .u64 B) (by simp)
      have f1 := k2.at w1.heap.size 1 (.int .u64 Lm) (by simp)
      have hz := World.block_lt_of_cell? _ _ f0
      have k3 := hd_more k2 (.int .u64 0) (.int .u64 0) 26
      clear k1
      go_upto_region 6 with fail
      generalize w2.alloc (.cells #[.int .u64 0, .int .u64 0] 26) = U at k3 ⊢
      have p0 := k3.at w2.heap.size 0 (.int .u64 0) (by simp)
      have p1 := k3.at w2.heap.size 1 (.int .u64 0) (by simp)
      have p2 := k3.at w1.heap.size 0 (.int .u64 B) (by simp)
      have p3 := k3.at w1.heap.size 1 (.int .u64 Lm) (by simp)
      clear f0 f1
      refine wp_region_held_drew (S := fun w' => w'.cell? ⟨w2.heap.size, 0, none⟩ = some (.int .u64 0) ∧ w'.cell? ⟨w2.heap.size, 1, none⟩ = some (.int .u64 0) ∧ w'.cell? ⟨w1.heap.size, 0, none⟩ = some (.int .u64 B) ∧ w'.cell? ⟨w1.heap.size, 1, none⟩ = some (.int .u64 Lm) ∧ Hd w [(w2.heap.size, 0, .int .u64 0), (w2.heap.size, 1, .int .u64 0), (w1.heap.size, 0, .int .u64 B), (w1.heap.size, 1, .int .u64 Lm)] w') (by kernel_rfl) ?_ (fun hHeld => ?_)
      focus (have k := Hd.drew (w := w) (cs := [(w2.heap.size, 0, .int .u64 0), (w2.heap.size, 1, .int .u64 0), (w1.heap.size, 0, .int .u64 B), (w1.heap.size, 1, .int .u64 Lm)]) (by assumption); exact ⟨k.at (w2.heap.size) (0) (.int .u64 0) (by simp), k.at (w2.heap.size) (1) (.int .u64 0) (by simp), k.at (w1.heap.size) (0) (.int .u64 B) (by simp), k.at (w1.heap.size) (1) (.int .u64 Lm) (by simp), k⟩)
      (refine takeT (i := 0) (v := ?_) rfl ?_ (fun _ _ _ h => h) rfl hHeld ?_ ?_; rotate_left; (focus kernel_rfl); (focus (intro w hSw; (try dsimp only at hSw); go_simp; (try with_reducible rfl))); (try simp only [Act.put, List.setIfInBounds_toArray, List.set_cons_zero, List.set_cons_succ]))
      (refine takeT (i := 2) (v := ?_) rfl ?_ (fun _ _ _ h => h) rfl hHeld ?_ ?_; rotate_left; (focus kernel_rfl); (focus (intro w hSw; (try dsimp only at hSw); go_simp; (try with_reducible rfl))); (try simp only [Act.put, List.setIfInBounds_toArray, List.set_cons_zero, List.set_cons_succ]))
      (refine doOne (i := 1) rfl ?_ (fun K hK => ?_); (focus kernel_rfl))
      (go_simp; (first | ((first | first | (go_at_call 18; refine (CS.out _).mono ?_; rintro e wh ⟨rfl, nh⟩) | (go_at_call 15; refine (CC.out _).mono ?_; rintro e wh ⟨rfl, nh⟩) | (go_at_call 16; refine (CH.out _).mono ?_; rintro e wh ⟨rfl, nh⟩)); go_wp2_with fail) | skip); refine hK.out _ _ ?_ (fun hHeld => ?_); (focus (first | (have hq := hHeld; (try dsimp only at hq); have k := Hd.nx (w := w) (cs := [(w2.heap.size, 0, .int .u64 0), (w2.heap.size, 1, .int .u64 0), (w1.heap.size, 0, .int .u64 B), (w1.heap.size, 1, .int .u64 Lm)]) (by go_split_ands; assumption) (by assumption); exact ⟨k.at (w2.heap.size) (0) (.int .u64 0) (by simp), k.at (w2.heap.size) (1) (.int .u64 0) (by simp), k.at (w1.heap.size) (0) (.int .u64 B) (by simp), k.at (w1.heap.size) (1) (.int .u64 Lm) (by simp), k⟩) | (have hq := hHeld; (try dsimp only at hq); have k := Hd.nx (w := w) (cs := [(w2.heap.size, 0, .int .u64 0), (w2.heap.size, 1, .int .u64 0), (w1.heap.size, 0, .int .u64 B), (w1.heap.size, 1, .int .u64 Lm)]) (by go_split_ands; assumption) (by assumption); exact ⟨k.at (w2.heap.size) (0) (.int .u64 0) (by simp), k.at (w2.heap.size) (1) (.int .u64 0) (by simp), k.at (w1.heap.size) (0) (.int .u64 B) (by simp), k.at (w1.heap.size) (1) (.int .u64 Lm) (by simp), k⟩))); clear hK K; (try simp only [Act.put, List.setIfInBounds_toArray, List.set_cons_zero, List.set_cons_succ]))
      (refine takeT (i := 3) (v := ?_) rfl ?_ (fun _ _ _ h => h) rfl hHeld ?_ ?_; rotate_left; (focus kernel_rfl); (focus (intro w hSw; (try dsimp only at hSw); go_simp; (try with_reducible rfl))); (try simp only [Act.put, List.setIfInBounds_toArray, List.set_cons_zero, List.set_cons_succ]))
      (refine takeT (i := 4) (v := ?_) rfl ?_ (fun _ _ _ h => h) rfl hHeld ?_ ?_; rotate_left; (focus kernel_rfl); (focus (intro w hSw; (try dsimp only at hSw); go_simp; (try with_reducible rfl))); (try simp only [Act.put, List.setIfInBounds_toArray, List.set_cons_zero, List.set_cons_succ]))
      (refine takeT (i := 5) (v := ?_) rfl ?_ (fun _ _ _ h => h) rfl hHeld ?_ ?_; rotate_left; (focus kernel_rfl); (focus (intro w hSw; (try dsimp only at hSw); go_simp; (try with_reducible rfl))); (try simp only [Act.put, List.setIfInBounds_toArray, List.set_cons_zero, List.set_cons_succ]))
      (refine takeT (i := 6) (v := ?_) rfl ?_ (fun _ _ _ h => h) rfl hHeld ?_ ?_; rotate_left; (focus kernel_rfl); (focus (intro w hSw; (try dsimp only at hSw); go_simp; (try with_reducible rfl))); (try simp only [Act.put, List.setIfInBounds_toArray, List.set_cons_zero, List.set_cons_succ]))
      (refine takeT (i := 8) (v := ?_) rfl ?_ (fun _ _ _ h => h) rfl hHeld ?_ ?_; rotate_left; (focus kernel_rfl); (focus (intro w hSw; (try dsimp only at hSw); go_simp; (try with_reducible rfl))); (try simp only [Act.put, List.setIfInBounds_toArray, List.set_cons_zero, List.set_cons_succ]))
      (refine takeT (i := 9) (v := ?_) rfl ?_ (fun _ _ _ h => h) rfl hHeld ?_ ?_; rotate_left; (focus kernel_rfl); (focus (intro w hSw; (try dsimp only at hSw); go_simp; (try with_reducible rfl))); (try simp only [Act.put, List.setIfInBounds_toArray, List.set_cons_zero, List.set_cons_succ]))
      (refine doOne (i := 7) rfl ?_ (fun K hK => ?_); (focus kernel_rfl))
      (go_simp; (first | ((first | first | (go_at_call 18; refine (CS.out _).mono ?_; rintro e wh ⟨rfl, nh⟩) | (go_at_call 15; refine (CC.out _).mono ?_; rintro e wh ⟨rfl, nh⟩) | (go_at_call 16; refine (CH.out _).mono ?_; rintro e wh ⟨rfl, nh⟩)); go_wp2_with fail) | skip); refine hK.out _ _ ?_ (fun hHeld => ?_); (focus (first | (have hq := hHeld; (try dsimp only at hq); have k := Hd.nx (w := w) (cs := [(w2.heap.size, 0, .int .u64 0), (w2.heap.size, 1, .int .u64 0), (w1.heap.size, 0, .int .u64 B), (w1.heap.size, 1, .int .u64 Lm)]) (by go_split_ands; assumption) (by assumption); exact ⟨k.at (w2.heap.size) (0) (.int .u64 0) (by simp), k.at (w2.heap.size) (1) (.int .u64 0) (by simp), k.at (w1.heap.size) (0) (.int .u64 B) (by simp), k.at (w1.heap.size) (1) (.int .u64 Lm) (by simp), k⟩) | (have hq := hHeld; (try dsimp only at hq); have k := Hd.nx (w := w) (cs := [(w2.heap.size, 0, .int .u64 0), (w2.heap.size, 1, .int .u64 0), (w1.heap.size, 0, .int .u64 B), (w1.heap.size, 1, .int .u64 Lm)]) (by go_split_ands; assumption) (by assumption); exact ⟨k.at (w2.heap.size) (0) (.int .u64 0) (by simp), k.at (w2.heap.size) (1) (.int .u64 0) (by simp), k.at (w1.heap.size) (0) (.int .u64 B) (by simp), k.at (w1.heap.size) (1) (.int .u64 Lm) (by simp), k⟩))); clear hK K; (try simp only [Act.put, List.setIfInBounds_toArray, List.set_cons_zero, List.set_cons_succ]))
      (refine doOne (i := 10) rfl ?_ (fun K hK => ?_); (focus kernel_rfl))
      (go_simp; (first | ((first | first | (go_at_call 18; refine (CS.out _).mono ?_; rintro e wh ⟨rfl, nh⟩) | (go_at_call 15; refine (CC.out _).mono ?_; rintro e wh ⟨rfl, nh⟩) | (go_at_call 16; refine (CH.out _).mono ?_; rintro e wh ⟨rfl, nh⟩)); go_wp2_with fail) | skip); refine hK.out _ _ ?_ (fun hHeld => ?_); (focus (first | (have hq := hHeld; (try dsimp only at hq); have k := Hd.nx (w := w) (cs := [(w2.heap.size, 0, .int .u64 0), (w2.heap.size, 1, .int .u64 0), (w1.heap.size, 0, .int .u64 B), (w1.heap.size, 1, .int .u64 Lm)]) (by go_split_ands; assumption) (by assumption); exact ⟨k.at (w2.heap.size) (0) (.int .u64 0) (by simp), k.at (w2.heap.size) (1) (.int .u64 0) (by simp), k.at (w1.heap.size) (0) (.int .u64 B) (by simp), k.at (w1.heap.size) (1) (.int .u64 Lm) (by simp), k⟩) | (have hq := hHeld; (try dsimp only at hq); have k := Hd.nx (w := w) (cs := [(w2.heap.size, 0, .int .u64 0), (w2.heap.size, 1, .int .u64 0), (w1.heap.size, 0, .int .u64 B), (w1.heap.size, 1, .int .u64 Lm)]) (by go_split_ands; assumption) (by assumption); exact ⟨k.at (w2.heap.size) (0) (.int .u64 0) (by simp), k.at (w2.heap.size) (1) (.int .u64 0) (by simp), k.at (w1.heap.size) (0) (.int .u64 B) (by simp), k.at (w1.heap.size) (1) (.int .u64 Lm) (by simp), k⟩))); clear hK K; (try simp only [Act.put, List.setIfInBounds_toArray, List.set_cons_zero, List.set_cons_succ]))
      (refine takeT (i := 11) (v := ?_) rfl ?_ (fun _ _ _ h => h) rfl hHeld ?_ ?_; rotate_left; (focus kernel_rfl); (focus (intro w hSw; (try dsimp only at hSw); go_simp; (try with_reducible rfl))); (try simp only [Act.put, List.setIfInBounds_toArray, List.set_cons_zero, List.set_cons_succ]))
      (refine takeT (i := 12) (v := ?_) rfl ?_ (fun _ _ _ h => h) rfl hHeld ?_ ?_; rotate_left; (focus kernel_rfl); (focus (intro w hSw; (try dsimp only at hSw); go_simp; (try with_reducible rfl))); (try simp only [Act.put, List.setIfInBounds_toArray, List.set_cons_zero, List.set_cons_succ]))
      (refine takeT (i := 13) (v := ?_) rfl ?_ (fun _ _ _ h => h) rfl hHeld ?_ ?_; rotate_left; (focus kernel_rfl); (focus (intro w hSw; (try dsimp only at hSw); go_simp; (try with_reducible rfl))); (try simp only [Act.put, List.setIfInBounds_toArray, List.set_cons_zero, List.set_cons_succ]))
      (refine takeT (i := 14) (v := ?_) rfl ?_ (fun _ _ _ h => h) rfl hHeld ?_ ?_; rotate_left; (focus kernel_rfl); (focus (intro w hSw; (try dsimp only at hSw); go_simp; (try with_reducible rfl))); (try simp only [Act.put, List.setIfInBounds_toArray, List.set_cons_zero, List.set_cons_succ]))
      (refine takeT (i := 15) (v := ?_) rfl ?_ (fun _ _ _ h => h) rfl hHeld ?_ ?_; rotate_left; (focus kernel_rfl); (focus (intro w hSw; (try dsimp only at hSw); go_simp; (try with_reducible rfl))); (try simp only [Act.put, List.setIfInBounds_toArray, List.set_cons_zero, List.set_cons_succ]))
      (refine takeT (i := 16) (v := ?_) rfl ?_ (fun _ _ _ h => h) rfl hHeld ?_ ?_; rotate_left; (focus kernel_rfl); (focus (intro w hSw; (try dsimp only at hSw); go_simp; (try with_reducible rfl))); (try simp only [Act.put, List.setIfInBounds_toArray, List.set_cons_zero, List.set_cons_succ]))
      (refine takeT (i := 17) (v := ?_) rfl ?_ (fun _ _ _ h => h) rfl hHeld ?_ ?_; rotate_left; (focus kernel_rfl); (focus (intro w hSw; (try dsimp only at hSw); go_simp; (try with_reducible rfl))); (try simp only [Act.put, List.setIfInBounds_toArray, List.set_cons_zero, List.set_cons_succ]))
      (refine takeT (i := 18) (v := ?_) rfl ?_ (fun _ _ _ h => h) rfl hHeld ?_ ?_; rotate_left; (focus kernel_rfl); (focus (intro w hSw; (try dsimp only at hSw); go_simp; (try with_reducible rfl))); (try simp only [Act.put, List.setIfInBounds_toArray, List.set_cons_zero, List.set_cons_succ]))
      (refine wpAnyH_done (by kernel_rfl) ?_ _)
      obtain ⟨kc0, kc1, kc2, kc3, k⟩ := hHeld
      go_wp2
      go_ret
      exact ⟨rfl, k.below⟩
  · have hx' : B < x := by omega
    by_cases hl : x ≤ Lm
    · have g1 : rmB B Lm x = B := by simp [rmB, hx]
      have g2 : rmL B Lm x = x := by unfold rmL; (repeat' split) <;> omega
      rw [g1, g2] at CM
      rcases hr : hasB B Lm y with _ | _
      · have CS := Lib.hid (fun W => iSize_any B x W (by omega) (by omega) (by omega) (by omega))
        have hsz : szI B x = x - B := by unfold szI; split <;> omega
        rw [hsz] at CS
        have CC := Lib.hid (fun W => iContains_any B x y W (by omega) (by omega) (by omega) (by omega) (by omega) (by omega))
        have hcc : hasB B x y = false := by
          simp only [hasB, Bool.and_eq_false_iff, decide_eq_false_iff_not] at hr; simp [hasB]; try omega
        rw [hcc] at CC
        have CH := Lib.hid (fun W => sHas_any B Lm y W)
        rw [hr] at CH
        have ee1 : (x - B == x - B) = true := by simp
        have ee2 : (false == false) = true := by simp
        have ew : IntKind.u64.wrap (x - B) = x - B := IntWalk.u64_in _ (by omega)
        go_enter Try.func11, Try.ntmps11
        go_wp2_with fail
        refine (CR.out _).mono ?_
        rintro e w1 ⟨rfl, n1⟩
        have k1 := hd_new n1 (.int .u64 B) (.int .u64 Lm) 26
        go_wp2_with fail
        refine (CA.out _).mono ?_
        rintro e w2 ⟨rfl, rfl⟩
        go_wp2_with fail
        refine (CB.out _).mono ?_
        rintro e w2 ⟨rfl, rfl⟩
        go_wp2_with fail
        refine (CM.out _).mono ?_
        rintro e w2 ⟨rfl, n2⟩
        have k2 := k1.nx n2
        have f0 := k2.at w1.heap.size 0 (.int .u64 B) (by simp)
        have f1 := k2.at w1.heap.size 1 (.int .u64 Lm) (by simp)
        have hz := World.block_lt_of_cell? _ _ f0
        have k3 := hd_more k2 (.int .u64 B) (.int .u64 x) 26
        clear k1
        go_upto_region 6 with fail
        generalize w2.alloc (.cells #[.int .u64 B, .int .u64 x] 26) = U at k3 ⊢
        have p0 := k3.at w2.heap.size 0 (.int .u64 B) (by simp)
        have p1 := k3.at w2.heap.size 1 (.int .u64 x) (by simp)
        have p2 := k3.at w1.heap.size 0 (.int .u64 B) (by simp)
        have p3 := k3.at w1.heap.size 1 (.int .u64 Lm) (by simp)
        clear f0 f1
        refine wp_region_held_drew (S := fun w' => w'.cell? ⟨w2.heap.size, 0, none⟩ = some (.int .u64 B) ∧ w'.cell? ⟨w2.heap.size, 1, none⟩ = some (.int .u64 x) ∧ w'.cell? ⟨w1.heap.size, 0, none⟩ = some (.int .u64 B) ∧ w'.cell? ⟨w1.heap.size, 1, none⟩ = some (.int .u64 Lm) ∧ Hd w [(w2.heap.size, 0, .int .u64 B), (w2.heap.size, 1, .int .u64 x), (w1.heap.size, 0, .int .u64 B), (w1.heap.size, 1, .int .u64 Lm)] w') (by kernel_rfl) ?_ (fun hHeld => ?_)
        focus (have k := Hd.drew (w := w) (cs := [(w2.heap.size, 0, .int .u64 B), (w2.heap.size, 1, .int .u64 x), (w1.heap.size, 0, .int .u64 B), (w1.heap.size, 1, .int .u64 Lm)]) (by assumption); exact ⟨k.at (w2.heap.size) (0) (.int .u64 B) (by simp), k.at (w2.heap.size) (1) (.int .u64 x) (by simp), k.at (w1.heap.size) (0) (.int .u64 B) (by simp), k.at (w1.heap.size) (1) (.int .u64 Lm) (by simp), k⟩)
        (refine takeT (i := 0) (v := ?_) rfl ?_ (fun _ _ _ h => h) rfl hHeld ?_ ?_; rotate_left; (focus kernel_rfl); (focus (intro w hSw; (try dsimp only at hSw); go_simp; (try with_reducible rfl))); (try simp only [Act.put, List.setIfInBounds_toArray, List.set_cons_zero, List.set_cons_succ]))
        (refine takeT (i := 2) (v := ?_) rfl ?_ (fun _ _ _ h => h) rfl hHeld ?_ ?_; rotate_left; (focus kernel_rfl); (focus (intro w hSw; (try dsimp only at hSw); go_simp; (try with_reducible rfl))); (try simp only [Act.put, List.setIfInBounds_toArray, List.set_cons_zero, List.set_cons_succ]))
        (refine doOne (i := 1) rfl ?_ (fun K hK => ?_); (focus kernel_rfl))
        (go_simp; (first | ((first | first | (go_at_call 18; refine (CS.out _).mono ?_; rintro e wh ⟨rfl, nh⟩) | (go_at_call 15; refine (CC.out _).mono ?_; rintro e wh ⟨rfl, nh⟩) | (go_at_call 16; refine (CH.out _).mono ?_; rintro e wh ⟨rfl, nh⟩)); go_wp2_with fail) | skip); refine hK.out _ _ ?_ (fun hHeld => ?_); (focus (first | (have hq := hHeld; (try dsimp only at hq); have k := Hd.nx (w := w) (cs := [(w2.heap.size, 0, .int .u64 B), (w2.heap.size, 1, .int .u64 x), (w1.heap.size, 0, .int .u64 B), (w1.heap.size, 1, .int .u64 Lm)]) (by go_split_ands; assumption) (by assumption); exact ⟨k.at (w2.heap.size) (0) (.int .u64 B) (by simp), k.at (w2.heap.size) (1) (.int .u64 x) (by simp), k.at (w1.heap.size) (0) (.int .u64 B) (by simp), k.at (w1.heap.size) (1) (.int .u64 Lm) (by simp), k⟩) | (have hq := hHeld; (try dsimp only at hq); have k := Hd.nx (w := w) (cs := [(w2.heap.size, 0, .int .u64 B), (w2.heap.size, 1, .int .u64 x), (w1.heap.size, 0, .int .u64 B), (w1.heap.size, 1, .int .u64 Lm)]) (by go_split_ands; assumption) (by assumption); exact ⟨k.at (w2.heap.size) (0) (.int .u64 B) (by simp), k.at (w2.heap.size) (1) (.int .u64 x) (by simp), k.at (w1.heap.size) (0) (.int .u64 B) (by simp), k.at (w1.heap.size) (1) (.int .u64 Lm) (by simp), k⟩))); clear hK K; (try simp only [Act.put, List.setIfInBounds_toArray, List.set_cons_zero, List.set_cons_succ]))
        (refine takeT (i := 3) (v := ?_) rfl ?_ (fun _ _ _ h => h) rfl hHeld ?_ ?_; rotate_left; (focus kernel_rfl); (focus (intro w hSw; (try dsimp only at hSw); go_simp; (try with_reducible rfl))); (try simp only [Act.put, List.setIfInBounds_toArray, List.set_cons_zero, List.set_cons_succ]))
        (refine takeT (i := 4) (v := ?_) rfl ?_ (fun _ _ _ h => h) rfl hHeld ?_ ?_; rotate_left; (focus kernel_rfl); (focus (intro w hSw; (try dsimp only at hSw); go_simp; (try with_reducible rfl))); (try simp only [Act.put, List.setIfInBounds_toArray, List.set_cons_zero, List.set_cons_succ]))
        (refine takeT (i := 5) (v := ?_) rfl ?_ (fun _ _ _ h => h) rfl hHeld ?_ ?_; rotate_left; (focus kernel_rfl); (focus (intro w hSw; (try dsimp only at hSw); go_simp; (try with_reducible rfl))); (try simp only [Act.put, List.setIfInBounds_toArray, List.set_cons_zero, List.set_cons_succ]))
        (refine takeT (i := 6) (v := ?_) rfl ?_ (fun _ _ _ h => h) rfl hHeld ?_ ?_; rotate_left; (focus kernel_rfl); (focus (intro w hSw; (try dsimp only at hSw); go_simp; (try with_reducible rfl))); (try simp only [Act.put, List.setIfInBounds_toArray, List.set_cons_zero, List.set_cons_succ]))
        (refine takeT (i := 8) (v := ?_) rfl ?_ (fun _ _ _ h => h) rfl hHeld ?_ ?_; rotate_left; (focus kernel_rfl); (focus (intro w hSw; (try dsimp only at hSw); go_simp; (try with_reducible rfl))); (try simp only [Act.put, List.setIfInBounds_toArray, List.set_cons_zero, List.set_cons_succ]))
        (refine takeT (i := 9) (v := ?_) rfl ?_ (fun _ _ _ h => h) rfl hHeld ?_ ?_; rotate_left; (focus kernel_rfl); (focus (intro w hSw; (try dsimp only at hSw); go_simp; (try with_reducible rfl))); (try simp only [Act.put, List.setIfInBounds_toArray, List.set_cons_zero, List.set_cons_succ]))
        (refine doOne (i := 7) rfl ?_ (fun K hK => ?_); (focus kernel_rfl))
        (go_simp; (first | ((first | first | (go_at_call 18; refine (CS.out _).mono ?_; rintro e wh ⟨rfl, nh⟩) | (go_at_call 15; refine (CC.out _).mono ?_; rintro e wh ⟨rfl, nh⟩) | (go_at_call 16; refine (CH.out _).mono ?_; rintro e wh ⟨rfl, nh⟩)); go_wp2_with fail) | skip); refine hK.out _ _ ?_ (fun hHeld => ?_); (focus (first | (have hq := hHeld; (try dsimp only at hq); have k := Hd.nx (w := w) (cs := [(w2.heap.size, 0, .int .u64 B), (w2.heap.size, 1, .int .u64 x), (w1.heap.size, 0, .int .u64 B), (w1.heap.size, 1, .int .u64 Lm)]) (by go_split_ands; assumption) (by assumption); exact ⟨k.at (w2.heap.size) (0) (.int .u64 B) (by simp), k.at (w2.heap.size) (1) (.int .u64 x) (by simp), k.at (w1.heap.size) (0) (.int .u64 B) (by simp), k.at (w1.heap.size) (1) (.int .u64 Lm) (by simp), k⟩) | (have hq := hHeld; (try dsimp only at hq); have k := Hd.nx (w := w) (cs := [(w2.heap.size, 0, .int .u64 B), (w2.heap.size, 1, .int .u64 x), (w1.heap.size, 0, .int .u64 B), (w1.heap.size, 1, .int .u64 Lm)]) (by go_split_ands; assumption) (by assumption); exact ⟨k.at (w2.heap.size) (0) (.int .u64 B) (by simp), k.at (w2.heap.size) (1) (.int .u64 x) (by simp), k.at (w1.heap.size) (0) (.int .u64 B) (by simp), k.at (w1.heap.size) (1) (.int .u64 Lm) (by simp), k⟩))); clear hK K; (try simp only [Act.put, List.setIfInBounds_toArray, List.set_cons_zero, List.set_cons_succ]))
        (refine doOne (i := 10) rfl ?_ (fun K hK => ?_); (focus kernel_rfl))
        (go_simp; (first | ((first | first | (go_at_call 18; refine (CS.out _).mono ?_; rintro e wh ⟨rfl, nh⟩) | (go_at_call 15; refine (CC.out _).mono ?_; rintro e wh ⟨rfl, nh⟩) | (go_at_call 16; refine (CH.out _).mono ?_; rintro e wh ⟨rfl, nh⟩)); go_wp2_with fail) | skip); refine hK.out _ _ ?_ (fun hHeld => ?_); (focus (first | (have hq := hHeld; (try dsimp only at hq); have k := Hd.nx (w := w) (cs := [(w2.heap.size, 0, .int .u64 B), (w2.heap.size, 1, .int .u64 x), (w1.heap.size, 0, .int .u64 B), (w1.heap.size, 1, .int .u64 Lm)]) (by go_split_ands; assumption) (by assumption); exact ⟨k.at (w2.heap.size) (0) (.int .u64 B) (by simp), k.at (w2.heap.size) (1) (.int .u64 x) (by simp), k.at (w1.heap.size) (0) (.int .u64 B) (by simp), k.at (w1.heap.size) (1) (.int .u64 Lm) (by simp), k⟩) | (have hq := hHeld; (try dsimp only at hq); have k := Hd.nx (w := w) (cs := [(w2.heap.size, 0, .int .u64 B), (w2.heap.size, 1, .int .u64 x), (w1.heap.size, 0, .int .u64 B), (w1.heap.size, 1, .int .u64 Lm)]) (by go_split_ands; assumption) (by assumption); exact ⟨k.at (w2.heap.size) (0) (.int .u64 B) (by simp), k.at (w2.heap.size) (1) (.int .u64 x) (by simp), k.at (w1.heap.size) (0) (.int .u64 B) (by simp), k.at (w1.heap.size) (1) (.int .u64 Lm) (by simp), k⟩))); clear hK K; (try simp only [Act.put, List.setIfInBounds_toArray, List.set_cons_zero, List.set_cons_succ]))
        (refine takeT (i := 11) (v := ?_) rfl ?_ (fun _ _ _ h => h) rfl hHeld ?_ ?_; rotate_left; (focus kernel_rfl); (focus (intro w hSw; (try dsimp only at hSw); go_simp; (try with_reducible rfl))); (try simp only [Act.put, List.setIfInBounds_toArray, List.set_cons_zero, List.set_cons_succ]))
        (refine takeF (i := 12) rfl ?_ (fun _ _ _ h => h) rfl hHeld ?_; (focus kernel_rfl); (try simp only [Act.put, List.setIfInBounds_toArray, List.set_cons_zero, List.set_cons_succ]))
        (refine takeF (i := 13) rfl ?_ (fun _ _ _ h => h) rfl hHeld ?_; (focus kernel_rfl); (try simp only [Act.put, List.setIfInBounds_toArray, List.set_cons_zero, List.set_cons_succ]))
        (refine takeF (i := 14) rfl ?_ (fun _ _ _ h => h) rfl hHeld ?_; (focus kernel_rfl); (try simp only [Act.put, List.setIfInBounds_toArray, List.set_cons_zero, List.set_cons_succ]))
        (refine takeT (i := 15) (v := ?_) rfl ?_ (fun _ _ _ h => h) rfl hHeld ?_ ?_; rotate_left; (focus kernel_rfl); (focus (intro w hSw; (try dsimp only at hSw); go_simp; (try with_reducible rfl))); (try simp only [Act.put, List.setIfInBounds_toArray, List.set_cons_zero, List.set_cons_succ]))
        (refine takeT (i := 16) (v := ?_) rfl ?_ (fun _ _ _ h => h) rfl hHeld ?_ ?_; rotate_left; (focus kernel_rfl); (focus (intro w hSw; (try dsimp only at hSw); go_simp; (try with_reducible rfl))); (try simp only [Act.put, List.setIfInBounds_toArray, List.set_cons_zero, List.set_cons_succ]))
        (refine takeT (i := 17) (v := ?_) rfl ?_ (fun _ _ _ h => h) rfl hHeld ?_ ?_; rotate_left; (focus kernel_rfl); (focus (intro w hSw; (try dsimp only at hSw); go_simp; (try with_reducible rfl))); (try simp only [Act.put, List.setIfInBounds_toArray, List.set_cons_zero, List.set_cons_succ]))
        (refine takeT (i := 18) (v := ?_) rfl ?_ (fun _ _ _ h => h) rfl hHeld ?_ ?_; rotate_left; (focus kernel_rfl); (focus (intro w hSw; (try dsimp only at hSw); go_simp; (try with_reducible rfl))); (try simp only [Act.put, List.setIfInBounds_toArray, List.set_cons_zero, List.set_cons_succ]))
        (refine wpAnyH_done (by kernel_rfl) ?_ _)
        obtain ⟨kc0, kc1, kc2, kc3, k⟩ := hHeld
        go_wp2
        go_ret
        exact ⟨rfl, k.below⟩
      · have CS := Lib.hid (fun W => iSize_any B x W (by omega) (by omega) (by omega) (by omega))
        have hsz : szI B x = x - B := by unfold szI; split <;> omega
        rw [hsz] at CS
        have CC := Lib.hid (fun W => iContains_any B x y W (by omega) (by omega) (by omega) (by omega) (by omega) (by omega))
        have hcc : hasB B x y = decide (y < x) := by
          simp only [hasB, Bool.and_eq_true, decide_eq_true_eq] at hr; by_cases hy : y < x <;> (simp [hasB, hy]; try omega)
        rw [hcc] at CC
        have CH := Lib.hid (fun W => sHas_any B Lm y W)
        rw [hr] at CH
        have ee1 : (x - B == x - B) = true := by simp
        have ee2 : (decide (y < x) == decide (y < x)) = true := by simp
        have ew : IntKind.u64.wrap (x - B) = x - B := IntWalk.u64_in _ (by omega)
        go_enter Try.func11, Try.ntmps11
        go_wp2_with fail
        refine (CR.out _).mono ?_
        rintro e w1 ⟨rfl, n1⟩
        have k1 := hd_new n1 (.int .u64 B) (.int .u64 Lm) 26
        go_wp2_with fail
        refine (CA.out _).mono ?_
        rintro e w2 ⟨rfl, rfl⟩
        go_wp2_with fail
        refine (CB.out _).mono ?_
        rintro e w2 ⟨rfl, rfl⟩
        go_wp2_with fail
        refine (CM.out _).mono ?_
        rintro e w2 ⟨rfl, n2⟩
        have k2 := k1.nx n2
        have f0 := k2.at w1.heap.size 0 (.int .u64 B) (by simp)
        have f1 := k2.at w1.heap.size 1 (.int .u64 Lm) (by simp)
        have hz := World.block_lt_of_cell? _ _ f0
        have k3 := hd_more k2 (.int .u64 B) (.int .u64 x) 26
        clear k1
        go_upto_region 6 with fail
        generalize w2.alloc (.cells #[.int .u64 B, .int .u64 x] 26) = U at k3 ⊢
        have p0 := k3.at w2.heap.size 0 (.int .u64 B) (by simp)
        have p1 := k3.at w2.heap.size 1 (.int .u64 x) (by simp)
        have p2 := k3.at w1.heap.size 0 (.int .u64 B) (by simp)
        have p3 := k3.at w1.heap.size 1 (.int .u64 Lm) (by simp)
        clear f0 f1
        refine wp_region_held_drew (S := fun w' => w'.cell? ⟨w2.heap.size, 0, none⟩ = some (.int .u64 B) ∧ w'.cell? ⟨w2.heap.size, 1, none⟩ = some (.int .u64 x) ∧ w'.cell? ⟨w1.heap.size, 0, none⟩ = some (.int .u64 B) ∧ w'.cell? ⟨w1.heap.size, 1, none⟩ = some (.int .u64 Lm) ∧ Hd w [(w2.heap.size, 0, .int .u64 B), (w2.heap.size, 1, .int .u64 x), (w1.heap.size, 0, .int .u64 B), (w1.heap.size, 1, .int .u64 Lm)] w') (by kernel_rfl) ?_ (fun hHeld => ?_)
        focus (have k := Hd.drew (w := w) (cs := [(w2.heap.size, 0, .int .u64 B), (w2.heap.size, 1, .int .u64 x), (w1.heap.size, 0, .int .u64 B), (w1.heap.size, 1, .int .u64 Lm)]) (by assumption); exact ⟨k.at (w2.heap.size) (0) (.int .u64 B) (by simp), k.at (w2.heap.size) (1) (.int .u64 x) (by simp), k.at (w1.heap.size) (0) (.int .u64 B) (by simp), k.at (w1.heap.size) (1) (.int .u64 Lm) (by simp), k⟩)
        (refine takeT (i := 0) (v := ?_) rfl ?_ (fun _ _ _ h => h) rfl hHeld ?_ ?_; rotate_left; (focus kernel_rfl); (focus (intro w hSw; (try dsimp only at hSw); go_simp; (try with_reducible rfl))); (try simp only [Act.put, List.setIfInBounds_toArray, List.set_cons_zero, List.set_cons_succ]))
        (refine takeT (i := 2) (v := ?_) rfl ?_ (fun _ _ _ h => h) rfl hHeld ?_ ?_; rotate_left; (focus kernel_rfl); (focus (intro w hSw; (try dsimp only at hSw); go_simp; (try with_reducible rfl))); (try simp only [Act.put, List.setIfInBounds_toArray, List.set_cons_zero, List.set_cons_succ]))
        (refine doOne (i := 1) rfl ?_ (fun K hK => ?_); (focus kernel_rfl))
        (go_simp; (first | ((first | first | (go_at_call 18; refine (CS.out _).mono ?_; rintro e wh ⟨rfl, nh⟩) | (go_at_call 15; refine (CC.out _).mono ?_; rintro e wh ⟨rfl, nh⟩) | (go_at_call 16; refine (CH.out _).mono ?_; rintro e wh ⟨rfl, nh⟩)); go_wp2_with fail) | skip); refine hK.out _ _ ?_ (fun hHeld => ?_); (focus (first | (have hq := hHeld; (try dsimp only at hq); have k := Hd.nx (w := w) (cs := [(w2.heap.size, 0, .int .u64 B), (w2.heap.size, 1, .int .u64 x), (w1.heap.size, 0, .int .u64 B), (w1.heap.size, 1, .int .u64 Lm)]) (by go_split_ands; assumption) (by assumption); exact ⟨k.at (w2.heap.size) (0) (.int .u64 B) (by simp), k.at (w2.heap.size) (1) (.int .u64 x) (by simp), k.at (w1.heap.size) (0) (.int .u64 B) (by simp), k.at (w1.heap.size) (1) (.int .u64 Lm) (by simp), k⟩) | (have hq := hHeld; (try dsimp only at hq); have k := Hd.nx (w := w) (cs := [(w2.heap.size, 0, .int .u64 B), (w2.heap.size, 1, .int .u64 x), (w1.heap.size, 0, .int .u64 B), (w1.heap.size, 1, .int .u64 Lm)]) (by go_split_ands; assumption) (by assumption); exact ⟨k.at (w2.heap.size) (0) (.int .u64 B) (by simp), k.at (w2.heap.size) (1) (.int .u64 x) (by simp), k.at (w1.heap.size) (0) (.int .u64 B) (by simp), k.at (w1.heap.size) (1) (.int .u64 Lm) (by simp), k⟩))); clear hK K; (try simp only [Act.put, List.setIfInBounds_toArray, List.set_cons_zero, List.set_cons_succ]))
        (refine takeT (i := 3) (v := ?_) rfl ?_ (fun _ _ _ h => h) rfl hHeld ?_ ?_; rotate_left; (focus kernel_rfl); (focus (intro w hSw; (try dsimp only at hSw); go_simp; (try with_reducible rfl))); (try simp only [Act.put, List.setIfInBounds_toArray, List.set_cons_zero, List.set_cons_succ]))
        (refine takeT (i := 4) (v := ?_) rfl ?_ (fun _ _ _ h => h) rfl hHeld ?_ ?_; rotate_left; (focus kernel_rfl); (focus (intro w hSw; (try dsimp only at hSw); go_simp; (try with_reducible rfl))); (try simp only [Act.put, List.setIfInBounds_toArray, List.set_cons_zero, List.set_cons_succ]))
        (refine takeT (i := 5) (v := ?_) rfl ?_ (fun _ _ _ h => h) rfl hHeld ?_ ?_; rotate_left; (focus kernel_rfl); (focus (intro w hSw; (try dsimp only at hSw); go_simp; (try with_reducible rfl))); (try simp only [Act.put, List.setIfInBounds_toArray, List.set_cons_zero, List.set_cons_succ]))
        (refine takeT (i := 6) (v := ?_) rfl ?_ (fun _ _ _ h => h) rfl hHeld ?_ ?_; rotate_left; (focus kernel_rfl); (focus (intro w hSw; (try dsimp only at hSw); go_simp; (try with_reducible rfl))); (try simp only [Act.put, List.setIfInBounds_toArray, List.set_cons_zero, List.set_cons_succ]))
        (refine takeT (i := 8) (v := ?_) rfl ?_ (fun _ _ _ h => h) rfl hHeld ?_ ?_; rotate_left; (focus kernel_rfl); (focus (intro w hSw; (try dsimp only at hSw); go_simp; (try with_reducible rfl))); (try simp only [Act.put, List.setIfInBounds_toArray, List.set_cons_zero, List.set_cons_succ]))
        (refine takeT (i := 9) (v := ?_) rfl ?_ (fun _ _ _ h => h) rfl hHeld ?_ ?_; rotate_left; (focus kernel_rfl); (focus (intro w hSw; (try dsimp only at hSw); go_simp; (try with_reducible rfl))); (try simp only [Act.put, List.setIfInBounds_toArray, List.set_cons_zero, List.set_cons_succ]))
        (refine doOne (i := 7) rfl ?_ (fun K hK => ?_); (focus kernel_rfl))
        (go_simp; (first | ((first | first | (go_at_call 18; refine (CS.out _).mono ?_; rintro e wh ⟨rfl, nh⟩) | (go_at_call 15; refine (CC.out _).mono ?_; rintro e wh ⟨rfl, nh⟩) | (go_at_call 16; refine (CH.out _).mono ?_; rintro e wh ⟨rfl, nh⟩)); go_wp2_with fail) | skip); refine hK.out _ _ ?_ (fun hHeld => ?_); (focus (first | (have hq := hHeld; (try dsimp only at hq); have k := Hd.nx (w := w) (cs := [(w2.heap.size, 0, .int .u64 B), (w2.heap.size, 1, .int .u64 x), (w1.heap.size, 0, .int .u64 B), (w1.heap.size, 1, .int .u64 Lm)]) (by go_split_ands; assumption) (by assumption); exact ⟨k.at (w2.heap.size) (0) (.int .u64 B) (by simp), k.at (w2.heap.size) (1) (.int .u64 x) (by simp), k.at (w1.heap.size) (0) (.int .u64 B) (by simp), k.at (w1.heap.size) (1) (.int .u64 Lm) (by simp), k⟩) | (have hq := hHeld; (try dsimp only at hq); have k := Hd.nx (w := w) (cs := [(w2.heap.size, 0, .int .u64 B), (w2.heap.size, 1, .int .u64 x), (w1.heap.size, 0, .int .u64 B), (w1.heap.size, 1, .int .u64 Lm)]) (by go_split_ands; assumption) (by assumption); exact ⟨k.at (w2.heap.size) (0) (.int .u64 B) (by simp), k.at (w2.heap.size) (1) (.int .u64 x) (by simp), k.at (w1.heap.size) (0) (.int .u64 B) (by simp), k.at (w1.heap.size) (1) (.int .u64 Lm) (by simp), k⟩))); clear hK K; (try simp only [Act.put, List.setIfInBounds_toArray, List.set_cons_zero, List.set_cons_succ]))
        (refine doOne (i := 10) rfl ?_ (fun K hK => ?_); (focus kernel_rfl))
        (go_simp; (first | ((first | first | (go_at_call 18; refine (CS.out _).mono ?_; rintro e wh ⟨rfl, nh⟩) | (go_at_call 15; refine (CC.out _).mono ?_; rintro e wh ⟨rfl, nh⟩) | (go_at_call 16; refine (CH.out _).mono ?_; rintro e wh ⟨rfl, nh⟩)); go_wp2_with fail) | skip); refine hK.out _ _ ?_ (fun hHeld => ?_); (focus (first | (have hq := hHeld; (try dsimp only at hq); have k := Hd.nx (w := w) (cs := [(w2.heap.size, 0, .int .u64 B), (w2.heap.size, 1, .int .u64 x), (w1.heap.size, 0, .int .u64 B), (w1.heap.size, 1, .int .u64 Lm)]) (by go_split_ands; assumption) (by assumption); exact ⟨k.at (w2.heap.size) (0) (.int .u64 B) (by simp), k.at (w2.heap.size) (1) (.int .u64 x) (by simp), k.at (w1.heap.size) (0) (.int .u64 B) (by simp), k.at (w1.heap.size) (1) (.int .u64 Lm) (by simp), k⟩) | (have hq := hHeld; (try dsimp only at hq); have k := Hd.nx (w := w) (cs := [(w2.heap.size, 0, .int .u64 B), (w2.heap.size, 1, .int .u64 x), (w1.heap.size, 0, .int .u64 B), (w1.heap.size, 1, .int .u64 Lm)]) (by go_split_ands; assumption) (by assumption); exact ⟨k.at (w2.heap.size) (0) (.int .u64 B) (by simp), k.at (w2.heap.size) (1) (.int .u64 x) (by simp), k.at (w1.heap.size) (0) (.int .u64 B) (by simp), k.at (w1.heap.size) (1) (.int .u64 Lm) (by simp), k⟩))); clear hK K; (try simp only [Act.put, List.setIfInBounds_toArray, List.set_cons_zero, List.set_cons_succ]))
        (refine takeT (i := 11) (v := ?_) rfl ?_ (fun _ _ _ h => h) rfl hHeld ?_ ?_; rotate_left; (focus kernel_rfl); (focus (intro w hSw; (try dsimp only at hSw); go_simp; (try with_reducible rfl))); (try simp only [Act.put, List.setIfInBounds_toArray, List.set_cons_zero, List.set_cons_succ]))
        (refine takeT (i := 12) (v := ?_) rfl ?_ (fun _ _ _ h => h) rfl hHeld ?_ ?_; rotate_left; (focus kernel_rfl); (focus (intro w hSw; (try dsimp only at hSw); go_simp; (try with_reducible rfl))); (try simp only [Act.put, List.setIfInBounds_toArray, List.set_cons_zero, List.set_cons_succ]))
        (refine takeT (i := 13) (v := ?_) rfl ?_ (fun _ _ _ h => h) rfl hHeld ?_ ?_; rotate_left; (focus kernel_rfl); (focus (intro w hSw; (try dsimp only at hSw); go_simp; (try with_reducible rfl))); (try simp only [Act.put, List.setIfInBounds_toArray, List.set_cons_zero, List.set_cons_succ]))
        (refine takeT (i := 14) (v := ?_) rfl ?_ (fun _ _ _ h => h) rfl hHeld ?_ ?_; rotate_left; (focus kernel_rfl); (focus (intro w hSw; (try dsimp only at hSw); go_simp; (try with_reducible rfl))); (try simp only [Act.put, List.setIfInBounds_toArray, List.set_cons_zero, List.set_cons_succ]))
        (refine takeT (i := 15) (v := ?_) rfl ?_ (fun _ _ _ h => h) rfl hHeld ?_ ?_; rotate_left; (focus kernel_rfl); (focus (intro w hSw; (try dsimp only at hSw); go_simp; (try with_reducible rfl))); (try simp only [Act.put, List.setIfInBounds_toArray, List.set_cons_zero, List.set_cons_succ]))
        (refine takeT (i := 16) (v := ?_) rfl ?_ (fun _ _ _ h => h) rfl hHeld ?_ ?_; rotate_left; (focus kernel_rfl); (focus (intro w hSw; (try dsimp only at hSw); go_simp; (try with_reducible rfl))); (try simp only [Act.put, List.setIfInBounds_toArray, List.set_cons_zero, List.set_cons_succ]))
        (refine takeT (i := 17) (v := ?_) rfl ?_ (fun _ _ _ h => h) rfl hHeld ?_ ?_; rotate_left; (focus kernel_rfl); (focus (intro w hSw; (try dsimp only at hSw); go_simp; (try with_reducible rfl))); (try simp only [Act.put, List.setIfInBounds_toArray, List.set_cons_zero, List.set_cons_succ]))
        (refine takeT (i := 18) (v := ?_) rfl ?_ (fun _ _ _ h => h) rfl hHeld ?_ ?_; rotate_left; (focus kernel_rfl); (focus (intro w hSw; (try dsimp only at hSw); go_simp; (try with_reducible rfl))); (try simp only [Act.put, List.setIfInBounds_toArray, List.set_cons_zero, List.set_cons_succ]))
        (refine wpAnyH_done (by kernel_rfl) ?_ _)
        obtain ⟨kc0, kc1, kc2, kc3, k⟩ := hHeld
        go_wp2
        go_ret
        exact ⟨rfl, k.below⟩
    · have g1 : rmB B Lm x = B := by simp [rmB, hx]
      have g2 : rmL B Lm x = Lm := by unfold rmL; (repeat' split) <;> omega
      rw [g1, g2] at CM
      rcases hr : hasB B Lm y with _ | _
      · have CS := Lib.hid (fun W => iSize_any B Lm W (by omega) (by omega) (by omega) (by omega))
        have hsz : szI B Lm = Lm - B := by unfold szI; split <;> omega
        rw [hsz] at CS
        have CC := Lib.hid (fun W => iContains_any B Lm y W (by omega) (by omega) (by omega) (by omega) (by omega) (by omega))
        have hcc : hasB B Lm y = false := by
          simp only [hasB, Bool.and_eq_false_iff, decide_eq_false_iff_not] at hr; simp [hasB]; try omega
        rw [hcc] at CC
        have CH := Lib.hid (fun W => sHas_any B Lm y W)
        rw [hr] at CH
        have ee1 : (Lm - B == Lm - B) = true := by simp
        have ee2 : (false == false) = true := by simp
        have ew : IntKind.u64.wrap (Lm - B) = Lm - B := IntWalk.u64_in _ (by omega)
        go_enter Try.func11, Try.ntmps11
        go_wp2_with fail
        refine (CR.out _).mono ?_
        rintro e w1 ⟨rfl, n1⟩
        have k1 := hd_new n1 (.int .u64 B) (.int .u64 Lm) 26
        go_wp2_with fail
        refine (CA.out _).mono ?_
        rintro e w2 ⟨rfl, rfl⟩
        go_wp2_with fail
        refine (CB.out _).mono ?_
        rintro e w2 ⟨rfl, rfl⟩
        go_wp2_with fail
        refine (CM.out _).mono ?_
        rintro e w2 ⟨rfl, n2⟩
        have k2 := k1.nx n2
        have f0 := k2.at w1.heap.size 0 (.int .u64 B) (by simp)
        have f1 := k2.at w1.heap.size 1 (.int .u64 Lm) (by simp)
        have hz := World.block_lt_of_cell? _ _ f0
        have k3 := hd_more k2 (.int .u64 B) (.int .u64 Lm) 26
        clear k1
        go_upto_region 6 with fail
        generalize w2.alloc (.cells #[.int .u64 B, .int .u64 Lm] 26) = U at k3 ⊢
        have p0 := k3.at w2.heap.size 0 (.int .u64 B) (by simp)
        have p1 := k3.at w2.heap.size 1 (.int .u64 Lm) (by simp)
        have p2 := k3.at w1.heap.size 0 (.int .u64 B) (by simp)
        have p3 := k3.at w1.heap.size 1 (.int .u64 Lm) (by simp)
        clear f0 f1
        refine wp_region_held_drew (S := fun w' => w'.cell? ⟨w2.heap.size, 0, none⟩ = some (.int .u64 B) ∧ w'.cell? ⟨w2.heap.size, 1, none⟩ = some (.int .u64 Lm) ∧ w'.cell? ⟨w1.heap.size, 0, none⟩ = some (.int .u64 B) ∧ w'.cell? ⟨w1.heap.size, 1, none⟩ = some (.int .u64 Lm) ∧ Hd w [(w2.heap.size, 0, .int .u64 B), (w2.heap.size, 1, .int .u64 Lm), (w1.heap.size, 0, .int .u64 B), (w1.heap.size, 1, .int .u64 Lm)] w') (by kernel_rfl) ?_ (fun hHeld => ?_)
        focus (have k := Hd.drew (w := w) (cs := [(w2.heap.size, 0, .int .u64 B), (w2.heap.size, 1, .int .u64 Lm), (w1.heap.size, 0, .int .u64 B), (w1.heap.size, 1, .int .u64 Lm)]) (by assumption); exact ⟨k.at (w2.heap.size) (0) (.int .u64 B) (by simp), k.at (w2.heap.size) (1) (.int .u64 Lm) (by simp), k.at (w1.heap.size) (0) (.int .u64 B) (by simp), k.at (w1.heap.size) (1) (.int .u64 Lm) (by simp), k⟩)
        (refine takeT (i := 0) (v := ?_) rfl ?_ (fun _ _ _ h => h) rfl hHeld ?_ ?_; rotate_left; (focus kernel_rfl); (focus (intro w hSw; (try dsimp only at hSw); go_simp; (try with_reducible rfl))); (try simp only [Act.put, List.setIfInBounds_toArray, List.set_cons_zero, List.set_cons_succ]))
        (refine takeT (i := 2) (v := ?_) rfl ?_ (fun _ _ _ h => h) rfl hHeld ?_ ?_; rotate_left; (focus kernel_rfl); (focus (intro w hSw; (try dsimp only at hSw); go_simp; (try with_reducible rfl))); (try simp only [Act.put, List.setIfInBounds_toArray, List.set_cons_zero, List.set_cons_succ]))
        (refine doOne (i := 1) rfl ?_ (fun K hK => ?_); (focus kernel_rfl))
        (go_simp; (first | ((first | first | (go_at_call 18; refine (CS.out _).mono ?_; rintro e wh ⟨rfl, nh⟩) | (go_at_call 15; refine (CC.out _).mono ?_; rintro e wh ⟨rfl, nh⟩) | (go_at_call 16; refine (CH.out _).mono ?_; rintro e wh ⟨rfl, nh⟩)); go_wp2_with fail) | skip); refine hK.out _ _ ?_ (fun hHeld => ?_); (focus (first | (have hq := hHeld; (try dsimp only at hq); have k := Hd.nx (w := w) (cs := [(w2.heap.size, 0, .int .u64 B), (w2.heap.size, 1, .int .u64 Lm), (w1.heap.size, 0, .int .u64 B), (w1.heap.size, 1, .int .u64 Lm)]) (by go_split_ands; assumption) (by assumption); exact ⟨k.at (w2.heap.size) (0) (.int .u64 B) (by simp), k.at (w2.heap.size) (1) (.int .u64 Lm) (by simp), k.at (w1.heap.size) (0) (.int .u64 B) (by simp), k.at (w1.heap.size) (1) (.int .u64 Lm) (by simp), k⟩) | (have hq := hHeld; (try dsimp only at hq); have k := Hd.nx (w := w) (cs := [(w2.heap.size, 0, .int .u64 B), (w2.heap.size, 1, .int .u64 Lm), (w1.heap.size, 0, .int .u64 B), (w1.heap.size, 1, .int .u64 Lm)]) (by go_split_ands; assumption) (by assumption); exact ⟨k.at (w2.heap.size) (0) (.int .u64 B) (by simp), k.at (w2.heap.size) (1) (.int .u64 Lm) (by simp), k.at (w1.heap.size) (0) (.int .u64 B) (by simp), k.at (w1.heap.size) (1) (.int .u64 Lm) (by simp), k⟩))); clear hK K; (try simp only [Act.put, List.setIfInBounds_toArray, List.set_cons_zero, List.set_cons_succ]))
        (refine takeT (i := 3) (v := ?_) rfl ?_ (fun _ _ _ h => h) rfl hHeld ?_ ?_; rotate_left; (focus kernel_rfl); (focus (intro w hSw; (try dsimp only at hSw); go_simp; (try with_reducible rfl))); (try simp only [Act.put, List.setIfInBounds_toArray, List.set_cons_zero, List.set_cons_succ]))
        (refine takeT (i := 4) (v := ?_) rfl ?_ (fun _ _ _ h => h) rfl hHeld ?_ ?_; rotate_left; (focus kernel_rfl); (focus (intro w hSw; (try dsimp only at hSw); go_simp; (try with_reducible rfl))); (try simp only [Act.put, List.setIfInBounds_toArray, List.set_cons_zero, List.set_cons_succ]))
        (refine takeT (i := 5) (v := ?_) rfl ?_ (fun _ _ _ h => h) rfl hHeld ?_ ?_; rotate_left; (focus kernel_rfl); (focus (intro w hSw; (try dsimp only at hSw); go_simp; (try with_reducible rfl))); (try simp only [Act.put, List.setIfInBounds_toArray, List.set_cons_zero, List.set_cons_succ]))
        (refine takeT (i := 6) (v := ?_) rfl ?_ (fun _ _ _ h => h) rfl hHeld ?_ ?_; rotate_left; (focus kernel_rfl); (focus (intro w hSw; (try dsimp only at hSw); go_simp; (try with_reducible rfl))); (try simp only [Act.put, List.setIfInBounds_toArray, List.set_cons_zero, List.set_cons_succ]))
        (refine takeT (i := 8) (v := ?_) rfl ?_ (fun _ _ _ h => h) rfl hHeld ?_ ?_; rotate_left; (focus kernel_rfl); (focus (intro w hSw; (try dsimp only at hSw); go_simp; (try with_reducible rfl))); (try simp only [Act.put, List.setIfInBounds_toArray, List.set_cons_zero, List.set_cons_succ]))
        (refine takeT (i := 9) (v := ?_) rfl ?_ (fun _ _ _ h => h) rfl hHeld ?_ ?_; rotate_left; (focus kernel_rfl); (focus (intro w hSw; (try dsimp only at hSw); go_simp; (try with_reducible rfl))); (try simp only [Act.put, List.setIfInBounds_toArray, List.set_cons_zero, List.set_cons_succ]))
        (refine doOne (i := 7) rfl ?_ (fun K hK => ?_); (focus kernel_rfl))
        (go_simp; (first | ((first | first | (go_at_call 18; refine (CS.out _).mono ?_; rintro e wh ⟨rfl, nh⟩) | (go_at_call 15; refine (CC.out _).mono ?_; rintro e wh ⟨rfl, nh⟩) | (go_at_call 16; refine (CH.out _).mono ?_; rintro e wh ⟨rfl, nh⟩)); go_wp2_with fail) | skip); refine hK.out _ _ ?_ (fun hHeld => ?_); (focus (first | (have hq := hHeld; (try dsimp only at hq); have k := Hd.nx (w := w) (cs := [(w2.heap.size, 0, .int .u64 B), (w2.heap.size, 1, .int .u64 Lm), (w1.heap.size, 0, .int .u64 B), (w1.heap.size, 1, .int .u64 Lm)]) (by go_split_ands; assumption) (by assumption); exact ⟨k.at (w2.heap.size) (0) (.int .u64 B) (by simp), k.at (w2.heap.size) (1) (.int .u64 Lm) (by simp), k.at (w1.heap.size) (0) (.int .u64 B) (by simp), k.at (w1.heap.size) (1) (.int .u64 Lm) (by simp), k⟩) | (have hq := hHeld; (try dsimp only at hq); have k := Hd.nx (w := w) (cs := [(w2.heap.size, 0, .int .u64 B), (w2.heap.size, 1, .int .u64 Lm), (w1.heap.size, 0, .int .u64 B), (w1.heap.size, 1, .int .u64 Lm)]) (by go_split_ands; assumption) (by assumption); exact ⟨k.at (w2.heap.size) (0) (.int .u64 B) (by simp), k.at (w2.heap.size) (1) (.int .u64 Lm) (by simp), k.at (w1.heap.size) (0) (.int .u64 B) (by simp), k.at (w1.heap.size) (1) (.int .u64 Lm) (by simp), k⟩))); clear hK K; (try simp only [Act.put, List.setIfInBounds_toArray, List.set_cons_zero, List.set_cons_succ]))
        (refine doOne (i := 10) rfl ?_ (fun K hK => ?_); (focus kernel_rfl))
        (go_simp; (first | ((first | first | (go_at_call 18; refine (CS.out _).mono ?_; rintro e wh ⟨rfl, nh⟩) | (go_at_call 15; refine (CC.out _).mono ?_; rintro e wh ⟨rfl, nh⟩) | (go_at_call 16; refine (CH.out _).mono ?_; rintro e wh ⟨rfl, nh⟩)); go_wp2_with fail) | skip); refine hK.out _ _ ?_ (fun hHeld => ?_); (focus (first | (have hq := hHeld; (try dsimp only at hq); have k := Hd.nx (w := w) (cs := [(w2.heap.size, 0, .int .u64 B), (w2.heap.size, 1, .int .u64 Lm), (w1.heap.size, 0, .int .u64 B), (w1.heap.size, 1, .int .u64 Lm)]) (by go_split_ands; assumption) (by assumption); exact ⟨k.at (w2.heap.size) (0) (.int .u64 B) (by simp), k.at (w2.heap.size) (1) (.int .u64 Lm) (by simp), k.at (w1.heap.size) (0) (.int .u64 B) (by simp), k.at (w1.heap.size) (1) (.int .u64 Lm) (by simp), k⟩) | (have hq := hHeld; (try dsimp only at hq); have k := Hd.nx (w := w) (cs := [(w2.heap.size, 0, .int .u64 B), (w2.heap.size, 1, .int .u64 Lm), (w1.heap.size, 0, .int .u64 B), (w1.heap.size, 1, .int .u64 Lm)]) (by go_split_ands; assumption) (by assumption); exact ⟨k.at (w2.heap.size) (0) (.int .u64 B) (by simp), k.at (w2.heap.size) (1) (.int .u64 Lm) (by simp), k.at (w1.heap.size) (0) (.int .u64 B) (by simp), k.at (w1.heap.size) (1) (.int .u64 Lm) (by simp), k⟩))); clear hK K; (try simp only [Act.put, List.setIfInBounds_toArray, List.set_cons_zero, List.set_cons_succ]))
        (refine takeT (i := 11) (v := ?_) rfl ?_ (fun _ _ _ h => h) rfl hHeld ?_ ?_; rotate_left; (focus kernel_rfl); (focus (intro w hSw; (try dsimp only at hSw); go_simp; (try with_reducible rfl))); (try simp only [Act.put, List.setIfInBounds_toArray, List.set_cons_zero, List.set_cons_succ]))
        (refine takeF (i := 12) rfl ?_ (fun _ _ _ h => h) rfl hHeld ?_; (focus kernel_rfl); (try simp only [Act.put, List.setIfInBounds_toArray, List.set_cons_zero, List.set_cons_succ]))
        (refine takeF (i := 13) rfl ?_ (fun _ _ _ h => h) rfl hHeld ?_; (focus kernel_rfl); (try simp only [Act.put, List.setIfInBounds_toArray, List.set_cons_zero, List.set_cons_succ]))
        (refine takeF (i := 14) rfl ?_ (fun _ _ _ h => h) rfl hHeld ?_; (focus kernel_rfl); (try simp only [Act.put, List.setIfInBounds_toArray, List.set_cons_zero, List.set_cons_succ]))
        (refine takeT (i := 15) (v := ?_) rfl ?_ (fun _ _ _ h => h) rfl hHeld ?_ ?_; rotate_left; (focus kernel_rfl); (focus (intro w hSw; (try dsimp only at hSw); go_simp; (try with_reducible rfl))); (try simp only [Act.put, List.setIfInBounds_toArray, List.set_cons_zero, List.set_cons_succ]))
        (refine takeT (i := 16) (v := ?_) rfl ?_ (fun _ _ _ h => h) rfl hHeld ?_ ?_; rotate_left; (focus kernel_rfl); (focus (intro w hSw; (try dsimp only at hSw); go_simp; (try with_reducible rfl))); (try simp only [Act.put, List.setIfInBounds_toArray, List.set_cons_zero, List.set_cons_succ]))
        (refine takeT (i := 17) (v := ?_) rfl ?_ (fun _ _ _ h => h) rfl hHeld ?_ ?_; rotate_left; (focus kernel_rfl); (focus (intro w hSw; (try dsimp only at hSw); go_simp; (try with_reducible rfl))); (try simp only [Act.put, List.setIfInBounds_toArray, List.set_cons_zero, List.set_cons_succ]))
        (refine takeT (i := 18) (v := ?_) rfl ?_ (fun _ _ _ h => h) rfl hHeld ?_ ?_; rotate_left; (focus kernel_rfl); (focus (intro w hSw; (try dsimp only at hSw); go_simp; (try with_reducible rfl))); (try simp only [Act.put, List.setIfInBounds_toArray, List.set_cons_zero, List.set_cons_succ]))
        (refine wpAnyH_done (by kernel_rfl) ?_ _)
        obtain ⟨kc0, kc1, kc2, kc3, k⟩ := hHeld
        go_wp2
        go_ret
        exact ⟨rfl, k.below⟩
      · have CS := Lib.hid (fun W => iSize_any B Lm W (by omega) (by omega) (by omega) (by omega))
        have hsz : szI B Lm = Lm - B := by unfold szI; split <;> omega
        rw [hsz] at CS
        have CC := Lib.hid (fun W => iContains_any B Lm y W (by omega) (by omega) (by omega) (by omega) (by omega) (by omega))
        have hcc : hasB B Lm y = decide (y < x) := by
          simp only [hasB, Bool.and_eq_true, decide_eq_true_eq] at hr; by_cases hy : y < x <;> (simp [hasB, hy]; try omega)
        rw [hcc] at CC
        have CH := Lib.hid (fun W => sHas_any B Lm y W)
        rw [hr] at CH
        have ee1 : (Lm - B == Lm - B) = true := by simp
        have ee2 : (decide (y < x) == decide (y < x)) = true := by simp
        have ew : IntKind.u64.wrap (Lm - B) = Lm - B := IntWalk.u64_in _ (by omega)
        go_enter Try.func11, Try.ntmps11
        go_wp2_with fail
        refine (CR.out _).mono ?_
        rintro e w1 ⟨rfl, n1⟩
        have k1 := hd_new n1 (.int .u64 B) (.int .u64 Lm) 26
        go_wp2_with fail
        refine (CA.out _).mono ?_
        rintro e w2 ⟨rfl, rfl⟩
        go_wp2_with fail
        refine (CB.out _).mono ?_
        rintro e w2 ⟨rfl, rfl⟩
        go_wp2_with fail
        refine (CM.out _).mono ?_
        rintro e w2 ⟨rfl, n2⟩
        have k2 := k1.nx n2
        have f0 := k2.at w1.heap.size 0 (.int .u64 B) (by simp)
        have f1 := k2.at w1.heap.size 1 (.int .u64 Lm) (by simp)
        have hz := World.block_lt_of_cell? _ _ f0
        have k3 := hd_more k2 (.int .u64 B) (.int .u64 Lm) 26
        clear k1
        go_upto_region 6 with fail
        generalize w2.alloc (.cells #[.int .u64 B, .int .u64 Lm] 26) = U at k3 ⊢
        have p0 := k3.at w2.heap.size 0 (.int .u64 B) (by simp)
        have p1 := k3.at w2.heap.size 1 (.int .u64 Lm) (by simp)
        have p2 := k3.at w1.heap.size 0 (.int .u64 B) (by simp)
        have p3 := k3.at w1.heap.size 1 (.int .u64 Lm) (by simp)
        clear f0 f1
        refine wp_region_held_drew (S := fun w' => w'.cell? ⟨w2.heap.size, 0, none⟩ = some (.int .u64 B) ∧ w'.cell? ⟨w2.heap.size, 1, none⟩ = some (.int .u64 Lm) ∧ w'.cell? ⟨w1.heap.size, 0, none⟩ = some (.int .u64 B) ∧ w'.cell? ⟨w1.heap.size, 1, none⟩ = some (.int .u64 Lm) ∧ Hd w [(w2.heap.size, 0, .int .u64 B), (w2.heap.size, 1, .int .u64 Lm), (w1.heap.size, 0, .int .u64 B), (w1.heap.size, 1, .int .u64 Lm)] w') (by kernel_rfl) ?_ (fun hHeld => ?_)
        focus (have k := Hd.drew (w := w) (cs := [(w2.heap.size, 0, .int .u64 B), (w2.heap.size, 1, .int .u64 Lm), (w1.heap.size, 0, .int .u64 B), (w1.heap.size, 1, .int .u64 Lm)]) (by assumption); exact ⟨k.at (w2.heap.size) (0) (.int .u64 B) (by simp), k.at (w2.heap.size) (1) (.int .u64 Lm) (by simp), k.at (w1.heap.size) (0) (.int .u64 B) (by simp), k.at (w1.heap.size) (1) (.int .u64 Lm) (by simp), k⟩)
        (refine takeT (i := 0) (v := ?_) rfl ?_ (fun _ _ _ h => h) rfl hHeld ?_ ?_; rotate_left; (focus kernel_rfl); (focus (intro w hSw; (try dsimp only at hSw); go_simp; (try with_reducible rfl))); (try simp only [Act.put, List.setIfInBounds_toArray, List.set_cons_zero, List.set_cons_succ]))
        (refine takeT (i := 2) (v := ?_) rfl ?_ (fun _ _ _ h => h) rfl hHeld ?_ ?_; rotate_left; (focus kernel_rfl); (focus (intro w hSw; (try dsimp only at hSw); go_simp; (try with_reducible rfl))); (try simp only [Act.put, List.setIfInBounds_toArray, List.set_cons_zero, List.set_cons_succ]))
        (refine doOne (i := 1) rfl ?_ (fun K hK => ?_); (focus kernel_rfl))
        (go_simp; (first | ((first | first | (go_at_call 18; refine (CS.out _).mono ?_; rintro e wh ⟨rfl, nh⟩) | (go_at_call 15; refine (CC.out _).mono ?_; rintro e wh ⟨rfl, nh⟩) | (go_at_call 16; refine (CH.out _).mono ?_; rintro e wh ⟨rfl, nh⟩)); go_wp2_with fail) | skip); refine hK.out _ _ ?_ (fun hHeld => ?_); (focus (first | (have hq := hHeld; (try dsimp only at hq); have k := Hd.nx (w := w) (cs := [(w2.heap.size, 0, .int .u64 B), (w2.heap.size, 1, .int .u64 Lm), (w1.heap.size, 0, .int .u64 B), (w1.heap.size, 1, .int .u64 Lm)]) (by go_split_ands; assumption) (by assumption); exact ⟨k.at (w2.heap.size) (0) (.int .u64 B) (by simp), k.at (w2.heap.size) (1) (.int .u64 Lm) (by simp), k.at (w1.heap.size) (0) (.int .u64 B) (by simp), k.at (w1.heap.size) (1) (.int .u64 Lm) (by simp), k⟩) | (have hq := hHeld; (try dsimp only at hq); have k := Hd.nx (w := w) (cs := [(w2.heap.size, 0, .int .u64 B), (w2.heap.size, 1, .int .u64 Lm), (w1.heap.size, 0, .int .u64 B), (w1.heap.size, 1, .int .u64 Lm)]) (by go_split_ands; assumption) (by assumption); exact ⟨k.at (w2.heap.size) (0) (.int .u64 B) (by simp), k.at (w2.heap.size) (1) (.int .u64 Lm) (by simp), k.at (w1.heap.size) (0) (.int .u64 B) (by simp), k.at (w1.heap.size) (1) (.int .u64 Lm) (by simp), k⟩))); clear hK K; (try simp only [Act.put, List.setIfInBounds_toArray, List.set_cons_zero, List.set_cons_succ]))
        (refine takeT (i := 3) (v := ?_) rfl ?_ (fun _ _ _ h => h) rfl hHeld ?_ ?_; rotate_left; (focus kernel_rfl); (focus (intro w hSw; (try dsimp only at hSw); go_simp; (try with_reducible rfl))); (try simp only [Act.put, List.setIfInBounds_toArray, List.set_cons_zero, List.set_cons_succ]))
        (refine takeT (i := 4) (v := ?_) rfl ?_ (fun _ _ _ h => h) rfl hHeld ?_ ?_; rotate_left; (focus kernel_rfl); (focus (intro w hSw; (try dsimp only at hSw); go_simp; (try with_reducible rfl))); (try simp only [Act.put, List.setIfInBounds_toArray, List.set_cons_zero, List.set_cons_succ]))
        (refine takeT (i := 5) (v := ?_) rfl ?_ (fun _ _ _ h => h) rfl hHeld ?_ ?_; rotate_left; (focus kernel_rfl); (focus (intro w hSw; (try dsimp only at hSw); go_simp; (try with_reducible rfl))); (try simp only [Act.put, List.setIfInBounds_toArray, List.set_cons_zero, List.set_cons_succ]))
        (refine takeT (i := 6) (v := ?_) rfl ?_ (fun _ _ _ h => h) rfl hHeld ?_ ?_; rotate_left; (focus kernel_rfl); (focus (intro w hSw; (try dsimp only at hSw); go_simp; (try with_reducible rfl))); (try simp only [Act.put, List.setIfInBounds_toArray, List.set_cons_zero, List.set_cons_succ]))
        (refine takeT (i := 8) (v := ?_) rfl ?_ (fun _ _ _ h => h) rfl hHeld ?_ ?_; rotate_left; (focus kernel_rfl); (focus (intro w hSw; (try dsimp only at hSw); go_simp; (try with_reducible rfl))); (try simp only [Act.put, List.setIfInBounds_toArray, List.set_cons_zero, List.set_cons_succ]))
        (refine takeT (i := 9) (v := ?_) rfl ?_ (fun _ _ _ h => h) rfl hHeld ?_ ?_; rotate_left; (focus kernel_rfl); (focus (intro w hSw; (try dsimp only at hSw); go_simp; (try with_reducible rfl))); (try simp only [Act.put, List.setIfInBounds_toArray, List.set_cons_zero, List.set_cons_succ]))
        (refine doOne (i := 7) rfl ?_ (fun K hK => ?_); (focus kernel_rfl))
        (go_simp; (first | ((first | first | (go_at_call 18; refine (CS.out _).mono ?_; rintro e wh ⟨rfl, nh⟩) | (go_at_call 15; refine (CC.out _).mono ?_; rintro e wh ⟨rfl, nh⟩) | (go_at_call 16; refine (CH.out _).mono ?_; rintro e wh ⟨rfl, nh⟩)); go_wp2_with fail) | skip); refine hK.out _ _ ?_ (fun hHeld => ?_); (focus (first | (have hq := hHeld; (try dsimp only at hq); have k := Hd.nx (w := w) (cs := [(w2.heap.size, 0, .int .u64 B), (w2.heap.size, 1, .int .u64 Lm), (w1.heap.size, 0, .int .u64 B), (w1.heap.size, 1, .int .u64 Lm)]) (by go_split_ands; assumption) (by assumption); exact ⟨k.at (w2.heap.size) (0) (.int .u64 B) (by simp), k.at (w2.heap.size) (1) (.int .u64 Lm) (by simp), k.at (w1.heap.size) (0) (.int .u64 B) (by simp), k.at (w1.heap.size) (1) (.int .u64 Lm) (by simp), k⟩) | (have hq := hHeld; (try dsimp only at hq); have k := Hd.nx (w := w) (cs := [(w2.heap.size, 0, .int .u64 B), (w2.heap.size, 1, .int .u64 Lm), (w1.heap.size, 0, .int .u64 B), (w1.heap.size, 1, .int .u64 Lm)]) (by go_split_ands; assumption) (by assumption); exact ⟨k.at (w2.heap.size) (0) (.int .u64 B) (by simp), k.at (w2.heap.size) (1) (.int .u64 Lm) (by simp), k.at (w1.heap.size) (0) (.int .u64 B) (by simp), k.at (w1.heap.size) (1) (.int .u64 Lm) (by simp), k⟩))); clear hK K; (try simp only [Act.put, List.setIfInBounds_toArray, List.set_cons_zero, List.set_cons_succ]))
        (refine doOne (i := 10) rfl ?_ (fun K hK => ?_); (focus kernel_rfl))
        (go_simp; (first | ((first | first | (go_at_call 18; refine (CS.out _).mono ?_; rintro e wh ⟨rfl, nh⟩) | (go_at_call 15; refine (CC.out _).mono ?_; rintro e wh ⟨rfl, nh⟩) | (go_at_call 16; refine (CH.out _).mono ?_; rintro e wh ⟨rfl, nh⟩)); go_wp2_with fail) | skip); refine hK.out _ _ ?_ (fun hHeld => ?_); (focus (first | (have hq := hHeld; (try dsimp only at hq); have k := Hd.nx (w := w) (cs := [(w2.heap.size, 0, .int .u64 B), (w2.heap.size, 1, .int .u64 Lm), (w1.heap.size, 0, .int .u64 B), (w1.heap.size, 1, .int .u64 Lm)]) (by go_split_ands; assumption) (by assumption); exact ⟨k.at (w2.heap.size) (0) (.int .u64 B) (by simp), k.at (w2.heap.size) (1) (.int .u64 Lm) (by simp), k.at (w1.heap.size) (0) (.int .u64 B) (by simp), k.at (w1.heap.size) (1) (.int .u64 Lm) (by simp), k⟩) | (have hq := hHeld; (try dsimp only at hq); have k := Hd.nx (w := w) (cs := [(w2.heap.size, 0, .int .u64 B), (w2.heap.size, 1, .int .u64 Lm), (w1.heap.size, 0, .int .u64 B), (w1.heap.size, 1, .int .u64 Lm)]) (by go_split_ands; assumption) (by assumption); exact ⟨k.at (w2.heap.size) (0) (.int .u64 B) (by simp), k.at (w2.heap.size) (1) (.int .u64 Lm) (by simp), k.at (w1.heap.size) (0) (.int .u64 B) (by simp), k.at (w1.heap.size) (1) (.int .u64 Lm) (by simp), k⟩))); clear hK K; (try simp only [Act.put, List.setIfInBounds_toArray, List.set_cons_zero, List.set_cons_succ]))
        (refine takeT (i := 11) (v := ?_) rfl ?_ (fun _ _ _ h => h) rfl hHeld ?_ ?_; rotate_left; (focus kernel_rfl); (focus (intro w hSw; (try dsimp only at hSw); go_simp; (try with_reducible rfl))); (try simp only [Act.put, List.setIfInBounds_toArray, List.set_cons_zero, List.set_cons_succ]))
        (refine takeT (i := 12) (v := ?_) rfl ?_ (fun _ _ _ h => h) rfl hHeld ?_ ?_; rotate_left; (focus kernel_rfl); (focus (intro w hSw; (try dsimp only at hSw); go_simp; (try with_reducible rfl))); (try simp only [Act.put, List.setIfInBounds_toArray, List.set_cons_zero, List.set_cons_succ]))
        (refine takeT (i := 13) (v := ?_) rfl ?_ (fun _ _ _ h => h) rfl hHeld ?_ ?_; rotate_left; (focus kernel_rfl); (focus (intro w hSw; (try dsimp only at hSw); go_simp; (try with_reducible rfl))); (try simp only [Act.put, List.setIfInBounds_toArray, List.set_cons_zero, List.set_cons_succ]))
        (refine takeT (i := 14) (v := ?_) rfl ?_ (fun _ _ _ h => h) rfl hHeld ?_ ?_; rotate_left; (focus kernel_rfl); (focus (intro w hSw; (try dsimp only at hSw); go_simp; (try with_reducible rfl))); (try simp only [Act.put, List.setIfInBounds_toArray, List.set_cons_zero, List.set_cons_succ]))
        (refine takeT (i := 15) (v := ?_) rfl ?_ (fun _ _ _ h => h) rfl hHeld ?_ ?_; rotate_left; (focus kernel_rfl); (focus (intro w hSw; (try dsimp only at hSw); go_simp; (try with_reducible rfl))); (try simp only [Act.put, List.setIfInBounds_toArray, List.set_cons_zero, List.set_cons_succ]))
        (refine takeT (i := 16) (v := ?_) rfl ?_ (fun _ _ _ h => h) rfl hHeld ?_ ?_; rotate_left; (focus kernel_rfl); (focus (intro w hSw; (try dsimp only at hSw); go_simp; (try with_reducible rfl))); (try simp only [Act.put, List.setIfInBounds_toArray, List.set_cons_zero, List.set_cons_succ]))
        (refine takeT (i := 17) (v := ?_) rfl ?_ (fun _ _ _ h => h) rfl hHeld ?_ ?_; rotate_left; (focus kernel_rfl); (focus (intro w hSw; (try dsimp only at hSw); go_simp; (try with_reducible rfl))); (try simp only [Act.put, List.setIfInBounds_toArray, List.set_cons_zero, List.set_cons_succ]))
        (refine takeT (i := 18) (v := ?_) rfl ?_ (fun _ _ _ h => h) rfl hHeld ?_ ?_; rotate_left; (focus kernel_rfl); (focus (intro w hSw; (try dsimp only at hSw); go_simp; (try with_reducible rfl))); (try simp only [Act.put, List.setIfInBounds_toArray, List.set_cons_zero, List.set_cons_succ]))
        (refine wpAnyH_done (by kernel_rfl) ?_ _)
        obtain ⟨kc0, kc1, kc2, kc3, k⟩ := hHeld
        go_wp2
        go_ret
        exact ⟨rfl, k.below⟩

set_option maxRecDepth 100000 in
theorem lifted (os : Os) (started : os.Started) (H : Type) (enc : TypeId × Value → H) :
    ReturnsInHanded {} Try.checked os 11 .any (Rows.fnExactRemoveSpec.pre6 enc Try.prog Try.f11 Rows.fnExactRemoveRow.domain false) (Rows.fnExactRemoveSpec.post enc Try.prog Try.f11 false true false false) := by
  refine returnsInHanded_of_change (C := Try.checked) own started (by kernel_rfl) Try.func11
    (ChangeSpec.witness6 (enc := enc) (C := Try.checked) false ⟨#[], #[.int .u64 0, .int .u64 0, .int .u64 0, .int .u64 0], []⟩ 8 (by kernel_rfl) (by kernel_rfl) (by kernel_rfl) (by kernel_rfl)) ?_
  intro W base args ds gs before hval0 hW hcnd _
  have hval : ∀ (j : Nat) t v, Try.f11.params[j]? = some t → args[j]? = some v → Value.okWide Try.prog W .any base t v := hval0
  have hW' := hW
  obtain ⟨p, q, hA0, hV, rfl, hfz, hnd⟩ := hW
  have hA : DataW.TrodAll enc Try.prog W 0 (fun _ => true) true Try.f11.params.toList args.toList ds p := hA0
  rw [Try.params11] at hA hval
  obtain ⟨v0, vs0, d0, ds0, p0, q0, hargs, rfl, rfl, h0, r0⟩ := trodAll_cons hA
  obtain ⟨v1, vs1, d1, ds1, p1, q1, rfl, rfl, rfl, h1, r1⟩ := trodAll_cons r0
  obtain ⟨v2, vs2, d2, ds2, p2, q2, rfl, rfl, rfl, h2, r2⟩ := trodAll_cons r1
  obtain ⟨v3, vs3, d3, ds3, p3, q3, rfl, rfl, rfl, h3, r3⟩ := trodAll_cons r2
  obtain ⟨rfl, rfl, rfl⟩ := trodAll_nil r3
  obtain rfl : args = #[v0, v1, v2, v3] := by cases args; simp_all
  obtain ⟨rfl, rfl⟩ := trodVars_none hV
  obtain ⟨a0, rfl, rfl, rfl, w0⟩ := open_int Try.underlying22 (hval 0 22 v0 rfl rfl) h0
  obtain ⟨a1, rfl, rfl, rfl, w1⟩ := open_int Try.underlying22 (hval 1 22 v1 rfl rfl) h1
  obtain ⟨a2, rfl, rfl, rfl, w2⟩ := open_int Try.underlying22 (hval 2 22 v2 rfl rfl) h2
  obtain ⟨a3, rfl, rfl, rfl, w3⟩ := open_int Try.underlying22 (hval 3 22 v3 rfl rfl) h3
  clear hA0 hval0
  refine (walk a0 a1 a2 a3 W w0 w1 w2 w3).mono fun e W' ⟨he, bel⟩ => ?_
  subst he
  exact ⟨_, rfl, _, _, _, [], _, [], hW', trodAll_mk1 (shut_bool Try.underlying4 _), (trodAll_cons_mk (shut_int Try.underlying22 w0) (trodAll_cons_mk (shut_int Try.underlying22 w1) (trodAll_cons_mk (shut_int Try.underlying22 w2) (trodAll_cons_mk (shut_int Try.underlying22 w3) trodAll_mk0)))), rfl, Below.frame bel _, fun h => by cases h⟩
theorem over : Rows.fnExactRemoveRow.holds Try.pinned (OpenSpec.ofChange Rows.fnExactRemoveSpec) :=
  OpenClaim.holds_of_wide 11 Try.f11 rfl rfl rfl rfl rfl rfl rfl ⟨rfl, rfl, rfl, rfl, rfl⟩ rfl rfl rfl rfl rfl (by kernel_rfl) Try.func11 (by kernel_rfl)
    (of_decide_eq_true (by kernel_rfl)) (by unfold Func.isWrapper; first | (rw [if_pos (by decide +kernel)]; kernel_rfl) | (rw [if_neg (by decide +kernel)]; exact ⟨rfl, rfl⟩))
    (fun os started H enc _ => lifted os started H enc)
theorem proved : Rows.FnExactRemoveSaid := over
#print axioms proved
end Go.Proofs.Ytjhchjocaafakaa.fnExactRemove
