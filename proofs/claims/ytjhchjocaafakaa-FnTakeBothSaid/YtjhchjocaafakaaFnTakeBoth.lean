/- FnTakeBoth: for all numbers, what is taken from the front of the range, and then from the end, is in the range, aligned, and apart from each other and from what is left. No condition. -/
import Derived.Test.YtjhchjocaafakaaRows
import Derived.Test.YtjhchjocaafakaaRh
import Derived.Test.YtjhchjocaafakaaRw
import Derived.Test.YtjhchjocaafakaaRi
import Derived.Deep.DeepCutAuto
import Derived.ProofKit
import Derived.OpenShut
namespace Go.Proofs.Ytjhchjocaafakaa.fnTakeBoth
open Go.ChangeShapes Go.WideShapes Go.ChangeAt Go.RowKit
set_option linter.unusedVariables false
theorem own : ownKnob Try.prog.godebug = none := by kernel_rfl

set_option maxHeartbeats 400000 in
theorem walk (a0 a1 a2 a3 : Int) (w : World) (w0 : (Lit.int .u64 a0).wf = true) (w1 : (Lit.int .u64 a1).wf = true) (w2 : (Lit.int .u64 a2).wf = true) (w3 : (Lit.int .u8 a3).wf = true) :
    Calls Try.prog 10 #[.int .u64 a0, .int .u64 a1, .int .u64 a2, .int .u8 a3] w fun e w' => e = .returned (.bool true) ∧ Nx w w' := by
  have h0 := u64_lo w0
  have h1 := u64_lo w1
  have h2 := u64_lo w2
  have h3 := u8_lo w3
  clear w0 w1 w2 w3
  have r := rg_in a0 a1
  obtain ⟨r1, r2, r3⟩ := r
  obtain ⟨al, hal1, hal2, hal⟩ := p2_of a3 h3.1
  have hab := p2_bd hal
  have hk8 : 0 ≤ a3 % 8 ∧ a3 % 8 < 8 := by omega
  have CR := Lib.hid (fun W => sRange_any a0 a1 W h0 h1)
  generalize rgB a0 a1 = B at CR r1 r2
  generalize rgL a0 a1 = Lm at CR r2 r3
  obtain ⟨m, hm⟩ : ∃ m, m = Lm - B := ⟨_, rfl⟩
  replace hm : m ≤ Lm - B ∧ Lm - B ≤ m := by omega
  have hsm : szI B Lm = m := by unfold szI; split <;> omega
  have hm1 : 0 < m := by omega
  have hm0 : (m == 0) = false := by rw [beq_eq_false_iff_ne]; omega
  have CZ := Lib.hid (fun W => sSize_any B Lm W (by omega) (by omega) (by omega) (by omega))
  rw [hsm] at CZ
  have ht : 0 ≤ a2 % m ∧ a2 % m < m := ⟨Int.emod_nonneg _ (by omega), Int.emod_lt_of_pos _ hm1⟩
  obtain ⟨n, hn⟩ : ∃ n, n = 1 + a2 % m := ⟨_, rfl⟩
  have ewn : IntKind.u64.wrap (1 + a2 % m) = n := (IntWalk.u64_in _ (by omega)).trans hn.symm
  have hnb : 1 ≤ n ∧ n ≤ m := by omega
  clear hn ht hsm
  have hd := dnI_bd (n := B + al - 1) (a := al) (by omega) hab.1
  have hmod := dnI_dvd (B + al - 1) al
  have CT := Lib.hid (And.intro (fun (W : World) (hroom : dnI (B + al - 1) al + n ≤ Lm) => iTakeFromFront_yes B Lm n al W (by omega) (by omega) (by omega) (by omega) (by omega) (by omega) hal hroom) (fun (W : World) (hroom : ¬ dnI (B + al - 1) al + n ≤ Lm) => iTakeFromFront_no B Lm n al W (by omega) (by omega) (by omega) (by omega) (by omega) (by omega) hal hroom))
  have CP := Lib.hid (fun W => sUp_nx B al W (by omega) (by omega) hal)
  generalize dnI (B + al - 1) al = x at CT CP hd hmod
  have hxB : B ≤ x := by omega
  have hal0 : (al == 0) = false := by rw [beq_eq_false_iff_ne]; omega
  have ewx : IntKind.u64.wrap (x + n) = x + n := IntWalk.u64_in _ (by omega)
  by_cases hroom : x + n ≤ Lm
  · have CU := Lib.hid (fun W => CT.out.1 W hroom)
    have CL := Lib.hid (fun W => sSize_any (x + n) Lm W (by omega) (by omega) (by omega) (by omega))
    have hsl : szI (x + n) Lm = Lm - x - n := by unfold szI; split <;> omega
    rw [hsl] at CL
    have hxb : ¬ x < B := by omega
    have hxl : ¬ Lm < x + n := by omega
    clear CT hsl
    have CX := Lib.hid (fun W => iContains_any (x + n) Lm x W (by omega) (by omega) (by omega) (by omega) (by omega) (by omega))
    have hcx : hasB (x + n) Lm x = false := by simp [hasB]; omega
    rw [hcx] at CX
    by_cases hs : Lm - x - n < n
    · clear hal hcx
      go_enter Try.func10, Try.ntmps10
      go_wp2_with fail
      refine (CR.out _).mono ?_
      rintro e w1 ⟨rfl, n1⟩
      have k1 := hd_new n1 (.int .u64 B) (.int .u64 Lm) 26
      go_wp2_with fail
      refine (CZ.out _).mono ?_
      rintro e w2 ⟨rfl, n2⟩
      have k2 := k1.nx n2
      clear k1 n1 n2
      have f0 := k2.at w1.heap.size 0 (.int .u64 B) (by simp)
      have f1 := k2.at w1.heap.size 1 (.int .u64 Lm) (by simp)
      go_wp2_with fail
      refine (CU.out _).mono ?_
      rintro e w3 ⟨rfl, n3⟩
      have k3 := k2.nx n3
      clear f0 f1 k2 n3
      have f0 := k3.at w1.heap.size 0 (.int .u64 B) (by simp)
      have f1 := k3.at w1.heap.size 1 (.int .u64 Lm) (by simp)
      have hz := World.block_lt_of_cell? _ _ f0
      have k4 := hd_more k3 (.int .u64 (x + n)) (.int .u64 Lm) 26
      clear k3
      go_upto_region 6 with fail
      generalize w3.alloc (.cells #[.int .u64 (x + n), .int .u64 Lm] 26) = U at k4 ⊢
      clear f0 f1
      have p0 := k4.at w3.heap.size 0 (.int .u64 (x + n)) (by simp)
      have p1 := k4.at w3.heap.size 1 (.int .u64 Lm) (by simp)
      have p2 := k4.at w1.heap.size 0 (.int .u64 B) (by simp)
      have p3 := k4.at w1.heap.size 1 (.int .u64 Lm) (by simp)
      go_wp2_with fail
      refine (CL.out _).mono ?_
      rintro e w4 ⟨rfl, n4⟩
      have k5 := k4.nx n4
      clear p0 p1 p2 p3 k4 n4
      have p0 := k5.at w3.heap.size 0 (.int .u64 (x + n)) (by simp)
      have p1 := k5.at w3.heap.size 1 (.int .u64 Lm) (by simp)
      have p2 := k5.at w1.heap.size 0 (.int .u64 B) (by simp)
      have p3 := k5.at w1.heap.size 1 (.int .u64 Lm) (by simp)
      go_wp2_with fail
      refine (CX.out _).mono ?_
      rintro e w5 ⟨rfl, n5⟩
      have k6 := k5.nx n5
      go_wp2
      go_ret
      exact ⟨rfl, k6.below⟩
    · have hd2 := dnI_bd (n := Lm - n) (a := al) (by omega) hab.1
      have hmod2 := dnI_dvd (Lm - n) al
      have CT := Lib.hid (And.intro (fun (W : World) (hroom : x + n ≤ dnI (Lm - n) al) => iTakeFromBack_yes (x + n) Lm n al W (by omega) (by omega) (by omega) (by omega) (by omega) (by omega) hal (by omega) hroom) (fun (W : World) (hroom : ¬ x + n ≤ dnI (Lm - n) al) => iTakeFromBack_no (x + n) Lm n al W (by omega) (by omega) (by omega) (by omega) (by omega) (by omega) hal (by omega) hroom))
      generalize dnI (Lm - n) al = y at CT hd2 hmod2
      clear hal hcx CX
      have ewy : IntKind.u64.wrap (y + n) = y + n := IntWalk.u64_in _ (by omega)
      by_cases hr2 : x + n ≤ y
      · have CB := Lib.hid (fun W => CT.out.1 W hr2)
        clear CT
        have CY := Lib.hid (fun W => iContains_any (x + n) y y W (by omega) (by omega) (by omega) (by omega) (by omega) (by omega))
        have hcy : hasB (x + n) y y = false := by simp [hasB]
        rw [hcy] at CY
        have CX := Lib.hid (fun W => iContains_any (x + n) y x W (by omega) (by omega) (by omega) (by omega) (by omega) (by omega))
        have hcx : hasB (x + n) y x = false := by simp [hasB]; omega
        rw [hcx] at CX
        have hyl : y + n ≤ Lm := by omega
        clear hcy hcx
        go_enter Try.func10, Try.ntmps10
        go_wp2_with fail
        refine (CR.out _).mono ?_
        rintro e w1 ⟨rfl, n1⟩
        have k1 := hd_new n1 (.int .u64 B) (.int .u64 Lm) 26
        go_wp2_with fail
        refine (CZ.out _).mono ?_
        rintro e w2 ⟨rfl, n2⟩
        have k2 := k1.nx n2
        clear k1 n1 n2
        have f0 := k2.at w1.heap.size 0 (.int .u64 B) (by simp)
        have f1 := k2.at w1.heap.size 1 (.int .u64 Lm) (by simp)
        go_wp2_with fail
        refine (CU.out _).mono ?_
        rintro e w3 ⟨rfl, n3⟩
        have k3 := k2.nx n3
        clear f0 f1 k2 n3
        have f0 := k3.at w1.heap.size 0 (.int .u64 B) (by simp)
        have f1 := k3.at w1.heap.size 1 (.int .u64 Lm) (by simp)
        have hz := World.block_lt_of_cell? _ _ f0
        have k4 := hd_more k3 (.int .u64 (x + n)) (.int .u64 Lm) 26
        clear k3
        go_upto_region 6 with fail
        generalize w3.alloc (.cells #[.int .u64 (x + n), .int .u64 Lm] 26) = U at k4 ⊢
        clear f0 f1
        have p0 := k4.at w3.heap.size 0 (.int .u64 (x + n)) (by simp)
        have p1 := k4.at w3.heap.size 1 (.int .u64 Lm) (by simp)
        have p2 := k4.at w1.heap.size 0 (.int .u64 B) (by simp)
        have p3 := k4.at w1.heap.size 1 (.int .u64 Lm) (by simp)
        go_wp2_with fail
        refine (CL.out _).mono ?_
        rintro e w4 ⟨rfl, n4⟩
        have k5 := k4.nx n4
        clear p0 p1 p2 p3 k4 n4
        have p0 := k5.at w3.heap.size 0 (.int .u64 (x + n)) (by simp)
        have p1 := k5.at w3.heap.size 1 (.int .u64 Lm) (by simp)
        have p2 := k5.at w1.heap.size 0 (.int .u64 B) (by simp)
        have p3 := k5.at w1.heap.size 1 (.int .u64 Lm) (by simp)
        go_wp2_with fail
        refine (CB.out _).mono ?_
        rintro e w5 ⟨rfl, n5⟩
        have k6 := k5.nx n5
        clear p0 p1 p2 p3 k5 n5
        have k7 := hd_more k6 (.int .u64 (x + n)) (.int .u64 y) 26
        have hz5 := k6.below.size
        clear k6
        go_upto_region 11 with fail
        generalize w5.alloc (.cells #[.int .u64 (x + n), .int .u64 y] 26) = U2 at k7 ⊢
        have p0 := k7.at w5.heap.size 0 (.int .u64 (x + n)) (by simp)
        have p1 := k7.at w5.heap.size 1 (.int .u64 y) (by simp)
        have p2 := k7.at w1.heap.size 0 (.int .u64 B) (by simp)
        have p3 := k7.at w1.heap.size 1 (.int .u64 Lm) (by simp)
        go_wp2_with fail
        refine (CY.out _).mono ?_
        rintro e w6 ⟨rfl, n6⟩
        have k8 := k7.nx n6
        clear p0 p1 p2 p3 k7 n6
        have p0 := k8.at w5.heap.size 0 (.int .u64 (x + n)) (by simp)
        have p1 := k8.at w5.heap.size 1 (.int .u64 y) (by simp)
        go_wp2_with fail
        refine (CX.out _).mono ?_
        rintro e w7 ⟨rfl, n7⟩
        have k9 := k8.nx n7
        go_wp2
        go_ret
        exact ⟨rfl, k9.below⟩
      · have CB := Lib.hid (fun W => CT.out.2 W hr2)
        clear CT
        go_enter Try.func10, Try.ntmps10
        go_wp2_with fail
        refine (CR.out _).mono ?_
        rintro e w1 ⟨rfl, n1⟩
        have k1 := hd_new n1 (.int .u64 B) (.int .u64 Lm) 26
        go_wp2_with fail
        refine (CZ.out _).mono ?_
        rintro e w2 ⟨rfl, n2⟩
        have k2 := k1.nx n2
        clear k1 n1 n2
        have f0 := k2.at w1.heap.size 0 (.int .u64 B) (by simp)
        have f1 := k2.at w1.heap.size 1 (.int .u64 Lm) (by simp)
        go_wp2_with fail
        refine (CU.out _).mono ?_
        rintro e w3 ⟨rfl, n3⟩
        have k3 := k2.nx n3
        clear f0 f1 k2 n3
        have f0 := k3.at w1.heap.size 0 (.int .u64 B) (by simp)
        have f1 := k3.at w1.heap.size 1 (.int .u64 Lm) (by simp)
        have hz := World.block_lt_of_cell? _ _ f0
        have k4 := hd_more k3 (.int .u64 (x + n)) (.int .u64 Lm) 26
        clear k3
        go_upto_region 6 with fail
        generalize w3.alloc (.cells #[.int .u64 (x + n), .int .u64 Lm] 26) = U at k4 ⊢
        clear f0 f1
        have p0 := k4.at w3.heap.size 0 (.int .u64 (x + n)) (by simp)
        have p1 := k4.at w3.heap.size 1 (.int .u64 Lm) (by simp)
        have p2 := k4.at w1.heap.size 0 (.int .u64 B) (by simp)
        have p3 := k4.at w1.heap.size 1 (.int .u64 Lm) (by simp)
        go_wp2_with fail
        refine (CL.out _).mono ?_
        rintro e w4 ⟨rfl, n4⟩
        have k5 := k4.nx n4
        clear p0 p1 p2 p3 k4 n4
        have p0 := k5.at w3.heap.size 0 (.int .u64 (x + n)) (by simp)
        have p1 := k5.at w3.heap.size 1 (.int .u64 Lm) (by simp)
        have p2 := k5.at w1.heap.size 0 (.int .u64 B) (by simp)
        have p3 := k5.at w1.heap.size 1 (.int .u64 Lm) (by simp)
        go_wp2_with fail
        refine (CB.out _).mono ?_
        rintro e w5 ⟨rfl, n5⟩
        have k6 := k5.nx n5
        clear p0 p1 p2 p3 k5 n5
        go_wp2
        go_ret
        exact ⟨rfl, k6.below.alloc k6.below.size _⟩
  · have CU := Lib.hid (fun W => CT.out.2 W hroom)
    have hlt : Lm < x + n := by omega
    clear CT hal
    go_enter Try.func10, Try.ntmps10
    go_wp2_with fail
    refine (CR.out _).mono ?_
    rintro e w1 ⟨rfl, n1⟩
    have k1 := hd_new n1 (.int .u64 B) (.int .u64 Lm) 26
    go_wp2_with fail
    refine (CZ.out _).mono ?_
    rintro e w2 ⟨rfl, n2⟩
    have k2 := k1.nx n2
    clear k1 n1 n2
    have f0 := k2.at w1.heap.size 0 (.int .u64 B) (by simp)
    have f1 := k2.at w1.heap.size 1 (.int .u64 Lm) (by simp)
    go_wp2_with fail
    refine (CU.out _).mono ?_
    rintro e w3 ⟨rfl, n3⟩
    have k3 := k2.nx n3
    clear f0 f1 k2 n3
    have f0 := k3.at w1.heap.size 0 (.int .u64 B) (by simp)
    have f1 := k3.at w1.heap.size 1 (.int .u64 Lm) (by simp)
    have hz := World.block_lt_of_cell? _ _ f0
    have k4 := hd_more k3 (.int .u64 B) (.int .u64 Lm) 26
    clear k3
    go_upto_region 5 with fail
    generalize w3.alloc (.cells #[.int .u64 B, .int .u64 Lm] 26) = U at k4 ⊢
    clear f0 f1
    have p2 := k4.at w1.heap.size 0 (.int .u64 B) (by simp)
    have p3 := k4.at w1.heap.size 1 (.int .u64 Lm) (by simp)
    refine wp_region_held_drew (S := fun w' => w'.cell? ⟨w3.heap.size, 0, none⟩ = some (.int .u64 B) ∧ w'.cell? ⟨w3.heap.size, 1, none⟩ = some (.int .u64 Lm) ∧ w'.cell? ⟨w1.heap.size, 0, none⟩ = some (.int .u64 B) ∧ w'.cell? ⟨w1.heap.size, 1, none⟩ = some (.int .u64 Lm) ∧ Hd w [(w3.heap.size, 0, .int .u64 B), (w3.heap.size, 1, .int .u64 Lm), (w1.heap.size, 0, .int .u64 B), (w1.heap.size, 1, .int .u64 Lm)] w') (by kernel_rfl) ?_ (fun hHeld => ?_)
    focus (have k := Hd.drew (w := w) (cs := [(w3.heap.size, 0, .int .u64 B), (w3.heap.size, 1, .int .u64 Lm), (w1.heap.size, 0, .int .u64 B), (w1.heap.size, 1, .int .u64 Lm)]) (by assumption); exact ⟨k.at (w3.heap.size) (0) (.int .u64 B) (by simp), k.at (w3.heap.size) (1) (.int .u64 Lm) (by simp), k.at (w1.heap.size) (0) (.int .u64 B) (by simp), k.at (w1.heap.size) (1) (.int .u64 Lm) (by simp), k⟩)
    (refine takeT (i := 0) (v := ?_) rfl ?_ (fun _ _ _ h => h) rfl hHeld ?_ ?_; rotate_left; (focus kernel_rfl); (focus (intro w hSw; (try dsimp only at hSw); go_simp; (try with_reducible rfl))); (try simp only [Act.put, List.setIfInBounds_toArray, List.set_cons_zero, List.set_cons_succ]))
    (refine takeT (i := 1) (v := ?_) rfl ?_ (fun _ _ _ h => h) rfl hHeld ?_ ?_; rotate_left; (focus kernel_rfl); (focus (intro w hSw; (try dsimp only at hSw); go_simp; (try with_reducible rfl))); (try simp only [Act.put, List.setIfInBounds_toArray, List.set_cons_zero, List.set_cons_succ]))
    (refine takeT (i := 2) (v := ?_) rfl ?_ (fun _ _ _ h => h) rfl hHeld ?_ ?_; rotate_left; (focus kernel_rfl); (focus (intro w hSw; (try dsimp only at hSw); go_simp; (try with_reducible rfl))); (try simp only [Act.put, List.setIfInBounds_toArray, List.set_cons_zero, List.set_cons_succ]))
    (refine takeT (i := 4) (v := ?_) rfl ?_ (fun _ _ _ h => h) rfl hHeld ?_ ?_; rotate_left; (focus kernel_rfl); (focus (intro w hSw; (try dsimp only at hSw); go_simp; (try with_reducible rfl))); (try simp only [Act.put, List.setIfInBounds_toArray, List.set_cons_zero, List.set_cons_succ]))
    (refine takeT (i := 6) (v := ?_) rfl ?_ (fun _ _ _ h => h) rfl hHeld ?_ ?_; rotate_left; (focus kernel_rfl); (focus (intro w hSw; (try dsimp only at hSw); go_simp; (try with_reducible rfl))); (try simp only [Act.put, List.setIfInBounds_toArray, List.set_cons_zero, List.set_cons_succ]))
    (refine takeT (i := 7) (v := ?_) rfl ?_ (fun _ _ _ h => h) rfl hHeld ?_ ?_; rotate_left; (focus kernel_rfl); (focus (intro w hSw; (try dsimp only at hSw); go_simp; (try with_reducible rfl))); (try simp only [Act.put, List.setIfInBounds_toArray, List.set_cons_zero, List.set_cons_succ]))
    (refine doOne (i := 3) rfl ?_ (fun K hK => ?_); (focus kernel_rfl))
    ((first | fail | go_simp); (first | ((first | first | (go_at_call 22; refine (CP.out _).mono ?_; rintro e wh ⟨rfl, nh⟩)); go_wp2_with fail) | skip); refine hK.out _ _ ?_ (fun hHeldN => ?_); (focus (have hq := hHeld; (try dsimp only at hq); have k := Hd.nx (w := w) (cs := [(w3.heap.size, 0, .int .u64 B), (w3.heap.size, 1, .int .u64 Lm), (w1.heap.size, 0, .int .u64 B), (w1.heap.size, 1, .int .u64 Lm)]) (by go_split_ands; assumption) (by assumption); exact ⟨k.at (w3.heap.size) (0) (.int .u64 B) (by simp), k.at (w3.heap.size) (1) (.int .u64 Lm) (by simp), k.at (w1.heap.size) (0) (.int .u64 B) (by simp), k.at (w1.heap.size) (1) (.int .u64 Lm) (by simp), k⟩)); clear hHeld hK K; have hHeld := hHeldN; clear hHeldN; (try simp only [Act.put, List.setIfInBounds_toArray, List.set_cons_zero, List.set_cons_succ]))
    (refine takeT (i := 5) (v := ?_) rfl ?_ (fun _ _ _ h => h) rfl hHeld ?_ ?_; rotate_left; (focus kernel_rfl); (focus (intro w hSw; (try dsimp only at hSw); go_simp; (try with_reducible rfl))); (try simp only [Act.put, List.setIfInBounds_toArray, List.set_cons_zero, List.set_cons_succ]))
    (refine takeT (i := 8) (v := ?_) rfl ?_ (fun _ _ _ h => h) rfl hHeld ?_ ?_; rotate_left; (focus kernel_rfl); (focus (intro w hSw; (try dsimp only at hSw); go_simp; (try with_reducible rfl))); (try simp only [Act.put, List.setIfInBounds_toArray, List.set_cons_zero, List.set_cons_succ]))
    (refine takeT (i := 9) (v := ?_) rfl ?_ (fun _ _ _ h => h) rfl hHeld ?_ ?_; rotate_left; (focus kernel_rfl); (focus (intro w hSw; (try dsimp only at hSw); go_simp; (try with_reducible rfl))); (try simp only [Act.put, List.setIfInBounds_toArray, List.set_cons_zero, List.set_cons_succ]))
    (refine wpAnyH_done (by kernel_rfl) ?_ _)
    obtain ⟨kc0, kc1, kc2, kc3, k⟩ := hHeld
    go_wp2
    go_ret
    exact ⟨rfl, k.below⟩

set_option maxRecDepth 100000 in
theorem lifted (os : Os) (started : os.Started) (H : Type) (enc : TypeId × Value → H) :
    ReturnsInHanded {} Try.checked os 10 .any (Rows.fnTakeBothSpec.pre6 enc Try.prog Try.f10 Rows.fnTakeBothRow.domain false) (Rows.fnTakeBothSpec.post enc Try.prog Try.f10 false true false false) := by
  refine returnsInHanded_of_change (C := Try.checked) own started (by kernel_rfl) Try.func10
    (ChangeSpec.witness6 (enc := enc) (C := Try.checked) false ⟨#[], #[.int .u64 0, .int .u64 0, .int .u64 0, .int .u8 0], []⟩ 8 (by kernel_rfl) (by kernel_rfl) (by kernel_rfl) (by kernel_rfl)) ?_
  intro W base args ds gs before hval0 hW hcnd _
  have hval : ∀ (j : Nat) t v, Try.f10.params[j]? = some t → args[j]? = some v → Value.okWide Try.prog W .any base t v := hval0
  have hW' := hW
  obtain ⟨p, q, hA0, hV, rfl, hfz, hnd⟩ := hW
  have hA : DataW.TrodAll enc Try.prog W 0 (fun _ => true) true Try.f10.params.toList args.toList ds p := hA0
  rw [Try.params10] at hA hval
  obtain ⟨v0, vs0, d0, ds0, p0, q0, hargs, rfl, rfl, h0, r0⟩ := trodAll_cons hA
  obtain ⟨v1, vs1, d1, ds1, p1, q1, rfl, rfl, rfl, h1, r1⟩ := trodAll_cons r0
  obtain ⟨v2, vs2, d2, ds2, p2, q2, rfl, rfl, rfl, h2, r2⟩ := trodAll_cons r1
  obtain ⟨v3, vs3, d3, ds3, p3, q3, rfl, rfl, rfl, h3, r3⟩ := trodAll_cons r2
  obtain ⟨rfl, rfl, rfl⟩ := trodAll_nil r3
  obtain rfl : args = #[v0, v1, v2, v3] := by cases args; simp_all
  obtain ⟨rfl, rfl⟩ := trodVars_none hV
  obtain ⟨a0, rfl, rfl, rfl, w0⟩ := open_int Try.underlying22 (hval 0 22 v0 rfl rfl) h0
  obtain ⟨a1, rfl, rfl, rfl, w1⟩ := open_int Try.underlying22 (hval 1 22 v1 rfl rfl) h1
  obtain ⟨a2, rfl, rfl, rfl, w2⟩ := open_int Try.underlying22 (hval 2 22 v2 rfl rfl) h2
  obtain ⟨a3, rfl, rfl, rfl, w3⟩ := open_int Try.underlying5 (hval 3 5 v3 rfl rfl) h3
  clear hA0 hval0
  refine (walk a0 a1 a2 a3 W w0 w1 w2 w3).mono fun e W' ⟨he, bel⟩ => ?_
  subst he
  exact ⟨_, rfl, _, _, _, [], _, [], hW', trodAll_mk1 (shut_bool Try.underlying4 _), (trodAll_cons_mk (shut_int Try.underlying22 w0) (trodAll_cons_mk (shut_int Try.underlying22 w1) (trodAll_cons_mk (shut_int Try.underlying22 w2) (trodAll_cons_mk (shut_int Try.underlying5 w3) trodAll_mk0)))), rfl, Below.frame bel _, fun h => by cases h⟩
theorem over : Rows.fnTakeBothRow.holds Try.pinned (OpenSpec.ofChange Rows.fnTakeBothSpec) :=
  OpenClaim.holds_of_wide 10 Try.f10 rfl rfl rfl rfl rfl rfl rfl ⟨rfl, rfl, rfl, rfl, rfl⟩ rfl rfl rfl rfl rfl (by kernel_rfl) Try.func10 (by kernel_rfl)
    (of_decide_eq_true (by kernel_rfl)) (by unfold Func.isWrapper; first | (rw [if_pos (by decide +kernel)]; kernel_rfl) | (rw [if_neg (by decide +kernel)]; exact ⟨rfl, rfl⟩))
    (fun os started H enc _ => lifted os started H enc)
theorem proved : Rows.FnTakeBothSaid := over
#print axioms proved
end Go.Proofs.Ytjhchjocaafakaa.fnTakeBoth
