/- FnExactSubtract: for every five numbers, the range of the first two without the one of the next two (which is the same, apart from it, or has just one of its ends) has its addresses that are not in the other one, and so many. No condition. -/
import Derived.Test.YtjhchjocaafakaaRows
import Derived.Test.YtjhchjocaafakaaSu
import Derived.Deep.DeepCutAuto
import Derived.ProofKit
import Derived.OpenShut
namespace Go.Proofs.Ytjhchjocaafakaa.fnExactSubtract
open Go.ChangeShapes Go.WideShapes Go.ChangeAt Go.RowKit
set_option linter.unusedVariables false
set_option linter.unusedSimpArgs false
theorem own : ownKnob Try.prog.godebug = none := by kernel_rfl

set_option maxHeartbeats 6000000 in
theorem walkA (a0 a1 a2 a3 a4 : Int) (w : World) (h0 : 0 ≤ a0) (h1 : 0 ≤ a1) (h2 : 0 ≤ a2) (h3 : 0 ≤ a3) (h4 : 0 ≤ a4) (hc : (rgB a2 a3 ≤ rgB a0 a1) ∧ rgL a2 a3 < rgL a0 a1) :
    Calls Try.prog 9 #[.int .u64 a0, .int .u64 a1, .int .u64 a2, .int .u64 a3, .int .u64 a4] w fun e w' => e = .returned (.bool true) ∧ Nx w w' := by
  obtain ⟨r1, r2, r3⟩ := rg_in a0 a1
  obtain ⟨s1, s2, s3⟩ := rg_in a2 a3
  have b4 : 0 ≤ a4 % 1099511627776 ∧ a4 % 1099511627776 < 1099511627776 := by omega
  have CR := Lib.hid (fun W => sRange_any a0 a1 W h0 h1)
  have CQ := Lib.hid (fun W => sRange_any a2 a3 W h2 h3)
  have CA := Lib.hid (fun W => sAddr_any a4 W h4)
  generalize rgB a0 a1 = ab at *
  generalize rgL a0 a1 = al at *
  generalize rgB a2 a3 = bb at *
  generalize rgL a2 a3 = bl at *
  generalize a4 % 1099511627776 = x at *
  obtain ⟨c1, c2⟩ := hc
  have c3 : ¬ ab < bb := by omega
  have c4 : ¬ al ≤ bl := by omega
  have e2 : (al == bl) = false := by rw [beq_eq_false_iff_ne]; omega
  have hcase : (bb ≤ ab ∧ bl < al) ∨ (ab < bb ∧ al ≤ bl) ∨ (ab = bb ∧ al = bl) := .inl ⟨c1, c2⟩
  have hb := fun x => sb_has (x := x) r2 s2 hcase
  have hz := sb_size r2 s2 hcase
  have hin := sb_in ab al bb bl (by omega) (by omega) (by omega) (by omega) (by omega) (by omega) (by omega) (by omega)
  have CS := Lib.hid (fun W => iSubtract_any ab al bb bl W (by omega) (by omega) (by omega) (by omega) (by omega) (by omega) (by omega) (by omega) (by omega))
  replace hb := hb x
  rw [if_neg c3, if_pos c2] at hz
  generalize sbB ab al bb bl = b2 at CS hb hz hin
  generalize sbL ab al bb bl = l2 at CS hb hz hin
  have CC := Lib.hid (fun W => iContains_any b2 l2 x W (by omega) (by omega) (by omega) (by omega) (by omega) (by omega))
  have CH := Lib.hid (fun W => sHas_any ab al x W)
  have CJ := Lib.hid (fun W => sHas_any bb bl x W)
  have CZ := Lib.hid (fun W => iSize_any b2 l2 W (by omega) (by omega) (by omega) (by omega))
  have CY := Lib.hid (fun W => sSize_any ab al W (by omega) (by omega) (by omega) (by omega))
  have CW := Lib.hid (fun W => sSize_any ab bl W (by omega) (by omega) (by omega) (by omega))
  have hzz : 0 ≤ szI b2 l2 ∧ szI b2 l2 < 4398046511104 := by unfold szI; split <;> omega
  have hw : IntKind.u64.wrap (szI ab al - szI ab bl) = szI b2 l2 := by rw [hz]; exact IntWalk.u64_in _ (by omega)
  have hq : (szI b2 l2 == szI b2 l2) = true := by simp
  clear hz hcase hin
  generalize szI b2 l2 = z2v at *
  generalize szI ab al = zr at *
  generalize szI ab bl = zm at *
  rcases hr : hasB ab al x with _ | _
  · rw [hr, Bool.false_and] at hb
    rw [hb] at CC
    rw [hr] at CH
    have q1 : (false == false) = true := rfl
    clear hr hb
    go_enter Try.func9, Try.ntmps9
    go_wp2_with fail
    refine (CR.out _).mono ?_
    rintro e w1 ⟨rfl, n1⟩
    go_wp2_with fail
    refine (CQ.out _).mono ?_
    rintro e w2 ⟨rfl, n2⟩
    have k1 := hd_new (bl_step n2 n1 (Below.size n1)) (.int .u64 ab) (.int .u64 al) 26
    have k2 := hd_more k1 (.int .u64 bb) (.int .u64 bl) 26
    simp only [World.size_alloc] at k2
    clear k1
    go_wp2_with fail
    refine (CA.out _).mono ?_
    rintro e w3 ⟨rfl, rfl⟩
    have p0 := k2.at w2.heap.size 0 (.int .u64 ab) (by simp)
    have p1 := k2.at w2.heap.size 1 (.int .u64 al) (by simp)
    have p2 := k2.at (w2.heap.size + 1) 0 (.int .u64 bb) (by simp)
    have p3 := k2.at (w2.heap.size + 1) 1 (.int .u64 bl) (by simp)
    go_upto_region 2 with fail
    generalize (w2.alloc (.cells #[.int .u64 ab, .int .u64 al] 26)).alloc (.cells #[.int .u64 bb, .int .u64 bl] 26) = U at k2 p0 p1 p2 p3 ⊢
    go_wp2_with fail
    refine (CS.out _).mono ?_
    rintro e w5 ⟨rfl, n5⟩
    replace k2 := k2.nx n5
    clear p0 p1 p2 p3
    have p0 := k2.at w2.heap.size 0 (.int .u64 ab) (by simp)
    have p1 := k2.at w2.heap.size 1 (.int .u64 al) (by simp)
    have p2 := k2.at (w2.heap.size + 1) 0 (.int .u64 bb) (by simp)
    have p3 := k2.at (w2.heap.size + 1) 1 (.int .u64 bl) (by simp)
    have z0 := World.block_lt_of_cell? _ _ p0
    have z2 := World.block_lt_of_cell? _ _ p2
    have k3 := hd_more k2 (.int .u64 b2) (.int .u64 l2) 26
    clear k2
    go_upto_region 7 with fail
    generalize w5.alloc (.cells #[.int .u64 b2, .int .u64 l2] 26) = V at k3 ⊢
    clear p0 p1 p2 p3
    have p0 := k3.at w2.heap.size 0 (.int .u64 ab) (by simp)
    have p1 := k3.at w2.heap.size 1 (.int .u64 al) (by simp)
    have p2 := k3.at (w2.heap.size + 1) 0 (.int .u64 bb) (by simp)
    have p3 := k3.at (w2.heap.size + 1) 1 (.int .u64 bl) (by simp)
    have k4 := hd_more k3 (.int .u64 ab) (.int .u64 bl) 26
    clear k3
    go_upto_region 8 with fail
    generalize V.alloc (.cells #[.int .u64 ab, .int .u64 bl] 26) = X at k4 ⊢
    clear p0 p1 p2 p3
    have p0 := k4.at w2.heap.size 0 (.int .u64 ab) (by simp)
    have p1 := k4.at w2.heap.size 1 (.int .u64 al) (by simp)
    have p2 := k4.at (w2.heap.size + 1) 0 (.int .u64 bb) (by simp)
    have p3 := k4.at (w2.heap.size + 1) 1 (.int .u64 bl) (by simp)
    have p4 := k4.at w5.heap.size 0 (.int .u64 b2) (by simp)
    have p5 := k4.at w5.heap.size 1 (.int .u64 l2) (by simp)
    have p6 := k4.at V.heap.size 0 (.int .u64 ab) (by simp)
    have p7 := k4.at V.heap.size 1 (.int .u64 bl) (by simp)
    refine wp_region_held_drew (S := fun w' => w'.cell? ⟨V.heap.size, 0, none⟩ = some (.int .u64 ab) ∧ w'.cell? ⟨V.heap.size, 1, none⟩ = some (.int .u64 bl) ∧ w'.cell? ⟨w5.heap.size, 0, none⟩ = some (.int .u64 b2) ∧ w'.cell? ⟨w5.heap.size, 1, none⟩ = some (.int .u64 l2) ∧ w'.cell? ⟨w2.heap.size + 1, 0, none⟩ = some (.int .u64 bb) ∧ w'.cell? ⟨w2.heap.size + 1, 1, none⟩ = some (.int .u64 bl) ∧ w'.cell? ⟨w2.heap.size, 0, none⟩ = some (.int .u64 ab) ∧ w'.cell? ⟨w2.heap.size, 1, none⟩ = some (.int .u64 al) ∧ Hd w [(V.heap.size, 0, .int .u64 ab), (V.heap.size, 1, .int .u64 bl), (w5.heap.size, 0, .int .u64 b2), (w5.heap.size, 1, .int .u64 l2), (w2.heap.size + 1, 0, .int .u64 bb), (w2.heap.size + 1, 1, .int .u64 bl), (w2.heap.size, 0, .int .u64 ab), (w2.heap.size, 1, .int .u64 al)] w') (by kernel_rfl) ?_ (fun hHeld => ?_)
    focus (have k := Hd.drew (w := w) (cs := [(V.heap.size, 0, .int .u64 ab), (V.heap.size, 1, .int .u64 bl), (w5.heap.size, 0, .int .u64 b2), (w5.heap.size, 1, .int .u64 l2), (w2.heap.size + 1, 0, .int .u64 bb), (w2.heap.size + 1, 1, .int .u64 bl), (w2.heap.size, 0, .int .u64 ab), (w2.heap.size, 1, .int .u64 al)]) (by assumption); exact ⟨k.at (V.heap.size) (0) (.int .u64 ab) (by simp), k.at (V.heap.size) (1) (.int .u64 bl) (by simp), k.at (w5.heap.size) (0) (.int .u64 b2) (by simp), k.at (w5.heap.size) (1) (.int .u64 l2) (by simp), k.at (w2.heap.size + 1) (0) (.int .u64 bb) (by simp), k.at (w2.heap.size + 1) (1) (.int .u64 bl) (by simp), k.at (w2.heap.size) (0) (.int .u64 ab) (by simp), k.at (w2.heap.size) (1) (.int .u64 al) (by simp), k⟩)
    (refine takeT (i := 0) (v := ?_) rfl ?_ (fun _ _ _ h => h) rfl hHeld ?_ ?_; rotate_left; (focus kernel_rfl); (focus (intro w hSw; (try dsimp only at hSw); go_simp; (try with_reducible rfl))); (try simp only [Act.put, List.setIfInBounds_toArray, List.set_cons_zero, List.set_cons_succ]))
    (refine takeT (i := 1) (v := ?_) rfl ?_ (fun _ _ _ h => h) rfl hHeld ?_ ?_; rotate_left; (focus kernel_rfl); (focus (intro w hSw; (try dsimp only at hSw); go_simp; (try with_reducible rfl))); (try simp only [Act.put, List.setIfInBounds_toArray, List.set_cons_zero, List.set_cons_succ]))
    (refine takeT (i := 3) (v := ?_) rfl ?_ (fun _ _ _ h => h) rfl hHeld ?_ ?_; rotate_left; (focus kernel_rfl); (focus (intro w hSw; (try dsimp only at hSw); go_simp; (try with_reducible rfl))); (try simp only [Act.put, List.setIfInBounds_toArray, List.set_cons_zero, List.set_cons_succ]))
    (refine takeT (i := 4) (v := ?_) rfl ?_ (fun _ _ _ h => h) rfl hHeld ?_ ?_; rotate_left; (focus kernel_rfl); (focus (intro w hSw; (try dsimp only at hSw); go_simp; (try with_reducible rfl))); (try simp only [Act.put, List.setIfInBounds_toArray, List.set_cons_zero, List.set_cons_succ]))
    (refine doOne (i := 2) rfl ?_ (fun K hK => ?_); (focus kernel_rfl))
    ((first | fail | go_simp); (first | ((first | first | (go_at_call 15; (with_reducible refine (CC.out _).mono ?_); rintro e wh ⟨rfl, nh⟩) | (go_at_call 16; first | ((with_reducible refine (CH.out _).mono ?_); rintro e wh ⟨rfl, nh⟩) | ((with_reducible refine (CJ.out _).mono ?_); rintro e wh ⟨rfl, nh⟩)) | (go_at_call 18; (with_reducible refine (CZ.out _).mono ?_); rintro e wh ⟨rfl, nh⟩) | (go_at_call 19; first | ((with_reducible refine (CY.out _).mono ?_); rintro e wh ⟨rfl, nh⟩) | ((with_reducible refine (CW.out _).mono ?_); rintro e wh ⟨rfl, nh⟩))); go_wp2_with fail) | skip); refine hK.out _ _ ?_ (fun hHeldN => ?_); (focus (have hq := hHeld; (try dsimp only at hq); have k := Hd.nx (w := w) (cs := [(V.heap.size, 0, .int .u64 ab), (V.heap.size, 1, .int .u64 bl), (w5.heap.size, 0, .int .u64 b2), (w5.heap.size, 1, .int .u64 l2), (w2.heap.size + 1, 0, .int .u64 bb), (w2.heap.size + 1, 1, .int .u64 bl), (w2.heap.size, 0, .int .u64 ab), (w2.heap.size, 1, .int .u64 al)]) (by go_split_ands; assumption) (by assumption); exact ⟨k.at (V.heap.size) (0) (.int .u64 ab) (by simp), k.at (V.heap.size) (1) (.int .u64 bl) (by simp), k.at (w5.heap.size) (0) (.int .u64 b2) (by simp), k.at (w5.heap.size) (1) (.int .u64 l2) (by simp), k.at (w2.heap.size + 1) (0) (.int .u64 bb) (by simp), k.at (w2.heap.size + 1) (1) (.int .u64 bl) (by simp), k.at (w2.heap.size) (0) (.int .u64 ab) (by simp), k.at (w2.heap.size) (1) (.int .u64 al) (by simp), k⟩)); clear hHeld hK K; have hHeld := hHeldN; clear hHeldN; (try simp only [Act.put, List.setIfInBounds_toArray, List.set_cons_zero, List.set_cons_succ]))
    (refine doOne (i := 5) rfl ?_ (fun K hK => ?_); (focus kernel_rfl))
    ((first | fail | go_simp); (first | ((first | first | (go_at_call 15; (with_reducible refine (CC.out _).mono ?_); rintro e wh ⟨rfl, nh⟩) | (go_at_call 16; first | ((with_reducible refine (CH.out _).mono ?_); rintro e wh ⟨rfl, nh⟩) | ((with_reducible refine (CJ.out _).mono ?_); rintro e wh ⟨rfl, nh⟩)) | (go_at_call 18; (with_reducible refine (CZ.out _).mono ?_); rintro e wh ⟨rfl, nh⟩) | (go_at_call 19; first | ((with_reducible refine (CY.out _).mono ?_); rintro e wh ⟨rfl, nh⟩) | ((with_reducible refine (CW.out _).mono ?_); rintro e wh ⟨rfl, nh⟩))); go_wp2_with fail) | skip); refine hK.out _ _ ?_ (fun hHeldN => ?_); (focus (have hq := hHeld; (try dsimp only at hq); have k := Hd.nx (w := w) (cs := [(V.heap.size, 0, .int .u64 ab), (V.heap.size, 1, .int .u64 bl), (w5.heap.size, 0, .int .u64 b2), (w5.heap.size, 1, .int .u64 l2), (w2.heap.size + 1, 0, .int .u64 bb), (w2.heap.size + 1, 1, .int .u64 bl), (w2.heap.size, 0, .int .u64 ab), (w2.heap.size, 1, .int .u64 al)]) (by go_split_ands; assumption) (by assumption); exact ⟨k.at (V.heap.size) (0) (.int .u64 ab) (by simp), k.at (V.heap.size) (1) (.int .u64 bl) (by simp), k.at (w5.heap.size) (0) (.int .u64 b2) (by simp), k.at (w5.heap.size) (1) (.int .u64 l2) (by simp), k.at (w2.heap.size + 1) (0) (.int .u64 bb) (by simp), k.at (w2.heap.size + 1) (1) (.int .u64 bl) (by simp), k.at (w2.heap.size) (0) (.int .u64 ab) (by simp), k.at (w2.heap.size) (1) (.int .u64 al) (by simp), k⟩)); clear hHeld hK K; have hHeld := hHeldN; clear hHeldN; (try simp only [Act.put, List.setIfInBounds_toArray, List.set_cons_zero, List.set_cons_succ]))
    (refine takeT (i := 6) (v := ?_) rfl ?_ (fun _ _ _ h => h) rfl hHeld ?_ ?_; rotate_left; (focus kernel_rfl); (focus (intro w hSw; (try dsimp only at hSw); go_simp; (try with_reducible rfl))); (try simp only [Act.put, List.setIfInBounds_toArray, List.set_cons_zero, List.set_cons_succ]))
    (refine takeF (i := 7) rfl ?_ (fun _ _ _ h => h) rfl hHeld ?_; (focus kernel_rfl); (try simp only [Act.put, List.setIfInBounds_toArray, List.set_cons_zero, List.set_cons_succ]))
    (refine takeF (i := 8) rfl ?_ (fun _ _ _ h => h) rfl hHeld ?_; (focus kernel_rfl); (try simp only [Act.put, List.setIfInBounds_toArray, List.set_cons_zero, List.set_cons_succ]))
    (refine takeF (i := 9) rfl ?_ (fun _ _ _ h => h) rfl hHeld ?_; (focus kernel_rfl); (try simp only [Act.put, List.setIfInBounds_toArray, List.set_cons_zero, List.set_cons_succ]))
    (refine takeF (i := 10) rfl ?_ (fun _ _ _ h => h) rfl hHeld ?_; (focus kernel_rfl); (try simp only [Act.put, List.setIfInBounds_toArray, List.set_cons_zero, List.set_cons_succ]))
    (refine takeT (i := 11) (v := ?_) rfl ?_ (fun _ _ _ h => h) rfl hHeld ?_ ?_; rotate_left; (focus kernel_rfl); (focus (intro w hSw; (try dsimp only at hSw); go_simp; (try with_reducible rfl))); (try simp only [Act.put, List.setIfInBounds_toArray, List.set_cons_zero, List.set_cons_succ]))
    (refine takeT (i := 12) (v := ?_) rfl ?_ (fun _ _ _ h => h) rfl hHeld ?_ ?_; rotate_left; (focus kernel_rfl); (focus (intro w hSw; (try dsimp only at hSw); go_simp; (try with_reducible rfl))); (try simp only [Act.put, List.setIfInBounds_toArray, List.set_cons_zero, List.set_cons_succ]))
    (refine takeT (i := 13) (v := ?_) rfl ?_ (fun _ _ _ h => h) rfl hHeld ?_ ?_; rotate_left; (focus kernel_rfl); (focus (intro w hSw; (try dsimp only at hSw); go_simp; (try with_reducible rfl))); (try simp only [Act.put, List.setIfInBounds_toArray, List.set_cons_zero, List.set_cons_succ]))
    (refine takeT (i := 14) (v := ?_) rfl ?_ (fun _ _ _ h => h) rfl hHeld ?_ ?_; rotate_left; (focus kernel_rfl); (focus (intro w hSw; (try dsimp only at hSw); go_simp; (try with_reducible rfl))); (try simp only [Act.put, List.setIfInBounds_toArray, List.set_cons_zero, List.set_cons_succ]))
    (refine takeT (i := 16) (v := ?_) rfl ?_ (fun _ _ _ h => h) rfl hHeld ?_ ?_; rotate_left; (focus kernel_rfl); (focus (intro w hSw; (try dsimp only at hSw); go_simp; (try with_reducible rfl))); (try simp only [Act.put, List.setIfInBounds_toArray, List.set_cons_zero, List.set_cons_succ]))
    (refine takeT (i := 18) (v := ?_) rfl ?_ (fun _ _ _ h => h) rfl hHeld ?_ ?_; rotate_left; (focus kernel_rfl); (focus (intro w hSw; (try dsimp only at hSw); go_simp; (try with_reducible rfl))); (try simp only [Act.put, List.setIfInBounds_toArray, List.set_cons_zero, List.set_cons_succ]))
    (refine doOne (i := 15) rfl ?_ (fun K hK => ?_); (focus kernel_rfl))
    ((first | fail | go_simp); (first | ((first | first | (go_at_call 15; (with_reducible refine (CC.out _).mono ?_); rintro e wh ⟨rfl, nh⟩) | (go_at_call 16; first | ((with_reducible refine (CH.out _).mono ?_); rintro e wh ⟨rfl, nh⟩) | ((with_reducible refine (CJ.out _).mono ?_); rintro e wh ⟨rfl, nh⟩)) | (go_at_call 18; (with_reducible refine (CZ.out _).mono ?_); rintro e wh ⟨rfl, nh⟩) | (go_at_call 19; first | ((with_reducible refine (CY.out _).mono ?_); rintro e wh ⟨rfl, nh⟩) | ((with_reducible refine (CW.out _).mono ?_); rintro e wh ⟨rfl, nh⟩))); go_wp2_with fail) | skip); refine hK.out _ _ ?_ (fun hHeldN => ?_); (focus (have hq := hHeld; (try dsimp only at hq); have k := Hd.nx (w := w) (cs := [(V.heap.size, 0, .int .u64 ab), (V.heap.size, 1, .int .u64 bl), (w5.heap.size, 0, .int .u64 b2), (w5.heap.size, 1, .int .u64 l2), (w2.heap.size + 1, 0, .int .u64 bb), (w2.heap.size + 1, 1, .int .u64 bl), (w2.heap.size, 0, .int .u64 ab), (w2.heap.size, 1, .int .u64 al)]) (by go_split_ands; assumption) (by assumption); exact ⟨k.at (V.heap.size) (0) (.int .u64 ab) (by simp), k.at (V.heap.size) (1) (.int .u64 bl) (by simp), k.at (w5.heap.size) (0) (.int .u64 b2) (by simp), k.at (w5.heap.size) (1) (.int .u64 l2) (by simp), k.at (w2.heap.size + 1) (0) (.int .u64 bb) (by simp), k.at (w2.heap.size + 1) (1) (.int .u64 bl) (by simp), k.at (w2.heap.size) (0) (.int .u64 ab) (by simp), k.at (w2.heap.size) (1) (.int .u64 al) (by simp), k⟩)); clear hHeld hK K; have hHeld := hHeldN; clear hHeldN; (try simp only [Act.put, List.setIfInBounds_toArray, List.set_cons_zero, List.set_cons_succ]))
    (refine doOne (i := 17) rfl ?_ (fun K hK => ?_); (focus kernel_rfl))
    ((first | fail | go_simp); (first | ((first | first | (go_at_call 15; (with_reducible refine (CC.out _).mono ?_); rintro e wh ⟨rfl, nh⟩) | (go_at_call 16; first | ((with_reducible refine (CH.out _).mono ?_); rintro e wh ⟨rfl, nh⟩) | ((with_reducible refine (CJ.out _).mono ?_); rintro e wh ⟨rfl, nh⟩)) | (go_at_call 18; (with_reducible refine (CZ.out _).mono ?_); rintro e wh ⟨rfl, nh⟩) | (go_at_call 19; first | ((with_reducible refine (CY.out _).mono ?_); rintro e wh ⟨rfl, nh⟩) | ((with_reducible refine (CW.out _).mono ?_); rintro e wh ⟨rfl, nh⟩))); go_wp2_with fail) | skip); refine hK.out _ _ ?_ (fun hHeldN => ?_); (focus (have hq := hHeld; (try dsimp only at hq); have k := Hd.nx (w := w) (cs := [(V.heap.size, 0, .int .u64 ab), (V.heap.size, 1, .int .u64 bl), (w5.heap.size, 0, .int .u64 b2), (w5.heap.size, 1, .int .u64 l2), (w2.heap.size + 1, 0, .int .u64 bb), (w2.heap.size + 1, 1, .int .u64 bl), (w2.heap.size, 0, .int .u64 ab), (w2.heap.size, 1, .int .u64 al)]) (by go_split_ands; assumption) (by assumption); exact ⟨k.at (V.heap.size) (0) (.int .u64 ab) (by simp), k.at (V.heap.size) (1) (.int .u64 bl) (by simp), k.at (w5.heap.size) (0) (.int .u64 b2) (by simp), k.at (w5.heap.size) (1) (.int .u64 l2) (by simp), k.at (w2.heap.size + 1) (0) (.int .u64 bb) (by simp), k.at (w2.heap.size + 1) (1) (.int .u64 bl) (by simp), k.at (w2.heap.size) (0) (.int .u64 ab) (by simp), k.at (w2.heap.size) (1) (.int .u64 al) (by simp), k⟩)); clear hHeld hK K; have hHeld := hHeldN; clear hHeldN; (try simp only [Act.put, List.setIfInBounds_toArray, List.set_cons_zero, List.set_cons_succ]))
    (refine doOne (i := 19) rfl ?_ (fun K hK => ?_); (focus kernel_rfl))
    ((first | fail | go_simp); (first | ((first | first | (go_at_call 15; (with_reducible refine (CC.out _).mono ?_); rintro e wh ⟨rfl, nh⟩) | (go_at_call 16; first | ((with_reducible refine (CH.out _).mono ?_); rintro e wh ⟨rfl, nh⟩) | ((with_reducible refine (CJ.out _).mono ?_); rintro e wh ⟨rfl, nh⟩)) | (go_at_call 18; (with_reducible refine (CZ.out _).mono ?_); rintro e wh ⟨rfl, nh⟩) | (go_at_call 19; first | ((with_reducible refine (CY.out _).mono ?_); rintro e wh ⟨rfl, nh⟩) | ((with_reducible refine (CW.out _).mono ?_); rintro e wh ⟨rfl, nh⟩))); go_wp2_with fail) | skip); refine hK.out _ _ ?_ (fun hHeldN => ?_); (focus (have hq := hHeld; (try dsimp only at hq); have k := Hd.nx (w := w) (cs := [(V.heap.size, 0, .int .u64 ab), (V.heap.size, 1, .int .u64 bl), (w5.heap.size, 0, .int .u64 b2), (w5.heap.size, 1, .int .u64 l2), (w2.heap.size + 1, 0, .int .u64 bb), (w2.heap.size + 1, 1, .int .u64 bl), (w2.heap.size, 0, .int .u64 ab), (w2.heap.size, 1, .int .u64 al)]) (by go_split_ands; assumption) (by assumption); exact ⟨k.at (V.heap.size) (0) (.int .u64 ab) (by simp), k.at (V.heap.size) (1) (.int .u64 bl) (by simp), k.at (w5.heap.size) (0) (.int .u64 b2) (by simp), k.at (w5.heap.size) (1) (.int .u64 l2) (by simp), k.at (w2.heap.size + 1) (0) (.int .u64 bb) (by simp), k.at (w2.heap.size + 1) (1) (.int .u64 bl) (by simp), k.at (w2.heap.size) (0) (.int .u64 ab) (by simp), k.at (w2.heap.size) (1) (.int .u64 al) (by simp), k⟩)); clear hHeld hK K; have hHeld := hHeldN; clear hHeldN; (try simp only [Act.put, List.setIfInBounds_toArray, List.set_cons_zero, List.set_cons_succ]))
    (refine takeT (i := 20) (v := ?_) rfl ?_ (fun _ _ _ h => h) rfl hHeld ?_ ?_; rotate_left; (focus kernel_rfl); (focus (intro w hSw; (try dsimp only at hSw); go_simp; (try with_reducible rfl))); (try simp only [Act.put, List.setIfInBounds_toArray, List.set_cons_zero, List.set_cons_succ]))
    (refine takeT (i := 21) (v := ?_) rfl ?_ (fun _ _ _ h => h) rfl hHeld ?_ ?_; rotate_left; (focus kernel_rfl); (focus (intro w hSw; (try dsimp only at hSw); go_simp; (try with_reducible rfl))); (try simp only [Act.put, List.setIfInBounds_toArray, List.set_cons_zero, List.set_cons_succ]))
    (refine takeT (i := 22) (v := ?_) rfl ?_ (fun _ _ _ h => h) rfl hHeld ?_ ?_; rotate_left; (focus kernel_rfl); (focus (intro w hSw; (try dsimp only at hSw); go_simp; (try with_reducible rfl))); (try simp only [Act.put, List.setIfInBounds_toArray, List.set_cons_zero, List.set_cons_succ]))
    (refine takeT (i := 23) (v := ?_) rfl ?_ (fun _ _ _ h => h) rfl hHeld ?_ ?_; rotate_left; (focus kernel_rfl); (focus (intro w hSw; (try dsimp only at hSw); go_simp; (try with_reducible rfl))); (try simp only [Act.put, List.setIfInBounds_toArray, List.set_cons_zero, List.set_cons_succ]))
    (refine wpAnyH_done (by kernel_rfl) ?_ _)
    obtain ⟨kc0, kc1, kc2, kc3, kc4, kc5, kc6, kc7, k⟩ := hHeld
    go_wp2
    go_ret
    exact ⟨rfl, k.below⟩
  · rcases hs2 : hasB bb bl x with _ | _
    · rw [hr, hs2] at hb
      replace hb : hasB b2 l2 x = true := by rw [hb]; rfl
      rw [hb] at CC
      rw [hr] at CH
      rw [hs2] at CJ
      have q1 : (true == true) = true := rfl
      clear hr hb hs2
      go_enter Try.func9, Try.ntmps9
      go_wp2_with fail
      refine (CR.out _).mono ?_
      rintro e w1 ⟨rfl, n1⟩
      go_wp2_with fail
      refine (CQ.out _).mono ?_
      rintro e w2 ⟨rfl, n2⟩
      have k1 := hd_new (bl_step n2 n1 (Below.size n1)) (.int .u64 ab) (.int .u64 al) 26
      have k2 := hd_more k1 (.int .u64 bb) (.int .u64 bl) 26
      simp only [World.size_alloc] at k2
      clear k1
      go_wp2_with fail
      refine (CA.out _).mono ?_
      rintro e w3 ⟨rfl, rfl⟩
      have p0 := k2.at w2.heap.size 0 (.int .u64 ab) (by simp)
      have p1 := k2.at w2.heap.size 1 (.int .u64 al) (by simp)
      have p2 := k2.at (w2.heap.size + 1) 0 (.int .u64 bb) (by simp)
      have p3 := k2.at (w2.heap.size + 1) 1 (.int .u64 bl) (by simp)
      go_upto_region 2 with fail
      generalize (w2.alloc (.cells #[.int .u64 ab, .int .u64 al] 26)).alloc (.cells #[.int .u64 bb, .int .u64 bl] 26) = U at k2 p0 p1 p2 p3 ⊢
      go_wp2_with fail
      refine (CS.out _).mono ?_
      rintro e w5 ⟨rfl, n5⟩
      replace k2 := k2.nx n5
      clear p0 p1 p2 p3
      have p0 := k2.at w2.heap.size 0 (.int .u64 ab) (by simp)
      have p1 := k2.at w2.heap.size 1 (.int .u64 al) (by simp)
      have p2 := k2.at (w2.heap.size + 1) 0 (.int .u64 bb) (by simp)
      have p3 := k2.at (w2.heap.size + 1) 1 (.int .u64 bl) (by simp)
      have z0 := World.block_lt_of_cell? _ _ p0
      have z2 := World.block_lt_of_cell? _ _ p2
      have k3 := hd_more k2 (.int .u64 b2) (.int .u64 l2) 26
      clear k2
      go_upto_region 7 with fail
      generalize w5.alloc (.cells #[.int .u64 b2, .int .u64 l2] 26) = V at k3 ⊢
      clear p0 p1 p2 p3
      have p0 := k3.at w2.heap.size 0 (.int .u64 ab) (by simp)
      have p1 := k3.at w2.heap.size 1 (.int .u64 al) (by simp)
      have p2 := k3.at (w2.heap.size + 1) 0 (.int .u64 bb) (by simp)
      have p3 := k3.at (w2.heap.size + 1) 1 (.int .u64 bl) (by simp)
      have k4 := hd_more k3 (.int .u64 ab) (.int .u64 bl) 26
      clear k3
      go_upto_region 8 with fail
      generalize V.alloc (.cells #[.int .u64 ab, .int .u64 bl] 26) = X at k4 ⊢
      clear p0 p1 p2 p3
      have p0 := k4.at w2.heap.size 0 (.int .u64 ab) (by simp)
      have p1 := k4.at w2.heap.size 1 (.int .u64 al) (by simp)
      have p2 := k4.at (w2.heap.size + 1) 0 (.int .u64 bb) (by simp)
      have p3 := k4.at (w2.heap.size + 1) 1 (.int .u64 bl) (by simp)
      have p4 := k4.at w5.heap.size 0 (.int .u64 b2) (by simp)
      have p5 := k4.at w5.heap.size 1 (.int .u64 l2) (by simp)
      have p6 := k4.at V.heap.size 0 (.int .u64 ab) (by simp)
      have p7 := k4.at V.heap.size 1 (.int .u64 bl) (by simp)
      refine wp_region_held_drew (S := fun w' => w'.cell? ⟨V.heap.size, 0, none⟩ = some (.int .u64 ab) ∧ w'.cell? ⟨V.heap.size, 1, none⟩ = some (.int .u64 bl) ∧ w'.cell? ⟨w5.heap.size, 0, none⟩ = some (.int .u64 b2) ∧ w'.cell? ⟨w5.heap.size, 1, none⟩ = some (.int .u64 l2) ∧ w'.cell? ⟨w2.heap.size + 1, 0, none⟩ = some (.int .u64 bb) ∧ w'.cell? ⟨w2.heap.size + 1, 1, none⟩ = some (.int .u64 bl) ∧ w'.cell? ⟨w2.heap.size, 0, none⟩ = some (.int .u64 ab) ∧ w'.cell? ⟨w2.heap.size, 1, none⟩ = some (.int .u64 al) ∧ Hd w [(V.heap.size, 0, .int .u64 ab), (V.heap.size, 1, .int .u64 bl), (w5.heap.size, 0, .int .u64 b2), (w5.heap.size, 1, .int .u64 l2), (w2.heap.size + 1, 0, .int .u64 bb), (w2.heap.size + 1, 1, .int .u64 bl), (w2.heap.size, 0, .int .u64 ab), (w2.heap.size, 1, .int .u64 al)] w') (by kernel_rfl) ?_ (fun hHeld => ?_)
      focus (have k := Hd.drew (w := w) (cs := [(V.heap.size, 0, .int .u64 ab), (V.heap.size, 1, .int .u64 bl), (w5.heap.size, 0, .int .u64 b2), (w5.heap.size, 1, .int .u64 l2), (w2.heap.size + 1, 0, .int .u64 bb), (w2.heap.size + 1, 1, .int .u64 bl), (w2.heap.size, 0, .int .u64 ab), (w2.heap.size, 1, .int .u64 al)]) (by assumption); exact ⟨k.at (V.heap.size) (0) (.int .u64 ab) (by simp), k.at (V.heap.size) (1) (.int .u64 bl) (by simp), k.at (w5.heap.size) (0) (.int .u64 b2) (by simp), k.at (w5.heap.size) (1) (.int .u64 l2) (by simp), k.at (w2.heap.size + 1) (0) (.int .u64 bb) (by simp), k.at (w2.heap.size + 1) (1) (.int .u64 bl) (by simp), k.at (w2.heap.size) (0) (.int .u64 ab) (by simp), k.at (w2.heap.size) (1) (.int .u64 al) (by simp), k⟩)
      (refine takeT (i := 0) (v := ?_) rfl ?_ (fun _ _ _ h => h) rfl hHeld ?_ ?_; rotate_left; (focus kernel_rfl); (focus (intro w hSw; (try dsimp only at hSw); go_simp; (try with_reducible rfl))); (try simp only [Act.put, List.setIfInBounds_toArray, List.set_cons_zero, List.set_cons_succ]))
      (refine takeT (i := 1) (v := ?_) rfl ?_ (fun _ _ _ h => h) rfl hHeld ?_ ?_; rotate_left; (focus kernel_rfl); (focus (intro w hSw; (try dsimp only at hSw); go_simp; (try with_reducible rfl))); (try simp only [Act.put, List.setIfInBounds_toArray, List.set_cons_zero, List.set_cons_succ]))
      (refine takeT (i := 3) (v := ?_) rfl ?_ (fun _ _ _ h => h) rfl hHeld ?_ ?_; rotate_left; (focus kernel_rfl); (focus (intro w hSw; (try dsimp only at hSw); go_simp; (try with_reducible rfl))); (try simp only [Act.put, List.setIfInBounds_toArray, List.set_cons_zero, List.set_cons_succ]))
      (refine takeT (i := 4) (v := ?_) rfl ?_ (fun _ _ _ h => h) rfl hHeld ?_ ?_; rotate_left; (focus kernel_rfl); (focus (intro w hSw; (try dsimp only at hSw); go_simp; (try with_reducible rfl))); (try simp only [Act.put, List.setIfInBounds_toArray, List.set_cons_zero, List.set_cons_succ]))
      (refine doOne (i := 2) rfl ?_ (fun K hK => ?_); (focus kernel_rfl))
      ((first | fail | go_simp); (first | ((first | first | (go_at_call 15; (with_reducible refine (CC.out _).mono ?_); rintro e wh ⟨rfl, nh⟩) | (go_at_call 16; first | ((with_reducible refine (CH.out _).mono ?_); rintro e wh ⟨rfl, nh⟩) | ((with_reducible refine (CJ.out _).mono ?_); rintro e wh ⟨rfl, nh⟩)) | (go_at_call 18; (with_reducible refine (CZ.out _).mono ?_); rintro e wh ⟨rfl, nh⟩) | (go_at_call 19; first | ((with_reducible refine (CY.out _).mono ?_); rintro e wh ⟨rfl, nh⟩) | ((with_reducible refine (CW.out _).mono ?_); rintro e wh ⟨rfl, nh⟩))); go_wp2_with fail) | skip); refine hK.out _ _ ?_ (fun hHeldN => ?_); (focus (have hq := hHeld; (try dsimp only at hq); have k := Hd.nx (w := w) (cs := [(V.heap.size, 0, .int .u64 ab), (V.heap.size, 1, .int .u64 bl), (w5.heap.size, 0, .int .u64 b2), (w5.heap.size, 1, .int .u64 l2), (w2.heap.size + 1, 0, .int .u64 bb), (w2.heap.size + 1, 1, .int .u64 bl), (w2.heap.size, 0, .int .u64 ab), (w2.heap.size, 1, .int .u64 al)]) (by go_split_ands; assumption) (by assumption); exact ⟨k.at (V.heap.size) (0) (.int .u64 ab) (by simp), k.at (V.heap.size) (1) (.int .u64 bl) (by simp), k.at (w5.heap.size) (0) (.int .u64 b2) (by simp), k.at (w5.heap.size) (1) (.int .u64 l2) (by simp), k.at (w2.heap.size + 1) (0) (.int .u64 bb) (by simp), k.at (w2.heap.size + 1) (1) (.int .u64 bl) (by simp), k.at (w2.heap.size) (0) (.int .u64 ab) (by simp), k.at (w2.heap.size) (1) (.int .u64 al) (by simp), k⟩)); clear hHeld hK K; have hHeld := hHeldN; clear hHeldN; (try simp only [Act.put, List.setIfInBounds_toArray, List.set_cons_zero, List.set_cons_succ]))
      (refine doOne (i := 5) rfl ?_ (fun K hK => ?_); (focus kernel_rfl))
      ((first | fail | go_simp); (first | ((first | first | (go_at_call 15; (with_reducible refine (CC.out _).mono ?_); rintro e wh ⟨rfl, nh⟩) | (go_at_call 16; first | ((with_reducible refine (CH.out _).mono ?_); rintro e wh ⟨rfl, nh⟩) | ((with_reducible refine (CJ.out _).mono ?_); rintro e wh ⟨rfl, nh⟩)) | (go_at_call 18; (with_reducible refine (CZ.out _).mono ?_); rintro e wh ⟨rfl, nh⟩) | (go_at_call 19; first | ((with_reducible refine (CY.out _).mono ?_); rintro e wh ⟨rfl, nh⟩) | ((with_reducible refine (CW.out _).mono ?_); rintro e wh ⟨rfl, nh⟩))); go_wp2_with fail) | skip); refine hK.out _ _ ?_ (fun hHeldN => ?_); (focus (have hq := hHeld; (try dsimp only at hq); have k := Hd.nx (w := w) (cs := [(V.heap.size, 0, .int .u64 ab), (V.heap.size, 1, .int .u64 bl), (w5.heap.size, 0, .int .u64 b2), (w5.heap.size, 1, .int .u64 l2), (w2.heap.size + 1, 0, .int .u64 bb), (w2.heap.size + 1, 1, .int .u64 bl), (w2.heap.size, 0, .int .u64 ab), (w2.heap.size, 1, .int .u64 al)]) (by go_split_ands; assumption) (by assumption); exact ⟨k.at (V.heap.size) (0) (.int .u64 ab) (by simp), k.at (V.heap.size) (1) (.int .u64 bl) (by simp), k.at (w5.heap.size) (0) (.int .u64 b2) (by simp), k.at (w5.heap.size) (1) (.int .u64 l2) (by simp), k.at (w2.heap.size + 1) (0) (.int .u64 bb) (by simp), k.at (w2.heap.size + 1) (1) (.int .u64 bl) (by simp), k.at (w2.heap.size) (0) (.int .u64 ab) (by simp), k.at (w2.heap.size) (1) (.int .u64 al) (by simp), k⟩)); clear hHeld hK K; have hHeld := hHeldN; clear hHeldN; (try simp only [Act.put, List.setIfInBounds_toArray, List.set_cons_zero, List.set_cons_succ]))
      (refine takeT (i := 6) (v := ?_) rfl ?_ (fun _ _ _ h => h) rfl hHeld ?_ ?_; rotate_left; (focus kernel_rfl); (focus (intro w hSw; (try dsimp only at hSw); go_simp; (try with_reducible rfl))); (try simp only [Act.put, List.setIfInBounds_toArray, List.set_cons_zero, List.set_cons_succ]))
      (refine takeT (i := 7) (v := ?_) rfl ?_ (fun _ _ _ h => h) rfl hHeld ?_ ?_; rotate_left; (focus kernel_rfl); (focus (intro w hSw; (try dsimp only at hSw); go_simp; (try with_reducible rfl))); (try simp only [Act.put, List.setIfInBounds_toArray, List.set_cons_zero, List.set_cons_succ]))
      (refine takeT (i := 8) (v := ?_) rfl ?_ (fun _ _ _ h => h) rfl hHeld ?_ ?_; rotate_left; (focus kernel_rfl); (focus (intro w hSw; (try dsimp only at hSw); go_simp; (try with_reducible rfl))); (try simp only [Act.put, List.setIfInBounds_toArray, List.set_cons_zero, List.set_cons_succ]))
      (refine doOne (i := 9) rfl ?_ (fun K hK => ?_); (focus kernel_rfl))
      ((first | fail | go_simp); (first | ((first | first | (go_at_call 15; (with_reducible refine (CC.out _).mono ?_); rintro e wh ⟨rfl, nh⟩) | (go_at_call 16; first | ((with_reducible refine (CH.out _).mono ?_); rintro e wh ⟨rfl, nh⟩) | ((with_reducible refine (CJ.out _).mono ?_); rintro e wh ⟨rfl, nh⟩)) | (go_at_call 18; (with_reducible refine (CZ.out _).mono ?_); rintro e wh ⟨rfl, nh⟩) | (go_at_call 19; first | ((with_reducible refine (CY.out _).mono ?_); rintro e wh ⟨rfl, nh⟩) | ((with_reducible refine (CW.out _).mono ?_); rintro e wh ⟨rfl, nh⟩))); go_wp2_with fail) | skip); refine hK.out _ _ ?_ (fun hHeldN => ?_); (focus (have hq := hHeld; (try dsimp only at hq); have k := Hd.nx (w := w) (cs := [(V.heap.size, 0, .int .u64 ab), (V.heap.size, 1, .int .u64 bl), (w5.heap.size, 0, .int .u64 b2), (w5.heap.size, 1, .int .u64 l2), (w2.heap.size + 1, 0, .int .u64 bb), (w2.heap.size + 1, 1, .int .u64 bl), (w2.heap.size, 0, .int .u64 ab), (w2.heap.size, 1, .int .u64 al)]) (by go_split_ands; assumption) (by assumption); exact ⟨k.at (V.heap.size) (0) (.int .u64 ab) (by simp), k.at (V.heap.size) (1) (.int .u64 bl) (by simp), k.at (w5.heap.size) (0) (.int .u64 b2) (by simp), k.at (w5.heap.size) (1) (.int .u64 l2) (by simp), k.at (w2.heap.size + 1) (0) (.int .u64 bb) (by simp), k.at (w2.heap.size + 1) (1) (.int .u64 bl) (by simp), k.at (w2.heap.size) (0) (.int .u64 ab) (by simp), k.at (w2.heap.size) (1) (.int .u64 al) (by simp), k⟩)); clear hHeld hK K; have hHeld := hHeldN; clear hHeldN; (try simp only [Act.put, List.setIfInBounds_toArray, List.set_cons_zero, List.set_cons_succ]))
      (refine takeT (i := 10) (v := ?_) rfl ?_ (fun _ _ _ h => h) rfl hHeld ?_ ?_; rotate_left; (focus kernel_rfl); (focus (intro w hSw; (try dsimp only at hSw); go_simp; (try with_reducible rfl))); (try simp only [Act.put, List.setIfInBounds_toArray, List.set_cons_zero, List.set_cons_succ]))
      (refine takeT (i := 11) (v := ?_) rfl ?_ (fun _ _ _ h => h) rfl hHeld ?_ ?_; rotate_left; (focus kernel_rfl); (focus (intro w hSw; (try dsimp only at hSw); go_simp; (try with_reducible rfl))); (try simp only [Act.put, List.setIfInBounds_toArray, List.set_cons_zero, List.set_cons_succ]))
      (refine takeT (i := 12) (v := ?_) rfl ?_ (fun _ _ _ h => h) rfl hHeld ?_ ?_; rotate_left; (focus kernel_rfl); (focus (intro w hSw; (try dsimp only at hSw); go_simp; (try with_reducible rfl))); (try simp only [Act.put, List.setIfInBounds_toArray, List.set_cons_zero, List.set_cons_succ]))
      (refine takeT (i := 13) (v := ?_) rfl ?_ (fun _ _ _ h => h) rfl hHeld ?_ ?_; rotate_left; (focus kernel_rfl); (focus (intro w hSw; (try dsimp only at hSw); go_simp; (try with_reducible rfl))); (try simp only [Act.put, List.setIfInBounds_toArray, List.set_cons_zero, List.set_cons_succ]))
      (refine takeT (i := 14) (v := ?_) rfl ?_ (fun _ _ _ h => h) rfl hHeld ?_ ?_; rotate_left; (focus kernel_rfl); (focus (intro w hSw; (try dsimp only at hSw); go_simp; (try with_reducible rfl))); (try simp only [Act.put, List.setIfInBounds_toArray, List.set_cons_zero, List.set_cons_succ]))
      (refine takeT (i := 16) (v := ?_) rfl ?_ (fun _ _ _ h => h) rfl hHeld ?_ ?_; rotate_left; (focus kernel_rfl); (focus (intro w hSw; (try dsimp only at hSw); go_simp; (try with_reducible rfl))); (try simp only [Act.put, List.setIfInBounds_toArray, List.set_cons_zero, List.set_cons_succ]))
      (refine takeT (i := 18) (v := ?_) rfl ?_ (fun _ _ _ h => h) rfl hHeld ?_ ?_; rotate_left; (focus kernel_rfl); (focus (intro w hSw; (try dsimp only at hSw); go_simp; (try with_reducible rfl))); (try simp only [Act.put, List.setIfInBounds_toArray, List.set_cons_zero, List.set_cons_succ]))
      (refine doOne (i := 15) rfl ?_ (fun K hK => ?_); (focus kernel_rfl))
      ((first | fail | go_simp); (first | ((first | first | (go_at_call 15; (with_reducible refine (CC.out _).mono ?_); rintro e wh ⟨rfl, nh⟩) | (go_at_call 16; first | ((with_reducible refine (CH.out _).mono ?_); rintro e wh ⟨rfl, nh⟩) | ((with_reducible refine (CJ.out _).mono ?_); rintro e wh ⟨rfl, nh⟩)) | (go_at_call 18; (with_reducible refine (CZ.out _).mono ?_); rintro e wh ⟨rfl, nh⟩) | (go_at_call 19; first | ((with_reducible refine (CY.out _).mono ?_); rintro e wh ⟨rfl, nh⟩) | ((with_reducible refine (CW.out _).mono ?_); rintro e wh ⟨rfl, nh⟩))); go_wp2_with fail) | skip); refine hK.out _ _ ?_ (fun hHeldN => ?_); (focus (have hq := hHeld; (try dsimp only at hq); have k := Hd.nx (w := w) (cs := [(V.heap.size, 0, .int .u64 ab), (V.heap.size, 1, .int .u64 bl), (w5.heap.size, 0, .int .u64 b2), (w5.heap.size, 1, .int .u64 l2), (w2.heap.size + 1, 0, .int .u64 bb), (w2.heap.size + 1, 1, .int .u64 bl), (w2.heap.size, 0, .int .u64 ab), (w2.heap.size, 1, .int .u64 al)]) (by go_split_ands; assumption) (by assumption); exact ⟨k.at (V.heap.size) (0) (.int .u64 ab) (by simp), k.at (V.heap.size) (1) (.int .u64 bl) (by simp), k.at (w5.heap.size) (0) (.int .u64 b2) (by simp), k.at (w5.heap.size) (1) (.int .u64 l2) (by simp), k.at (w2.heap.size + 1) (0) (.int .u64 bb) (by simp), k.at (w2.heap.size + 1) (1) (.int .u64 bl) (by simp), k.at (w2.heap.size) (0) (.int .u64 ab) (by simp), k.at (w2.heap.size) (1) (.int .u64 al) (by simp), k⟩)); clear hHeld hK K; have hHeld := hHeldN; clear hHeldN; (try simp only [Act.put, List.setIfInBounds_toArray, List.set_cons_zero, List.set_cons_succ]))
      (refine doOne (i := 17) rfl ?_ (fun K hK => ?_); (focus kernel_rfl))
      ((first | fail | go_simp); (first | ((first | first | (go_at_call 15; (with_reducible refine (CC.out _).mono ?_); rintro e wh ⟨rfl, nh⟩) | (go_at_call 16; first | ((with_reducible refine (CH.out _).mono ?_); rintro e wh ⟨rfl, nh⟩) | ((with_reducible refine (CJ.out _).mono ?_); rintro e wh ⟨rfl, nh⟩)) | (go_at_call 18; (with_reducible refine (CZ.out _).mono ?_); rintro e wh ⟨rfl, nh⟩) | (go_at_call 19; first | ((with_reducible refine (CY.out _).mono ?_); rintro e wh ⟨rfl, nh⟩) | ((with_reducible refine (CW.out _).mono ?_); rintro e wh ⟨rfl, nh⟩))); go_wp2_with fail) | skip); refine hK.out _ _ ?_ (fun hHeldN => ?_); (focus (have hq := hHeld; (try dsimp only at hq); have k := Hd.nx (w := w) (cs := [(V.heap.size, 0, .int .u64 ab), (V.heap.size, 1, .int .u64 bl), (w5.heap.size, 0, .int .u64 b2), (w5.heap.size, 1, .int .u64 l2), (w2.heap.size + 1, 0, .int .u64 bb), (w2.heap.size + 1, 1, .int .u64 bl), (w2.heap.size, 0, .int .u64 ab), (w2.heap.size, 1, .int .u64 al)]) (by go_split_ands; assumption) (by assumption); exact ⟨k.at (V.heap.size) (0) (.int .u64 ab) (by simp), k.at (V.heap.size) (1) (.int .u64 bl) (by simp), k.at (w5.heap.size) (0) (.int .u64 b2) (by simp), k.at (w5.heap.size) (1) (.int .u64 l2) (by simp), k.at (w2.heap.size + 1) (0) (.int .u64 bb) (by simp), k.at (w2.heap.size + 1) (1) (.int .u64 bl) (by simp), k.at (w2.heap.size) (0) (.int .u64 ab) (by simp), k.at (w2.heap.size) (1) (.int .u64 al) (by simp), k⟩)); clear hHeld hK K; have hHeld := hHeldN; clear hHeldN; (try simp only [Act.put, List.setIfInBounds_toArray, List.set_cons_zero, List.set_cons_succ]))
      (refine doOne (i := 19) rfl ?_ (fun K hK => ?_); (focus kernel_rfl))
      ((first | fail | go_simp); (first | ((first | first | (go_at_call 15; (with_reducible refine (CC.out _).mono ?_); rintro e wh ⟨rfl, nh⟩) | (go_at_call 16; first | ((with_reducible refine (CH.out _).mono ?_); rintro e wh ⟨rfl, nh⟩) | ((with_reducible refine (CJ.out _).mono ?_); rintro e wh ⟨rfl, nh⟩)) | (go_at_call 18; (with_reducible refine (CZ.out _).mono ?_); rintro e wh ⟨rfl, nh⟩) | (go_at_call 19; first | ((with_reducible refine (CY.out _).mono ?_); rintro e wh ⟨rfl, nh⟩) | ((with_reducible refine (CW.out _).mono ?_); rintro e wh ⟨rfl, nh⟩))); go_wp2_with fail) | skip); refine hK.out _ _ ?_ (fun hHeldN => ?_); (focus (have hq := hHeld; (try dsimp only at hq); have k := Hd.nx (w := w) (cs := [(V.heap.size, 0, .int .u64 ab), (V.heap.size, 1, .int .u64 bl), (w5.heap.size, 0, .int .u64 b2), (w5.heap.size, 1, .int .u64 l2), (w2.heap.size + 1, 0, .int .u64 bb), (w2.heap.size + 1, 1, .int .u64 bl), (w2.heap.size, 0, .int .u64 ab), (w2.heap.size, 1, .int .u64 al)]) (by go_split_ands; assumption) (by assumption); exact ⟨k.at (V.heap.size) (0) (.int .u64 ab) (by simp), k.at (V.heap.size) (1) (.int .u64 bl) (by simp), k.at (w5.heap.size) (0) (.int .u64 b2) (by simp), k.at (w5.heap.size) (1) (.int .u64 l2) (by simp), k.at (w2.heap.size + 1) (0) (.int .u64 bb) (by simp), k.at (w2.heap.size + 1) (1) (.int .u64 bl) (by simp), k.at (w2.heap.size) (0) (.int .u64 ab) (by simp), k.at (w2.heap.size) (1) (.int .u64 al) (by simp), k⟩)); clear hHeld hK K; have hHeld := hHeldN; clear hHeldN; (try simp only [Act.put, List.setIfInBounds_toArray, List.set_cons_zero, List.set_cons_succ]))
      (refine takeT (i := 20) (v := ?_) rfl ?_ (fun _ _ _ h => h) rfl hHeld ?_ ?_; rotate_left; (focus kernel_rfl); (focus (intro w hSw; (try dsimp only at hSw); go_simp; (try with_reducible rfl))); (try simp only [Act.put, List.setIfInBounds_toArray, List.set_cons_zero, List.set_cons_succ]))
      (refine takeT (i := 21) (v := ?_) rfl ?_ (fun _ _ _ h => h) rfl hHeld ?_ ?_; rotate_left; (focus kernel_rfl); (focus (intro w hSw; (try dsimp only at hSw); go_simp; (try with_reducible rfl))); (try simp only [Act.put, List.setIfInBounds_toArray, List.set_cons_zero, List.set_cons_succ]))
      (refine takeT (i := 22) (v := ?_) rfl ?_ (fun _ _ _ h => h) rfl hHeld ?_ ?_; rotate_left; (focus kernel_rfl); (focus (intro w hSw; (try dsimp only at hSw); go_simp; (try with_reducible rfl))); (try simp only [Act.put, List.setIfInBounds_toArray, List.set_cons_zero, List.set_cons_succ]))
      (refine takeT (i := 23) (v := ?_) rfl ?_ (fun _ _ _ h => h) rfl hHeld ?_ ?_; rotate_left; (focus kernel_rfl); (focus (intro w hSw; (try dsimp only at hSw); go_simp; (try with_reducible rfl))); (try simp only [Act.put, List.setIfInBounds_toArray, List.set_cons_zero, List.set_cons_succ]))
      (refine wpAnyH_done (by kernel_rfl) ?_ _)
      obtain ⟨kc0, kc1, kc2, kc3, kc4, kc5, kc6, kc7, k⟩ := hHeld
      go_wp2
      go_ret
      exact ⟨rfl, k.below⟩
    · rw [hr, hs2] at hb
      replace hb : hasB b2 l2 x = false := by rw [hb]; rfl
      rw [hb] at CC
      rw [hr] at CH
      rw [hs2] at CJ
      have q1 : (false == false) = true := rfl
      clear hr hb hs2
      go_enter Try.func9, Try.ntmps9
      go_wp2_with fail
      refine (CR.out _).mono ?_
      rintro e w1 ⟨rfl, n1⟩
      go_wp2_with fail
      refine (CQ.out _).mono ?_
      rintro e w2 ⟨rfl, n2⟩
      have k1 := hd_new (bl_step n2 n1 (Below.size n1)) (.int .u64 ab) (.int .u64 al) 26
      have k2 := hd_more k1 (.int .u64 bb) (.int .u64 bl) 26
      simp only [World.size_alloc] at k2
      clear k1
      go_wp2_with fail
      refine (CA.out _).mono ?_
      rintro e w3 ⟨rfl, rfl⟩
      have p0 := k2.at w2.heap.size 0 (.int .u64 ab) (by simp)
      have p1 := k2.at w2.heap.size 1 (.int .u64 al) (by simp)
      have p2 := k2.at (w2.heap.size + 1) 0 (.int .u64 bb) (by simp)
      have p3 := k2.at (w2.heap.size + 1) 1 (.int .u64 bl) (by simp)
      go_upto_region 2 with fail
      generalize (w2.alloc (.cells #[.int .u64 ab, .int .u64 al] 26)).alloc (.cells #[.int .u64 bb, .int .u64 bl] 26) = U at k2 p0 p1 p2 p3 ⊢
      go_wp2_with fail
      refine (CS.out _).mono ?_
      rintro e w5 ⟨rfl, n5⟩
      replace k2 := k2.nx n5
      clear p0 p1 p2 p3
      have p0 := k2.at w2.heap.size 0 (.int .u64 ab) (by simp)
      have p1 := k2.at w2.heap.size 1 (.int .u64 al) (by simp)
      have p2 := k2.at (w2.heap.size + 1) 0 (.int .u64 bb) (by simp)
      have p3 := k2.at (w2.heap.size + 1) 1 (.int .u64 bl) (by simp)
      have z0 := World.block_lt_of_cell? _ _ p0
      have z2 := World.block_lt_of_cell? _ _ p2
      have k3 := hd_more k2 (.int .u64 b2) (.int .u64 l2) 26
      clear k2
      go_upto_region 7 with fail
      generalize w5.alloc (.cells #[.int .u64 b2, .int .u64 l2] 26) = V at k3 ⊢
      clear p0 p1 p2 p3
      have p0 := k3.at w2.heap.size 0 (.int .u64 ab) (by simp)
      have p1 := k3.at w2.heap.size 1 (.int .u64 al) (by simp)
      have p2 := k3.at (w2.heap.size + 1) 0 (.int .u64 bb) (by simp)
      have p3 := k3.at (w2.heap.size + 1) 1 (.int .u64 bl) (by simp)
      have k4 := hd_more k3 (.int .u64 ab) (.int .u64 bl) 26
      clear k3
      go_upto_region 8 with fail
      generalize V.alloc (.cells #[.int .u64 ab, .int .u64 bl] 26) = X at k4 ⊢
      clear p0 p1 p2 p3
      have p0 := k4.at w2.heap.size 0 (.int .u64 ab) (by simp)
      have p1 := k4.at w2.heap.size 1 (.int .u64 al) (by simp)
      have p2 := k4.at (w2.heap.size + 1) 0 (.int .u64 bb) (by simp)
      have p3 := k4.at (w2.heap.size + 1) 1 (.int .u64 bl) (by simp)
      have p4 := k4.at w5.heap.size 0 (.int .u64 b2) (by simp)
      have p5 := k4.at w5.heap.size 1 (.int .u64 l2) (by simp)
      have p6 := k4.at V.heap.size 0 (.int .u64 ab) (by simp)
      have p7 := k4.at V.heap.size 1 (.int .u64 bl) (by simp)
      refine wp_region_held_drew (S := fun w' => w'.cell? ⟨V.heap.size, 0, none⟩ = some (.int .u64 ab) ∧ w'.cell? ⟨V.heap.size, 1, none⟩ = some (.int .u64 bl) ∧ w'.cell? ⟨w5.heap.size, 0, none⟩ = some (.int .u64 b2) ∧ w'.cell? ⟨w5.heap.size, 1, none⟩ = some (.int .u64 l2) ∧ w'.cell? ⟨w2.heap.size + 1, 0, none⟩ = some (.int .u64 bb) ∧ w'.cell? ⟨w2.heap.size + 1, 1, none⟩ = some (.int .u64 bl) ∧ w'.cell? ⟨w2.heap.size, 0, none⟩ = some (.int .u64 ab) ∧ w'.cell? ⟨w2.heap.size, 1, none⟩ = some (.int .u64 al) ∧ Hd w [(V.heap.size, 0, .int .u64 ab), (V.heap.size, 1, .int .u64 bl), (w5.heap.size, 0, .int .u64 b2), (w5.heap.size, 1, .int .u64 l2), (w2.heap.size + 1, 0, .int .u64 bb), (w2.heap.size + 1, 1, .int .u64 bl), (w2.heap.size, 0, .int .u64 ab), (w2.heap.size, 1, .int .u64 al)] w') (by kernel_rfl) ?_ (fun hHeld => ?_)
      focus (have k := Hd.drew (w := w) (cs := [(V.heap.size, 0, .int .u64 ab), (V.heap.size, 1, .int .u64 bl), (w5.heap.size, 0, .int .u64 b2), (w5.heap.size, 1, .int .u64 l2), (w2.heap.size + 1, 0, .int .u64 bb), (w2.heap.size + 1, 1, .int .u64 bl), (w2.heap.size, 0, .int .u64 ab), (w2.heap.size, 1, .int .u64 al)]) (by assumption); exact ⟨k.at (V.heap.size) (0) (.int .u64 ab) (by simp), k.at (V.heap.size) (1) (.int .u64 bl) (by simp), k.at (w5.heap.size) (0) (.int .u64 b2) (by simp), k.at (w5.heap.size) (1) (.int .u64 l2) (by simp), k.at (w2.heap.size + 1) (0) (.int .u64 bb) (by simp), k.at (w2.heap.size + 1) (1) (.int .u64 bl) (by simp), k.at (w2.heap.size) (0) (.int .u64 ab) (by simp), k.at (w2.heap.size) (1) (.int .u64 al) (by simp), k⟩)
      (refine takeT (i := 0) (v := ?_) rfl ?_ (fun _ _ _ h => h) rfl hHeld ?_ ?_; rotate_left; (focus kernel_rfl); (focus (intro w hSw; (try dsimp only at hSw); go_simp; (try with_reducible rfl))); (try simp only [Act.put, List.setIfInBounds_toArray, List.set_cons_zero, List.set_cons_succ]))
      (refine takeT (i := 1) (v := ?_) rfl ?_ (fun _ _ _ h => h) rfl hHeld ?_ ?_; rotate_left; (focus kernel_rfl); (focus (intro w hSw; (try dsimp only at hSw); go_simp; (try with_reducible rfl))); (try simp only [Act.put, List.setIfInBounds_toArray, List.set_cons_zero, List.set_cons_succ]))
      (refine takeT (i := 3) (v := ?_) rfl ?_ (fun _ _ _ h => h) rfl hHeld ?_ ?_; rotate_left; (focus kernel_rfl); (focus (intro w hSw; (try dsimp only at hSw); go_simp; (try with_reducible rfl))); (try simp only [Act.put, List.setIfInBounds_toArray, List.set_cons_zero, List.set_cons_succ]))
      (refine takeT (i := 4) (v := ?_) rfl ?_ (fun _ _ _ h => h) rfl hHeld ?_ ?_; rotate_left; (focus kernel_rfl); (focus (intro w hSw; (try dsimp only at hSw); go_simp; (try with_reducible rfl))); (try simp only [Act.put, List.setIfInBounds_toArray, List.set_cons_zero, List.set_cons_succ]))
      (refine doOne (i := 2) rfl ?_ (fun K hK => ?_); (focus kernel_rfl))
      ((first | fail | go_simp); (first | ((first | first | (go_at_call 15; (with_reducible refine (CC.out _).mono ?_); rintro e wh ⟨rfl, nh⟩) | (go_at_call 16; first | ((with_reducible refine (CH.out _).mono ?_); rintro e wh ⟨rfl, nh⟩) | ((with_reducible refine (CJ.out _).mono ?_); rintro e wh ⟨rfl, nh⟩)) | (go_at_call 18; (with_reducible refine (CZ.out _).mono ?_); rintro e wh ⟨rfl, nh⟩) | (go_at_call 19; first | ((with_reducible refine (CY.out _).mono ?_); rintro e wh ⟨rfl, nh⟩) | ((with_reducible refine (CW.out _).mono ?_); rintro e wh ⟨rfl, nh⟩))); go_wp2_with fail) | skip); refine hK.out _ _ ?_ (fun hHeldN => ?_); (focus (have hq := hHeld; (try dsimp only at hq); have k := Hd.nx (w := w) (cs := [(V.heap.size, 0, .int .u64 ab), (V.heap.size, 1, .int .u64 bl), (w5.heap.size, 0, .int .u64 b2), (w5.heap.size, 1, .int .u64 l2), (w2.heap.size + 1, 0, .int .u64 bb), (w2.heap.size + 1, 1, .int .u64 bl), (w2.heap.size, 0, .int .u64 ab), (w2.heap.size, 1, .int .u64 al)]) (by go_split_ands; assumption) (by assumption); exact ⟨k.at (V.heap.size) (0) (.int .u64 ab) (by simp), k.at (V.heap.size) (1) (.int .u64 bl) (by simp), k.at (w5.heap.size) (0) (.int .u64 b2) (by simp), k.at (w5.heap.size) (1) (.int .u64 l2) (by simp), k.at (w2.heap.size + 1) (0) (.int .u64 bb) (by simp), k.at (w2.heap.size + 1) (1) (.int .u64 bl) (by simp), k.at (w2.heap.size) (0) (.int .u64 ab) (by simp), k.at (w2.heap.size) (1) (.int .u64 al) (by simp), k⟩)); clear hHeld hK K; have hHeld := hHeldN; clear hHeldN; (try simp only [Act.put, List.setIfInBounds_toArray, List.set_cons_zero, List.set_cons_succ]))
      (refine doOne (i := 5) rfl ?_ (fun K hK => ?_); (focus kernel_rfl))
      ((first | fail | go_simp); (first | ((first | first | (go_at_call 15; (with_reducible refine (CC.out _).mono ?_); rintro e wh ⟨rfl, nh⟩) | (go_at_call 16; first | ((with_reducible refine (CH.out _).mono ?_); rintro e wh ⟨rfl, nh⟩) | ((with_reducible refine (CJ.out _).mono ?_); rintro e wh ⟨rfl, nh⟩)) | (go_at_call 18; (with_reducible refine (CZ.out _).mono ?_); rintro e wh ⟨rfl, nh⟩) | (go_at_call 19; first | ((with_reducible refine (CY.out _).mono ?_); rintro e wh ⟨rfl, nh⟩) | ((with_reducible refine (CW.out _).mono ?_); rintro e wh ⟨rfl, nh⟩))); go_wp2_with fail) | skip); refine hK.out _ _ ?_ (fun hHeldN => ?_); (focus (have hq := hHeld; (try dsimp only at hq); have k := Hd.nx (w := w) (cs := [(V.heap.size, 0, .int .u64 ab), (V.heap.size, 1, .int .u64 bl), (w5.heap.size, 0, .int .u64 b2), (w5.heap.size, 1, .int .u64 l2), (w2.heap.size + 1, 0, .int .u64 bb), (w2.heap.size + 1, 1, .int .u64 bl), (w2.heap.size, 0, .int .u64 ab), (w2.heap.size, 1, .int .u64 al)]) (by go_split_ands; assumption) (by assumption); exact ⟨k.at (V.heap.size) (0) (.int .u64 ab) (by simp), k.at (V.heap.size) (1) (.int .u64 bl) (by simp), k.at (w5.heap.size) (0) (.int .u64 b2) (by simp), k.at (w5.heap.size) (1) (.int .u64 l2) (by simp), k.at (w2.heap.size + 1) (0) (.int .u64 bb) (by simp), k.at (w2.heap.size + 1) (1) (.int .u64 bl) (by simp), k.at (w2.heap.size) (0) (.int .u64 ab) (by simp), k.at (w2.heap.size) (1) (.int .u64 al) (by simp), k⟩)); clear hHeld hK K; have hHeld := hHeldN; clear hHeldN; (try simp only [Act.put, List.setIfInBounds_toArray, List.set_cons_zero, List.set_cons_succ]))
      (refine takeT (i := 6) (v := ?_) rfl ?_ (fun _ _ _ h => h) rfl hHeld ?_ ?_; rotate_left; (focus kernel_rfl); (focus (intro w hSw; (try dsimp only at hSw); go_simp; (try with_reducible rfl))); (try simp only [Act.put, List.setIfInBounds_toArray, List.set_cons_zero, List.set_cons_succ]))
      (refine takeT (i := 7) (v := ?_) rfl ?_ (fun _ _ _ h => h) rfl hHeld ?_ ?_; rotate_left; (focus kernel_rfl); (focus (intro w hSw; (try dsimp only at hSw); go_simp; (try with_reducible rfl))); (try simp only [Act.put, List.setIfInBounds_toArray, List.set_cons_zero, List.set_cons_succ]))
      (refine takeT (i := 8) (v := ?_) rfl ?_ (fun _ _ _ h => h) rfl hHeld ?_ ?_; rotate_left; (focus kernel_rfl); (focus (intro w hSw; (try dsimp only at hSw); go_simp; (try with_reducible rfl))); (try simp only [Act.put, List.setIfInBounds_toArray, List.set_cons_zero, List.set_cons_succ]))
      (refine doOne (i := 9) rfl ?_ (fun K hK => ?_); (focus kernel_rfl))
      ((first | fail | go_simp); (first | ((first | first | (go_at_call 15; (with_reducible refine (CC.out _).mono ?_); rintro e wh ⟨rfl, nh⟩) | (go_at_call 16; first | ((with_reducible refine (CH.out _).mono ?_); rintro e wh ⟨rfl, nh⟩) | ((with_reducible refine (CJ.out _).mono ?_); rintro e wh ⟨rfl, nh⟩)) | (go_at_call 18; (with_reducible refine (CZ.out _).mono ?_); rintro e wh ⟨rfl, nh⟩) | (go_at_call 19; first | ((with_reducible refine (CY.out _).mono ?_); rintro e wh ⟨rfl, nh⟩) | ((with_reducible refine (CW.out _).mono ?_); rintro e wh ⟨rfl, nh⟩))); go_wp2_with fail) | skip); refine hK.out _ _ ?_ (fun hHeldN => ?_); (focus (have hq := hHeld; (try dsimp only at hq); have k := Hd.nx (w := w) (cs := [(V.heap.size, 0, .int .u64 ab), (V.heap.size, 1, .int .u64 bl), (w5.heap.size, 0, .int .u64 b2), (w5.heap.size, 1, .int .u64 l2), (w2.heap.size + 1, 0, .int .u64 bb), (w2.heap.size + 1, 1, .int .u64 bl), (w2.heap.size, 0, .int .u64 ab), (w2.heap.size, 1, .int .u64 al)]) (by go_split_ands; assumption) (by assumption); exact ⟨k.at (V.heap.size) (0) (.int .u64 ab) (by simp), k.at (V.heap.size) (1) (.int .u64 bl) (by simp), k.at (w5.heap.size) (0) (.int .u64 b2) (by simp), k.at (w5.heap.size) (1) (.int .u64 l2) (by simp), k.at (w2.heap.size + 1) (0) (.int .u64 bb) (by simp), k.at (w2.heap.size + 1) (1) (.int .u64 bl) (by simp), k.at (w2.heap.size) (0) (.int .u64 ab) (by simp), k.at (w2.heap.size) (1) (.int .u64 al) (by simp), k⟩)); clear hHeld hK K; have hHeld := hHeldN; clear hHeldN; (try simp only [Act.put, List.setIfInBounds_toArray, List.set_cons_zero, List.set_cons_succ]))
      (refine takeT (i := 10) (v := ?_) rfl ?_ (fun _ _ _ h => h) rfl hHeld ?_ ?_; rotate_left; (focus kernel_rfl); (focus (intro w hSw; (try dsimp only at hSw); go_simp; (try with_reducible rfl))); (try simp only [Act.put, List.setIfInBounds_toArray, List.set_cons_zero, List.set_cons_succ]))
      (refine takeT (i := 11) (v := ?_) rfl ?_ (fun _ _ _ h => h) rfl hHeld ?_ ?_; rotate_left; (focus kernel_rfl); (focus (intro w hSw; (try dsimp only at hSw); go_simp; (try with_reducible rfl))); (try simp only [Act.put, List.setIfInBounds_toArray, List.set_cons_zero, List.set_cons_succ]))
      (refine takeT (i := 12) (v := ?_) rfl ?_ (fun _ _ _ h => h) rfl hHeld ?_ ?_; rotate_left; (focus kernel_rfl); (focus (intro w hSw; (try dsimp only at hSw); go_simp; (try with_reducible rfl))); (try simp only [Act.put, List.setIfInBounds_toArray, List.set_cons_zero, List.set_cons_succ]))
      (refine takeT (i := 13) (v := ?_) rfl ?_ (fun _ _ _ h => h) rfl hHeld ?_ ?_; rotate_left; (focus kernel_rfl); (focus (intro w hSw; (try dsimp only at hSw); go_simp; (try with_reducible rfl))); (try simp only [Act.put, List.setIfInBounds_toArray, List.set_cons_zero, List.set_cons_succ]))
      (refine takeT (i := 14) (v := ?_) rfl ?_ (fun _ _ _ h => h) rfl hHeld ?_ ?_; rotate_left; (focus kernel_rfl); (focus (intro w hSw; (try dsimp only at hSw); go_simp; (try with_reducible rfl))); (try simp only [Act.put, List.setIfInBounds_toArray, List.set_cons_zero, List.set_cons_succ]))
      (refine takeT (i := 16) (v := ?_) rfl ?_ (fun _ _ _ h => h) rfl hHeld ?_ ?_; rotate_left; (focus kernel_rfl); (focus (intro w hSw; (try dsimp only at hSw); go_simp; (try with_reducible rfl))); (try simp only [Act.put, List.setIfInBounds_toArray, List.set_cons_zero, List.set_cons_succ]))
      (refine takeT (i := 18) (v := ?_) rfl ?_ (fun _ _ _ h => h) rfl hHeld ?_ ?_; rotate_left; (focus kernel_rfl); (focus (intro w hSw; (try dsimp only at hSw); go_simp; (try with_reducible rfl))); (try simp only [Act.put, List.setIfInBounds_toArray, List.set_cons_zero, List.set_cons_succ]))
      (refine doOne (i := 15) rfl ?_ (fun K hK => ?_); (focus kernel_rfl))
      ((first | fail | go_simp); (first | ((first | first | (go_at_call 15; (with_reducible refine (CC.out _).mono ?_); rintro e wh ⟨rfl, nh⟩) | (go_at_call 16; first | ((with_reducible refine (CH.out _).mono ?_); rintro e wh ⟨rfl, nh⟩) | ((with_reducible refine (CJ.out _).mono ?_); rintro e wh ⟨rfl, nh⟩)) | (go_at_call 18; (with_reducible refine (CZ.out _).mono ?_); rintro e wh ⟨rfl, nh⟩) | (go_at_call 19; first | ((with_reducible refine (CY.out _).mono ?_); rintro e wh ⟨rfl, nh⟩) | ((with_reducible refine (CW.out _).mono ?_); rintro e wh ⟨rfl, nh⟩))); go_wp2_with fail) | skip); refine hK.out _ _ ?_ (fun hHeldN => ?_); (focus (have hq := hHeld; (try dsimp only at hq); have k := Hd.nx (w := w) (cs := [(V.heap.size, 0, .int .u64 ab), (V.heap.size, 1, .int .u64 bl), (w5.heap.size, 0, .int .u64 b2), (w5.heap.size, 1, .int .u64 l2), (w2.heap.size + 1, 0, .int .u64 bb), (w2.heap.size + 1, 1, .int .u64 bl), (w2.heap.size, 0, .int .u64 ab), (w2.heap.size, 1, .int .u64 al)]) (by go_split_ands; assumption) (by assumption); exact ⟨k.at (V.heap.size) (0) (.int .u64 ab) (by simp), k.at (V.heap.size) (1) (.int .u64 bl) (by simp), k.at (w5.heap.size) (0) (.int .u64 b2) (by simp), k.at (w5.heap.size) (1) (.int .u64 l2) (by simp), k.at (w2.heap.size + 1) (0) (.int .u64 bb) (by simp), k.at (w2.heap.size + 1) (1) (.int .u64 bl) (by simp), k.at (w2.heap.size) (0) (.int .u64 ab) (by simp), k.at (w2.heap.size) (1) (.int .u64 al) (by simp), k⟩)); clear hHeld hK K; have hHeld := hHeldN; clear hHeldN; (try simp only [Act.put, List.setIfInBounds_toArray, List.set_cons_zero, List.set_cons_succ]))
      (refine doOne (i := 17) rfl ?_ (fun K hK => ?_); (focus kernel_rfl))
      ((first | fail | go_simp); (first | ((first | first | (go_at_call 15; (with_reducible refine (CC.out _).mono ?_); rintro e wh ⟨rfl, nh⟩) | (go_at_call 16; first | ((with_reducible refine (CH.out _).mono ?_); rintro e wh ⟨rfl, nh⟩) | ((with_reducible refine (CJ.out _).mono ?_); rintro e wh ⟨rfl, nh⟩)) | (go_at_call 18; (with_reducible refine (CZ.out _).mono ?_); rintro e wh ⟨rfl, nh⟩) | (go_at_call 19; first | ((with_reducible refine (CY.out _).mono ?_); rintro e wh ⟨rfl, nh⟩) | ((with_reducible refine (CW.out _).mono ?_); rintro e wh ⟨rfl, nh⟩))); go_wp2_with fail) | skip); refine hK.out _ _ ?_ (fun hHeldN => ?_); (focus (have hq := hHeld; (try dsimp only at hq); have k := Hd.nx (w := w) (cs := [(V.heap.size, 0, .int .u64 ab), (V.heap.size, 1, .int .u64 bl), (w5.heap.size, 0, .int .u64 b2), (w5.heap.size, 1, .int .u64 l2), (w2.heap.size + 1, 0, .int .u64 bb), (w2.heap.size + 1, 1, .int .u64 bl), (w2.heap.size, 0, .int .u64 ab), (w2.heap.size, 1, .int .u64 al)]) (by go_split_ands; assumption) (by assumption); exact ⟨k.at (V.heap.size) (0) (.int .u64 ab) (by simp), k.at (V.heap.size) (1) (.int .u64 bl) (by simp), k.at (w5.heap.size) (0) (.int .u64 b2) (by simp), k.at (w5.heap.size) (1) (.int .u64 l2) (by simp), k.at (w2.heap.size + 1) (0) (.int .u64 bb) (by simp), k.at (w2.heap.size + 1) (1) (.int .u64 bl) (by simp), k.at (w2.heap.size) (0) (.int .u64 ab) (by simp), k.at (w2.heap.size) (1) (.int .u64 al) (by simp), k⟩)); clear hHeld hK K; have hHeld := hHeldN; clear hHeldN; (try simp only [Act.put, List.setIfInBounds_toArray, List.set_cons_zero, List.set_cons_succ]))
      (refine doOne (i := 19) rfl ?_ (fun K hK => ?_); (focus kernel_rfl))
      ((first | fail | go_simp); (first | ((first | first | (go_at_call 15; (with_reducible refine (CC.out _).mono ?_); rintro e wh ⟨rfl, nh⟩) | (go_at_call 16; first | ((with_reducible refine (CH.out _).mono ?_); rintro e wh ⟨rfl, nh⟩) | ((with_reducible refine (CJ.out _).mono ?_); rintro e wh ⟨rfl, nh⟩)) | (go_at_call 18; (with_reducible refine (CZ.out _).mono ?_); rintro e wh ⟨rfl, nh⟩) | (go_at_call 19; first | ((with_reducible refine (CY.out _).mono ?_); rintro e wh ⟨rfl, nh⟩) | ((with_reducible refine (CW.out _).mono ?_); rintro e wh ⟨rfl, nh⟩))); go_wp2_with fail) | skip); refine hK.out _ _ ?_ (fun hHeldN => ?_); (focus (have hq := hHeld; (try dsimp only at hq); have k := Hd.nx (w := w) (cs := [(V.heap.size, 0, .int .u64 ab), (V.heap.size, 1, .int .u64 bl), (w5.heap.size, 0, .int .u64 b2), (w5.heap.size, 1, .int .u64 l2), (w2.heap.size + 1, 0, .int .u64 bb), (w2.heap.size + 1, 1, .int .u64 bl), (w2.heap.size, 0, .int .u64 ab), (w2.heap.size, 1, .int .u64 al)]) (by go_split_ands; assumption) (by assumption); exact ⟨k.at (V.heap.size) (0) (.int .u64 ab) (by simp), k.at (V.heap.size) (1) (.int .u64 bl) (by simp), k.at (w5.heap.size) (0) (.int .u64 b2) (by simp), k.at (w5.heap.size) (1) (.int .u64 l2) (by simp), k.at (w2.heap.size + 1) (0) (.int .u64 bb) (by simp), k.at (w2.heap.size + 1) (1) (.int .u64 bl) (by simp), k.at (w2.heap.size) (0) (.int .u64 ab) (by simp), k.at (w2.heap.size) (1) (.int .u64 al) (by simp), k⟩)); clear hHeld hK K; have hHeld := hHeldN; clear hHeldN; (try simp only [Act.put, List.setIfInBounds_toArray, List.set_cons_zero, List.set_cons_succ]))
      (refine takeT (i := 20) (v := ?_) rfl ?_ (fun _ _ _ h => h) rfl hHeld ?_ ?_; rotate_left; (focus kernel_rfl); (focus (intro w hSw; (try dsimp only at hSw); go_simp; (try with_reducible rfl))); (try simp only [Act.put, List.setIfInBounds_toArray, List.set_cons_zero, List.set_cons_succ]))
      (refine takeT (i := 21) (v := ?_) rfl ?_ (fun _ _ _ h => h) rfl hHeld ?_ ?_; rotate_left; (focus kernel_rfl); (focus (intro w hSw; (try dsimp only at hSw); go_simp; (try with_reducible rfl))); (try simp only [Act.put, List.setIfInBounds_toArray, List.set_cons_zero, List.set_cons_succ]))
      (refine takeT (i := 22) (v := ?_) rfl ?_ (fun _ _ _ h => h) rfl hHeld ?_ ?_; rotate_left; (focus kernel_rfl); (focus (intro w hSw; (try dsimp only at hSw); go_simp; (try with_reducible rfl))); (try simp only [Act.put, List.setIfInBounds_toArray, List.set_cons_zero, List.set_cons_succ]))
      (refine takeT (i := 23) (v := ?_) rfl ?_ (fun _ _ _ h => h) rfl hHeld ?_ ?_; rotate_left; (focus kernel_rfl); (focus (intro w hSw; (try dsimp only at hSw); go_simp; (try with_reducible rfl))); (try simp only [Act.put, List.setIfInBounds_toArray, List.set_cons_zero, List.set_cons_succ]))
      (refine wpAnyH_done (by kernel_rfl) ?_ _)
      obtain ⟨kc0, kc1, kc2, kc3, kc4, kc5, kc6, kc7, k⟩ := hHeld
      go_wp2
      go_ret
      exact ⟨rfl, k.below⟩

set_option maxHeartbeats 6000000 in
theorem walkB (a0 a1 a2 a3 a4 : Int) (w : World) (h0 : 0 ≤ a0) (h1 : 0 ≤ a1) (h2 : 0 ≤ a2) (h3 : 0 ≤ a3) (h4 : 0 ≤ a4) (hc : rgB a0 a1 < rgB a2 a3 ∧ rgL a0 a1 ≤ rgL a2 a3) :
    Calls Try.prog 9 #[.int .u64 a0, .int .u64 a1, .int .u64 a2, .int .u64 a3, .int .u64 a4] w fun e w' => e = .returned (.bool true) ∧ Nx w w' := by
  obtain ⟨r1, r2, r3⟩ := rg_in a0 a1
  obtain ⟨s1, s2, s3⟩ := rg_in a2 a3
  have b4 : 0 ≤ a4 % 1099511627776 ∧ a4 % 1099511627776 < 1099511627776 := by omega
  have CR := Lib.hid (fun W => sRange_any a0 a1 W h0 h1)
  have CQ := Lib.hid (fun W => sRange_any a2 a3 W h2 h3)
  have CA := Lib.hid (fun W => sAddr_any a4 W h4)
  generalize rgB a0 a1 = ab at *
  generalize rgL a0 a1 = al at *
  generalize rgB a2 a3 = bb at *
  generalize rgL a2 a3 = bl at *
  generalize a4 % 1099511627776 = x at *
  obtain ⟨c1, c2⟩ := hc
  have c3 : ¬ bb ≤ ab := by omega
  have c4 : ¬ bl < al := by omega
  have e1 : (ab == bb) = false := by rw [beq_eq_false_iff_ne]; omega
  have hcase : (bb ≤ ab ∧ bl < al) ∨ (ab < bb ∧ al ≤ bl) ∨ (ab = bb ∧ al = bl) := .inr (.inl ⟨c1, c2⟩)
  have hb := fun x => sb_has (x := x) r2 s2 hcase
  have hz := sb_size r2 s2 hcase
  have hin := sb_in ab al bb bl (by omega) (by omega) (by omega) (by omega) (by omega) (by omega) (by omega) (by omega)
  have CS := Lib.hid (fun W => iSubtract_any ab al bb bl W (by omega) (by omega) (by omega) (by omega) (by omega) (by omega) (by omega) (by omega) (by omega))
  replace hb := hb x
  rw [if_pos c1, if_neg c4] at hz
  generalize sbB ab al bb bl = b2 at CS hb hz hin
  generalize sbL ab al bb bl = l2 at CS hb hz hin
  have CC := Lib.hid (fun W => iContains_any b2 l2 x W (by omega) (by omega) (by omega) (by omega) (by omega) (by omega))
  have CH := Lib.hid (fun W => sHas_any ab al x W)
  have CJ := Lib.hid (fun W => sHas_any bb bl x W)
  have CZ := Lib.hid (fun W => iSize_any b2 l2 W (by omega) (by omega) (by omega) (by omega))
  have CY := Lib.hid (fun W => sSize_any ab al W (by omega) (by omega) (by omega) (by omega))
  have CW := Lib.hid (fun W => sSize_any bb al W (by omega) (by omega) (by omega) (by omega))
  have hzz : 0 ≤ szI b2 l2 ∧ szI b2 l2 < 4398046511104 := by unfold szI; split <;> omega
  have hw : IntKind.u64.wrap (szI ab al - szI bb al) = szI b2 l2 := by rw [hz]; exact IntWalk.u64_in _ (by omega)
  have hq : (szI b2 l2 == szI b2 l2) = true := by simp
  clear hz hcase hin
  generalize szI b2 l2 = z2v at *
  generalize szI ab al = zr at *
  generalize szI bb al = zm at *
  rcases hr : hasB ab al x with _ | _
  · rw [hr, Bool.false_and] at hb
    rw [hb] at CC
    rw [hr] at CH
    have q1 : (false == false) = true := rfl
    clear hr hb
    go_enter Try.func9, Try.ntmps9
    go_wp2_with fail
    refine (CR.out _).mono ?_
    rintro e w1 ⟨rfl, n1⟩
    go_wp2_with fail
    refine (CQ.out _).mono ?_
    rintro e w2 ⟨rfl, n2⟩
    have k1 := hd_new (bl_step n2 n1 (Below.size n1)) (.int .u64 ab) (.int .u64 al) 26
    have k2 := hd_more k1 (.int .u64 bb) (.int .u64 bl) 26
    simp only [World.size_alloc] at k2
    clear k1
    go_wp2_with fail
    refine (CA.out _).mono ?_
    rintro e w3 ⟨rfl, rfl⟩
    have p0 := k2.at w2.heap.size 0 (.int .u64 ab) (by simp)
    have p1 := k2.at w2.heap.size 1 (.int .u64 al) (by simp)
    have p2 := k2.at (w2.heap.size + 1) 0 (.int .u64 bb) (by simp)
    have p3 := k2.at (w2.heap.size + 1) 1 (.int .u64 bl) (by simp)
    go_upto_region 2 with fail
    generalize (w2.alloc (.cells #[.int .u64 ab, .int .u64 al] 26)).alloc (.cells #[.int .u64 bb, .int .u64 bl] 26) = U at k2 p0 p1 p2 p3 ⊢
    go_wp2_with fail
    refine (CS.out _).mono ?_
    rintro e w5 ⟨rfl, n5⟩
    replace k2 := k2.nx n5
    clear p0 p1 p2 p3
    have p0 := k2.at w2.heap.size 0 (.int .u64 ab) (by simp)
    have p1 := k2.at w2.heap.size 1 (.int .u64 al) (by simp)
    have p2 := k2.at (w2.heap.size + 1) 0 (.int .u64 bb) (by simp)
    have p3 := k2.at (w2.heap.size + 1) 1 (.int .u64 bl) (by simp)
    have z0 := World.block_lt_of_cell? _ _ p0
    have z2 := World.block_lt_of_cell? _ _ p2
    have k3 := hd_more k2 (.int .u64 b2) (.int .u64 l2) 26
    clear k2
    go_upto_region 7 with fail
    generalize w5.alloc (.cells #[.int .u64 b2, .int .u64 l2] 26) = V at k3 ⊢
    clear p0 p1 p2 p3
    have p0 := k3.at w2.heap.size 0 (.int .u64 ab) (by simp)
    have p1 := k3.at w2.heap.size 1 (.int .u64 al) (by simp)
    have p2 := k3.at (w2.heap.size + 1) 0 (.int .u64 bb) (by simp)
    have p3 := k3.at (w2.heap.size + 1) 1 (.int .u64 bl) (by simp)
    have k4 := hd_more k3 (.int .u64 bb) (.int .u64 al) 26
    clear k3
    go_upto_region 8 with fail
    generalize V.alloc (.cells #[.int .u64 bb, .int .u64 al] 26) = X at k4 ⊢
    clear p0 p1 p2 p3
    have p0 := k4.at w2.heap.size 0 (.int .u64 ab) (by simp)
    have p1 := k4.at w2.heap.size 1 (.int .u64 al) (by simp)
    have p2 := k4.at (w2.heap.size + 1) 0 (.int .u64 bb) (by simp)
    have p3 := k4.at (w2.heap.size + 1) 1 (.int .u64 bl) (by simp)
    have p4 := k4.at w5.heap.size 0 (.int .u64 b2) (by simp)
    have p5 := k4.at w5.heap.size 1 (.int .u64 l2) (by simp)
    have p6 := k4.at V.heap.size 0 (.int .u64 bb) (by simp)
    have p7 := k4.at V.heap.size 1 (.int .u64 al) (by simp)
    refine wp_region_held_drew (S := fun w' => w'.cell? ⟨V.heap.size, 0, none⟩ = some (.int .u64 bb) ∧ w'.cell? ⟨V.heap.size, 1, none⟩ = some (.int .u64 al) ∧ w'.cell? ⟨w5.heap.size, 0, none⟩ = some (.int .u64 b2) ∧ w'.cell? ⟨w5.heap.size, 1, none⟩ = some (.int .u64 l2) ∧ w'.cell? ⟨w2.heap.size + 1, 0, none⟩ = some (.int .u64 bb) ∧ w'.cell? ⟨w2.heap.size + 1, 1, none⟩ = some (.int .u64 bl) ∧ w'.cell? ⟨w2.heap.size, 0, none⟩ = some (.int .u64 ab) ∧ w'.cell? ⟨w2.heap.size, 1, none⟩ = some (.int .u64 al) ∧ Hd w [(V.heap.size, 0, .int .u64 bb), (V.heap.size, 1, .int .u64 al), (w5.heap.size, 0, .int .u64 b2), (w5.heap.size, 1, .int .u64 l2), (w2.heap.size + 1, 0, .int .u64 bb), (w2.heap.size + 1, 1, .int .u64 bl), (w2.heap.size, 0, .int .u64 ab), (w2.heap.size, 1, .int .u64 al)] w') (by kernel_rfl) ?_ (fun hHeld => ?_)
    focus (have k := Hd.drew (w := w) (cs := [(V.heap.size, 0, .int .u64 bb), (V.heap.size, 1, .int .u64 al), (w5.heap.size, 0, .int .u64 b2), (w5.heap.size, 1, .int .u64 l2), (w2.heap.size + 1, 0, .int .u64 bb), (w2.heap.size + 1, 1, .int .u64 bl), (w2.heap.size, 0, .int .u64 ab), (w2.heap.size, 1, .int .u64 al)]) (by assumption); exact ⟨k.at (V.heap.size) (0) (.int .u64 bb) (by simp), k.at (V.heap.size) (1) (.int .u64 al) (by simp), k.at (w5.heap.size) (0) (.int .u64 b2) (by simp), k.at (w5.heap.size) (1) (.int .u64 l2) (by simp), k.at (w2.heap.size + 1) (0) (.int .u64 bb) (by simp), k.at (w2.heap.size + 1) (1) (.int .u64 bl) (by simp), k.at (w2.heap.size) (0) (.int .u64 ab) (by simp), k.at (w2.heap.size) (1) (.int .u64 al) (by simp), k⟩)
    (refine takeT (i := 0) (v := ?_) rfl ?_ (fun _ _ _ h => h) rfl hHeld ?_ ?_; rotate_left; (focus kernel_rfl); (focus (intro w hSw; (try dsimp only at hSw); go_simp; (try with_reducible rfl))); (try simp only [Act.put, List.setIfInBounds_toArray, List.set_cons_zero, List.set_cons_succ]))
    (refine takeT (i := 1) (v := ?_) rfl ?_ (fun _ _ _ h => h) rfl hHeld ?_ ?_; rotate_left; (focus kernel_rfl); (focus (intro w hSw; (try dsimp only at hSw); go_simp; (try with_reducible rfl))); (try simp only [Act.put, List.setIfInBounds_toArray, List.set_cons_zero, List.set_cons_succ]))
    (refine takeT (i := 3) (v := ?_) rfl ?_ (fun _ _ _ h => h) rfl hHeld ?_ ?_; rotate_left; (focus kernel_rfl); (focus (intro w hSw; (try dsimp only at hSw); go_simp; (try with_reducible rfl))); (try simp only [Act.put, List.setIfInBounds_toArray, List.set_cons_zero, List.set_cons_succ]))
    (refine takeT (i := 4) (v := ?_) rfl ?_ (fun _ _ _ h => h) rfl hHeld ?_ ?_; rotate_left; (focus kernel_rfl); (focus (intro w hSw; (try dsimp only at hSw); go_simp; (try with_reducible rfl))); (try simp only [Act.put, List.setIfInBounds_toArray, List.set_cons_zero, List.set_cons_succ]))
    (refine doOne (i := 2) rfl ?_ (fun K hK => ?_); (focus kernel_rfl))
    ((first | fail | go_simp); (first | ((first | first | (go_at_call 15; (with_reducible refine (CC.out _).mono ?_); rintro e wh ⟨rfl, nh⟩) | (go_at_call 16; first | ((with_reducible refine (CH.out _).mono ?_); rintro e wh ⟨rfl, nh⟩) | ((with_reducible refine (CJ.out _).mono ?_); rintro e wh ⟨rfl, nh⟩)) | (go_at_call 18; (with_reducible refine (CZ.out _).mono ?_); rintro e wh ⟨rfl, nh⟩) | (go_at_call 19; first | ((with_reducible refine (CY.out _).mono ?_); rintro e wh ⟨rfl, nh⟩) | ((with_reducible refine (CW.out _).mono ?_); rintro e wh ⟨rfl, nh⟩))); go_wp2_with fail) | skip); refine hK.out _ _ ?_ (fun hHeldN => ?_); (focus (have hq := hHeld; (try dsimp only at hq); have k := Hd.nx (w := w) (cs := [(V.heap.size, 0, .int .u64 bb), (V.heap.size, 1, .int .u64 al), (w5.heap.size, 0, .int .u64 b2), (w5.heap.size, 1, .int .u64 l2), (w2.heap.size + 1, 0, .int .u64 bb), (w2.heap.size + 1, 1, .int .u64 bl), (w2.heap.size, 0, .int .u64 ab), (w2.heap.size, 1, .int .u64 al)]) (by go_split_ands; assumption) (by assumption); exact ⟨k.at (V.heap.size) (0) (.int .u64 bb) (by simp), k.at (V.heap.size) (1) (.int .u64 al) (by simp), k.at (w5.heap.size) (0) (.int .u64 b2) (by simp), k.at (w5.heap.size) (1) (.int .u64 l2) (by simp), k.at (w2.heap.size + 1) (0) (.int .u64 bb) (by simp), k.at (w2.heap.size + 1) (1) (.int .u64 bl) (by simp), k.at (w2.heap.size) (0) (.int .u64 ab) (by simp), k.at (w2.heap.size) (1) (.int .u64 al) (by simp), k⟩)); clear hHeld hK K; have hHeld := hHeldN; clear hHeldN; (try simp only [Act.put, List.setIfInBounds_toArray, List.set_cons_zero, List.set_cons_succ]))
    (refine doOne (i := 5) rfl ?_ (fun K hK => ?_); (focus kernel_rfl))
    ((first | fail | go_simp); (first | ((first | first | (go_at_call 15; (with_reducible refine (CC.out _).mono ?_); rintro e wh ⟨rfl, nh⟩) | (go_at_call 16; first | ((with_reducible refine (CH.out _).mono ?_); rintro e wh ⟨rfl, nh⟩) | ((with_reducible refine (CJ.out _).mono ?_); rintro e wh ⟨rfl, nh⟩)) | (go_at_call 18; (with_reducible refine (CZ.out _).mono ?_); rintro e wh ⟨rfl, nh⟩) | (go_at_call 19; first | ((with_reducible refine (CY.out _).mono ?_); rintro e wh ⟨rfl, nh⟩) | ((with_reducible refine (CW.out _).mono ?_); rintro e wh ⟨rfl, nh⟩))); go_wp2_with fail) | skip); refine hK.out _ _ ?_ (fun hHeldN => ?_); (focus (have hq := hHeld; (try dsimp only at hq); have k := Hd.nx (w := w) (cs := [(V.heap.size, 0, .int .u64 bb), (V.heap.size, 1, .int .u64 al), (w5.heap.size, 0, .int .u64 b2), (w5.heap.size, 1, .int .u64 l2), (w2.heap.size + 1, 0, .int .u64 bb), (w2.heap.size + 1, 1, .int .u64 bl), (w2.heap.size, 0, .int .u64 ab), (w2.heap.size, 1, .int .u64 al)]) (by go_split_ands; assumption) (by assumption); exact ⟨k.at (V.heap.size) (0) (.int .u64 bb) (by simp), k.at (V.heap.size) (1) (.int .u64 al) (by simp), k.at (w5.heap.size) (0) (.int .u64 b2) (by simp), k.at (w5.heap.size) (1) (.int .u64 l2) (by simp), k.at (w2.heap.size + 1) (0) (.int .u64 bb) (by simp), k.at (w2.heap.size + 1) (1) (.int .u64 bl) (by simp), k.at (w2.heap.size) (0) (.int .u64 ab) (by simp), k.at (w2.heap.size) (1) (.int .u64 al) (by simp), k⟩)); clear hHeld hK K; have hHeld := hHeldN; clear hHeldN; (try simp only [Act.put, List.setIfInBounds_toArray, List.set_cons_zero, List.set_cons_succ]))
    (refine takeT (i := 6) (v := ?_) rfl ?_ (fun _ _ _ h => h) rfl hHeld ?_ ?_; rotate_left; (focus kernel_rfl); (focus (intro w hSw; (try dsimp only at hSw); go_simp; (try with_reducible rfl))); (try simp only [Act.put, List.setIfInBounds_toArray, List.set_cons_zero, List.set_cons_succ]))
    (refine takeF (i := 7) rfl ?_ (fun _ _ _ h => h) rfl hHeld ?_; (focus kernel_rfl); (try simp only [Act.put, List.setIfInBounds_toArray, List.set_cons_zero, List.set_cons_succ]))
    (refine takeF (i := 8) rfl ?_ (fun _ _ _ h => h) rfl hHeld ?_; (focus kernel_rfl); (try simp only [Act.put, List.setIfInBounds_toArray, List.set_cons_zero, List.set_cons_succ]))
    (refine takeF (i := 9) rfl ?_ (fun _ _ _ h => h) rfl hHeld ?_; (focus kernel_rfl); (try simp only [Act.put, List.setIfInBounds_toArray, List.set_cons_zero, List.set_cons_succ]))
    (refine takeF (i := 10) rfl ?_ (fun _ _ _ h => h) rfl hHeld ?_; (focus kernel_rfl); (try simp only [Act.put, List.setIfInBounds_toArray, List.set_cons_zero, List.set_cons_succ]))
    (refine takeT (i := 11) (v := ?_) rfl ?_ (fun _ _ _ h => h) rfl hHeld ?_ ?_; rotate_left; (focus kernel_rfl); (focus (intro w hSw; (try dsimp only at hSw); go_simp; (try with_reducible rfl))); (try simp only [Act.put, List.setIfInBounds_toArray, List.set_cons_zero, List.set_cons_succ]))
    (refine takeT (i := 12) (v := ?_) rfl ?_ (fun _ _ _ h => h) rfl hHeld ?_ ?_; rotate_left; (focus kernel_rfl); (focus (intro w hSw; (try dsimp only at hSw); go_simp; (try with_reducible rfl))); (try simp only [Act.put, List.setIfInBounds_toArray, List.set_cons_zero, List.set_cons_succ]))
    (refine takeT (i := 13) (v := ?_) rfl ?_ (fun _ _ _ h => h) rfl hHeld ?_ ?_; rotate_left; (focus kernel_rfl); (focus (intro w hSw; (try dsimp only at hSw); go_simp; (try with_reducible rfl))); (try simp only [Act.put, List.setIfInBounds_toArray, List.set_cons_zero, List.set_cons_succ]))
    (refine takeT (i := 14) (v := ?_) rfl ?_ (fun _ _ _ h => h) rfl hHeld ?_ ?_; rotate_left; (focus kernel_rfl); (focus (intro w hSw; (try dsimp only at hSw); go_simp; (try with_reducible rfl))); (try simp only [Act.put, List.setIfInBounds_toArray, List.set_cons_zero, List.set_cons_succ]))
    (refine takeT (i := 16) (v := ?_) rfl ?_ (fun _ _ _ h => h) rfl hHeld ?_ ?_; rotate_left; (focus kernel_rfl); (focus (intro w hSw; (try dsimp only at hSw); go_simp; (try with_reducible rfl))); (try simp only [Act.put, List.setIfInBounds_toArray, List.set_cons_zero, List.set_cons_succ]))
    (refine takeT (i := 18) (v := ?_) rfl ?_ (fun _ _ _ h => h) rfl hHeld ?_ ?_; rotate_left; (focus kernel_rfl); (focus (intro w hSw; (try dsimp only at hSw); go_simp; (try with_reducible rfl))); (try simp only [Act.put, List.setIfInBounds_toArray, List.set_cons_zero, List.set_cons_succ]))
    (refine doOne (i := 15) rfl ?_ (fun K hK => ?_); (focus kernel_rfl))
    ((first | fail | go_simp); (first | ((first | first | (go_at_call 15; (with_reducible refine (CC.out _).mono ?_); rintro e wh ⟨rfl, nh⟩) | (go_at_call 16; first | ((with_reducible refine (CH.out _).mono ?_); rintro e wh ⟨rfl, nh⟩) | ((with_reducible refine (CJ.out _).mono ?_); rintro e wh ⟨rfl, nh⟩)) | (go_at_call 18; (with_reducible refine (CZ.out _).mono ?_); rintro e wh ⟨rfl, nh⟩) | (go_at_call 19; first | ((with_reducible refine (CY.out _).mono ?_); rintro e wh ⟨rfl, nh⟩) | ((with_reducible refine (CW.out _).mono ?_); rintro e wh ⟨rfl, nh⟩))); go_wp2_with fail) | skip); refine hK.out _ _ ?_ (fun hHeldN => ?_); (focus (have hq := hHeld; (try dsimp only at hq); have k := Hd.nx (w := w) (cs := [(V.heap.size, 0, .int .u64 bb), (V.heap.size, 1, .int .u64 al), (w5.heap.size, 0, .int .u64 b2), (w5.heap.size, 1, .int .u64 l2), (w2.heap.size + 1, 0, .int .u64 bb), (w2.heap.size + 1, 1, .int .u64 bl), (w2.heap.size, 0, .int .u64 ab), (w2.heap.size, 1, .int .u64 al)]) (by go_split_ands; assumption) (by assumption); exact ⟨k.at (V.heap.size) (0) (.int .u64 bb) (by simp), k.at (V.heap.size) (1) (.int .u64 al) (by simp), k.at (w5.heap.size) (0) (.int .u64 b2) (by simp), k.at (w5.heap.size) (1) (.int .u64 l2) (by simp), k.at (w2.heap.size + 1) (0) (.int .u64 bb) (by simp), k.at (w2.heap.size + 1) (1) (.int .u64 bl) (by simp), k.at (w2.heap.size) (0) (.int .u64 ab) (by simp), k.at (w2.heap.size) (1) (.int .u64 al) (by simp), k⟩)); clear hHeld hK K; have hHeld := hHeldN; clear hHeldN; (try simp only [Act.put, List.setIfInBounds_toArray, List.set_cons_zero, List.set_cons_succ]))
    (refine doOne (i := 17) rfl ?_ (fun K hK => ?_); (focus kernel_rfl))
    ((first | fail | go_simp); (first | ((first | first | (go_at_call 15; (with_reducible refine (CC.out _).mono ?_); rintro e wh ⟨rfl, nh⟩) | (go_at_call 16; first | ((with_reducible refine (CH.out _).mono ?_); rintro e wh ⟨rfl, nh⟩) | ((with_reducible refine (CJ.out _).mono ?_); rintro e wh ⟨rfl, nh⟩)) | (go_at_call 18; (with_reducible refine (CZ.out _).mono ?_); rintro e wh ⟨rfl, nh⟩) | (go_at_call 19; first | ((with_reducible refine (CY.out _).mono ?_); rintro e wh ⟨rfl, nh⟩) | ((with_reducible refine (CW.out _).mono ?_); rintro e wh ⟨rfl, nh⟩))); go_wp2_with fail) | skip); refine hK.out _ _ ?_ (fun hHeldN => ?_); (focus (have hq := hHeld; (try dsimp only at hq); have k := Hd.nx (w := w) (cs := [(V.heap.size, 0, .int .u64 bb), (V.heap.size, 1, .int .u64 al), (w5.heap.size, 0, .int .u64 b2), (w5.heap.size, 1, .int .u64 l2), (w2.heap.size + 1, 0, .int .u64 bb), (w2.heap.size + 1, 1, .int .u64 bl), (w2.heap.size, 0, .int .u64 ab), (w2.heap.size, 1, .int .u64 al)]) (by go_split_ands; assumption) (by assumption); exact ⟨k.at (V.heap.size) (0) (.int .u64 bb) (by simp), k.at (V.heap.size) (1) (.int .u64 al) (by simp), k.at (w5.heap.size) (0) (.int .u64 b2) (by simp), k.at (w5.heap.size) (1) (.int .u64 l2) (by simp), k.at (w2.heap.size + 1) (0) (.int .u64 bb) (by simp), k.at (w2.heap.size + 1) (1) (.int .u64 bl) (by simp), k.at (w2.heap.size) (0) (.int .u64 ab) (by simp), k.at (w2.heap.size) (1) (.int .u64 al) (by simp), k⟩)); clear hHeld hK K; have hHeld := hHeldN; clear hHeldN; (try simp only [Act.put, List.setIfInBounds_toArray, List.set_cons_zero, List.set_cons_succ]))
    (refine doOne (i := 19) rfl ?_ (fun K hK => ?_); (focus kernel_rfl))
    ((first | fail | go_simp); (first | ((first | first | (go_at_call 15; (with_reducible refine (CC.out _).mono ?_); rintro e wh ⟨rfl, nh⟩) | (go_at_call 16; first | ((with_reducible refine (CH.out _).mono ?_); rintro e wh ⟨rfl, nh⟩) | ((with_reducible refine (CJ.out _).mono ?_); rintro e wh ⟨rfl, nh⟩)) | (go_at_call 18; (with_reducible refine (CZ.out _).mono ?_); rintro e wh ⟨rfl, nh⟩) | (go_at_call 19; first | ((with_reducible refine (CY.out _).mono ?_); rintro e wh ⟨rfl, nh⟩) | ((with_reducible refine (CW.out _).mono ?_); rintro e wh ⟨rfl, nh⟩))); go_wp2_with fail) | skip); refine hK.out _ _ ?_ (fun hHeldN => ?_); (focus (have hq := hHeld; (try dsimp only at hq); have k := Hd.nx (w := w) (cs := [(V.heap.size, 0, .int .u64 bb), (V.heap.size, 1, .int .u64 al), (w5.heap.size, 0, .int .u64 b2), (w5.heap.size, 1, .int .u64 l2), (w2.heap.size + 1, 0, .int .u64 bb), (w2.heap.size + 1, 1, .int .u64 bl), (w2.heap.size, 0, .int .u64 ab), (w2.heap.size, 1, .int .u64 al)]) (by go_split_ands; assumption) (by assumption); exact ⟨k.at (V.heap.size) (0) (.int .u64 bb) (by simp), k.at (V.heap.size) (1) (.int .u64 al) (by simp), k.at (w5.heap.size) (0) (.int .u64 b2) (by simp), k.at (w5.heap.size) (1) (.int .u64 l2) (by simp), k.at (w2.heap.size + 1) (0) (.int .u64 bb) (by simp), k.at (w2.heap.size + 1) (1) (.int .u64 bl) (by simp), k.at (w2.heap.size) (0) (.int .u64 ab) (by simp), k.at (w2.heap.size) (1) (.int .u64 al) (by simp), k⟩)); clear hHeld hK K; have hHeld := hHeldN; clear hHeldN; (try simp only [Act.put, List.setIfInBounds_toArray, List.set_cons_zero, List.set_cons_succ]))
    (refine takeT (i := 20) (v := ?_) rfl ?_ (fun _ _ _ h => h) rfl hHeld ?_ ?_; rotate_left; (focus kernel_rfl); (focus (intro w hSw; (try dsimp only at hSw); go_simp; (try with_reducible rfl))); (try simp only [Act.put, List.setIfInBounds_toArray, List.set_cons_zero, List.set_cons_succ]))
    (refine takeT (i := 21) (v := ?_) rfl ?_ (fun _ _ _ h => h) rfl hHeld ?_ ?_; rotate_left; (focus kernel_rfl); (focus (intro w hSw; (try dsimp only at hSw); go_simp; (try with_reducible rfl))); (try simp only [Act.put, List.setIfInBounds_toArray, List.set_cons_zero, List.set_cons_succ]))
    (refine takeT (i := 22) (v := ?_) rfl ?_ (fun _ _ _ h => h) rfl hHeld ?_ ?_; rotate_left; (focus kernel_rfl); (focus (intro w hSw; (try dsimp only at hSw); go_simp; (try with_reducible rfl))); (try simp only [Act.put, List.setIfInBounds_toArray, List.set_cons_zero, List.set_cons_succ]))
    (refine takeT (i := 23) (v := ?_) rfl ?_ (fun _ _ _ h => h) rfl hHeld ?_ ?_; rotate_left; (focus kernel_rfl); (focus (intro w hSw; (try dsimp only at hSw); go_simp; (try with_reducible rfl))); (try simp only [Act.put, List.setIfInBounds_toArray, List.set_cons_zero, List.set_cons_succ]))
    (refine wpAnyH_done (by kernel_rfl) ?_ _)
    obtain ⟨kc0, kc1, kc2, kc3, kc4, kc5, kc6, kc7, k⟩ := hHeld
    go_wp2
    go_ret
    exact ⟨rfl, k.below⟩
  · rcases hs2 : hasB bb bl x with _ | _
    · rw [hr, hs2] at hb
      replace hb : hasB b2 l2 x = true := by rw [hb]; rfl
      rw [hb] at CC
      rw [hr] at CH
      rw [hs2] at CJ
      have q1 : (true == true) = true := rfl
      clear hr hb hs2
      go_enter Try.func9, Try.ntmps9
      go_wp2_with fail
      refine (CR.out _).mono ?_
      rintro e w1 ⟨rfl, n1⟩
      go_wp2_with fail
      refine (CQ.out _).mono ?_
      rintro e w2 ⟨rfl, n2⟩
      have k1 := hd_new (bl_step n2 n1 (Below.size n1)) (.int .u64 ab) (.int .u64 al) 26
      have k2 := hd_more k1 (.int .u64 bb) (.int .u64 bl) 26
      simp only [World.size_alloc] at k2
      clear k1
      go_wp2_with fail
      refine (CA.out _).mono ?_
      rintro e w3 ⟨rfl, rfl⟩
      have p0 := k2.at w2.heap.size 0 (.int .u64 ab) (by simp)
      have p1 := k2.at w2.heap.size 1 (.int .u64 al) (by simp)
      have p2 := k2.at (w2.heap.size + 1) 0 (.int .u64 bb) (by simp)
      have p3 := k2.at (w2.heap.size + 1) 1 (.int .u64 bl) (by simp)
      go_upto_region 2 with fail
      generalize (w2.alloc (.cells #[.int .u64 ab, .int .u64 al] 26)).alloc (.cells #[.int .u64 bb, .int .u64 bl] 26) = U at k2 p0 p1 p2 p3 ⊢
      go_wp2_with fail
      refine (CS.out _).mono ?_
      rintro e w5 ⟨rfl, n5⟩
      replace k2 := k2.nx n5
      clear p0 p1 p2 p3
      have p0 := k2.at w2.heap.size 0 (.int .u64 ab) (by simp)
      have p1 := k2.at w2.heap.size 1 (.int .u64 al) (by simp)
      have p2 := k2.at (w2.heap.size + 1) 0 (.int .u64 bb) (by simp)
      have p3 := k2.at (w2.heap.size + 1) 1 (.int .u64 bl) (by simp)
      have z0 := World.block_lt_of_cell? _ _ p0
      have z2 := World.block_lt_of_cell? _ _ p2
      have k3 := hd_more k2 (.int .u64 b2) (.int .u64 l2) 26
      clear k2
      go_upto_region 7 with fail
      generalize w5.alloc (.cells #[.int .u64 b2, .int .u64 l2] 26) = V at k3 ⊢
      clear p0 p1 p2 p3
      have p0 := k3.at w2.heap.size 0 (.int .u64 ab) (by simp)
      have p1 := k3.at w2.heap.size 1 (.int .u64 al) (by simp)
      have p2 := k3.at (w2.heap.size + 1) 0 (.int .u64 bb) (by simp)
      have p3 := k3.at (w2.heap.size + 1) 1 (.int .u64 bl) (by simp)
      have k4 := hd_more k3 (.int .u64 bb) (.int .u64 al) 26
      clear k3
      go_upto_region 8 with fail
      generalize V.alloc (.cells #[.int .u64 bb, .int .u64 al] 26) = X at k4 ⊢
      clear p0 p1 p2 p3
      have p0 := k4.at w2.heap.size 0 (.int .u64 ab) (by simp)
      have p1 := k4.at w2.heap.size 1 (.int .u64 al) (by simp)
      have p2 := k4.at (w2.heap.size + 1) 0 (.int .u64 bb) (by simp)
      have p3 := k4.at (w2.heap.size + 1) 1 (.int .u64 bl) (by simp)
      have p4 := k4.at w5.heap.size 0 (.int .u64 b2) (by simp)
      have p5 := k4.at w5.heap.size 1 (.int .u64 l2) (by simp)
      have p6 := k4.at V.heap.size 0 (.int .u64 bb) (by simp)
      have p7 := k4.at V.heap.size 1 (.int .u64 al) (by simp)
      refine wp_region_held_drew (S := fun w' => w'.cell? ⟨V.heap.size, 0, none⟩ = some (.int .u64 bb) ∧ w'.cell? ⟨V.heap.size, 1, none⟩ = some (.int .u64 al) ∧ w'.cell? ⟨w5.heap.size, 0, none⟩ = some (.int .u64 b2) ∧ w'.cell? ⟨w5.heap.size, 1, none⟩ = some (.int .u64 l2) ∧ w'.cell? ⟨w2.heap.size + 1, 0, none⟩ = some (.int .u64 bb) ∧ w'.cell? ⟨w2.heap.size + 1, 1, none⟩ = some (.int .u64 bl) ∧ w'.cell? ⟨w2.heap.size, 0, none⟩ = some (.int .u64 ab) ∧ w'.cell? ⟨w2.heap.size, 1, none⟩ = some (.int .u64 al) ∧ Hd w [(V.heap.size, 0, .int .u64 bb), (V.heap.size, 1, .int .u64 al), (w5.heap.size, 0, .int .u64 b2), (w5.heap.size, 1, .int .u64 l2), (w2.heap.size + 1, 0, .int .u64 bb), (w2.heap.size + 1, 1, .int .u64 bl), (w2.heap.size, 0, .int .u64 ab), (w2.heap.size, 1, .int .u64 al)] w') (by kernel_rfl) ?_ (fun hHeld => ?_)
      focus (have k := Hd.drew (w := w) (cs := [(V.heap.size, 0, .int .u64 bb), (V.heap.size, 1, .int .u64 al), (w5.heap.size, 0, .int .u64 b2), (w5.heap.size, 1, .int .u64 l2), (w2.heap.size + 1, 0, .int .u64 bb), (w2.heap.size + 1, 1, .int .u64 bl), (w2.heap.size, 0, .int .u64 ab), (w2.heap.size, 1, .int .u64 al)]) (by assumption); exact ⟨k.at (V.heap.size) (0) (.int .u64 bb) (by simp), k.at (V.heap.size) (1) (.int .u64 al) (by simp), k.at (w5.heap.size) (0) (.int .u64 b2) (by simp), k.at (w5.heap.size) (1) (.int .u64 l2) (by simp), k.at (w2.heap.size + 1) (0) (.int .u64 bb) (by simp), k.at (w2.heap.size + 1) (1) (.int .u64 bl) (by simp), k.at (w2.heap.size) (0) (.int .u64 ab) (by simp), k.at (w2.heap.size) (1) (.int .u64 al) (by simp), k⟩)
      (refine takeT (i := 0) (v := ?_) rfl ?_ (fun _ _ _ h => h) rfl hHeld ?_ ?_; rotate_left; (focus kernel_rfl); (focus (intro w hSw; (try dsimp only at hSw); go_simp; (try with_reducible rfl))); (try simp only [Act.put, List.setIfInBounds_toArray, List.set_cons_zero, List.set_cons_succ]))
      (refine takeT (i := 1) (v := ?_) rfl ?_ (fun _ _ _ h => h) rfl hHeld ?_ ?_; rotate_left; (focus kernel_rfl); (focus (intro w hSw; (try dsimp only at hSw); go_simp; (try with_reducible rfl))); (try simp only [Act.put, List.setIfInBounds_toArray, List.set_cons_zero, List.set_cons_succ]))
      (refine takeT (i := 3) (v := ?_) rfl ?_ (fun _ _ _ h => h) rfl hHeld ?_ ?_; rotate_left; (focus kernel_rfl); (focus (intro w hSw; (try dsimp only at hSw); go_simp; (try with_reducible rfl))); (try simp only [Act.put, List.setIfInBounds_toArray, List.set_cons_zero, List.set_cons_succ]))
      (refine takeT (i := 4) (v := ?_) rfl ?_ (fun _ _ _ h => h) rfl hHeld ?_ ?_; rotate_left; (focus kernel_rfl); (focus (intro w hSw; (try dsimp only at hSw); go_simp; (try with_reducible rfl))); (try simp only [Act.put, List.setIfInBounds_toArray, List.set_cons_zero, List.set_cons_succ]))
      (refine doOne (i := 2) rfl ?_ (fun K hK => ?_); (focus kernel_rfl))
      ((first | fail | go_simp); (first | ((first | first | (go_at_call 15; (with_reducible refine (CC.out _).mono ?_); rintro e wh ⟨rfl, nh⟩) | (go_at_call 16; first | ((with_reducible refine (CH.out _).mono ?_); rintro e wh ⟨rfl, nh⟩) | ((with_reducible refine (CJ.out _).mono ?_); rintro e wh ⟨rfl, nh⟩)) | (go_at_call 18; (with_reducible refine (CZ.out _).mono ?_); rintro e wh ⟨rfl, nh⟩) | (go_at_call 19; first | ((with_reducible refine (CY.out _).mono ?_); rintro e wh ⟨rfl, nh⟩) | ((with_reducible refine (CW.out _).mono ?_); rintro e wh ⟨rfl, nh⟩))); go_wp2_with fail) | skip); refine hK.out _ _ ?_ (fun hHeldN => ?_); (focus (have hq := hHeld; (try dsimp only at hq); have k := Hd.nx (w := w) (cs := [(V.heap.size, 0, .int .u64 bb), (V.heap.size, 1, .int .u64 al), (w5.heap.size, 0, .int .u64 b2), (w5.heap.size, 1, .int .u64 l2), (w2.heap.size + 1, 0, .int .u64 bb), (w2.heap.size + 1, 1, .int .u64 bl), (w2.heap.size, 0, .int .u64 ab), (w2.heap.size, 1, .int .u64 al)]) (by go_split_ands; assumption) (by assumption); exact ⟨k.at (V.heap.size) (0) (.int .u64 bb) (by simp), k.at (V.heap.size) (1) (.int .u64 al) (by simp), k.at (w5.heap.size) (0) (.int .u64 b2) (by simp), k.at (w5.heap.size) (1) (.int .u64 l2) (by simp), k.at (w2.heap.size + 1) (0) (.int .u64 bb) (by simp), k.at (w2.heap.size + 1) (1) (.int .u64 bl) (by simp), k.at (w2.heap.size) (0) (.int .u64 ab) (by simp), k.at (w2.heap.size) (1) (.int .u64 al) (by simp), k⟩)); clear hHeld hK K; have hHeld := hHeldN; clear hHeldN; (try simp only [Act.put, List.setIfInBounds_toArray, List.set_cons_zero, List.set_cons_succ]))
      (refine doOne (i := 5) rfl ?_ (fun K hK => ?_); (focus kernel_rfl))
      ((first | fail | go_simp); (first | ((first | first | (go_at_call 15; (with_reducible refine (CC.out _).mono ?_); rintro e wh ⟨rfl, nh⟩) | (go_at_call 16; first | ((with_reducible refine (CH.out _).mono ?_); rintro e wh ⟨rfl, nh⟩) | ((with_reducible refine (CJ.out _).mono ?_); rintro e wh ⟨rfl, nh⟩)) | (go_at_call 18; (with_reducible refine (CZ.out _).mono ?_); rintro e wh ⟨rfl, nh⟩) | (go_at_call 19; first | ((with_reducible refine (CY.out _).mono ?_); rintro e wh ⟨rfl, nh⟩) | ((with_reducible refine (CW.out _).mono ?_); rintro e wh ⟨rfl, nh⟩))); go_wp2_with fail) | skip); refine hK.out _ _ ?_ (fun hHeldN => ?_); (focus (have hq := hHeld; (try dsimp only at hq); have k := Hd.nx (w := w) (cs := [(V.heap.size, 0, .int .u64 bb), (V.heap.size, 1, .int .u64 al), (w5.heap.size, 0, .int .u64 b2), (w5.heap.size, 1, .int .u64 l2), (w2.heap.size + 1, 0, .int .u64 bb), (w2.heap.size + 1, 1, .int .u64 bl), (w2.heap.size, 0, .int .u64 ab), (w2.heap.size, 1, .int .u64 al)]) (by go_split_ands; assumption) (by assumption); exact ⟨k.at (V.heap.size) (0) (.int .u64 bb) (by simp), k.at (V.heap.size) (1) (.int .u64 al) (by simp), k.at (w5.heap.size) (0) (.int .u64 b2) (by simp), k.at (w5.heap.size) (1) (.int .u64 l2) (by simp), k.at (w2.heap.size + 1) (0) (.int .u64 bb) (by simp), k.at (w2.heap.size + 1) (1) (.int .u64 bl) (by simp), k.at (w2.heap.size) (0) (.int .u64 ab) (by simp), k.at (w2.heap.size) (1) (.int .u64 al) (by simp), k⟩)); clear hHeld hK K; have hHeld := hHeldN; clear hHeldN; (try simp only [Act.put, List.setIfInBounds_toArray, List.set_cons_zero, List.set_cons_succ]))
      (refine takeT (i := 6) (v := ?_) rfl ?_ (fun _ _ _ h => h) rfl hHeld ?_ ?_; rotate_left; (focus kernel_rfl); (focus (intro w hSw; (try dsimp only at hSw); go_simp; (try with_reducible rfl))); (try simp only [Act.put, List.setIfInBounds_toArray, List.set_cons_zero, List.set_cons_succ]))
      (refine takeT (i := 7) (v := ?_) rfl ?_ (fun _ _ _ h => h) rfl hHeld ?_ ?_; rotate_left; (focus kernel_rfl); (focus (intro w hSw; (try dsimp only at hSw); go_simp; (try with_reducible rfl))); (try simp only [Act.put, List.setIfInBounds_toArray, List.set_cons_zero, List.set_cons_succ]))
      (refine takeT (i := 8) (v := ?_) rfl ?_ (fun _ _ _ h => h) rfl hHeld ?_ ?_; rotate_left; (focus kernel_rfl); (focus (intro w hSw; (try dsimp only at hSw); go_simp; (try with_reducible rfl))); (try simp only [Act.put, List.setIfInBounds_toArray, List.set_cons_zero, List.set_cons_succ]))
      (refine doOne (i := 9) rfl ?_ (fun K hK => ?_); (focus kernel_rfl))
      ((first | fail | go_simp); (first | ((first | first | (go_at_call 15; (with_reducible refine (CC.out _).mono ?_); rintro e wh ⟨rfl, nh⟩) | (go_at_call 16; first | ((with_reducible refine (CH.out _).mono ?_); rintro e wh ⟨rfl, nh⟩) | ((with_reducible refine (CJ.out _).mono ?_); rintro e wh ⟨rfl, nh⟩)) | (go_at_call 18; (with_reducible refine (CZ.out _).mono ?_); rintro e wh ⟨rfl, nh⟩) | (go_at_call 19; first | ((with_reducible refine (CY.out _).mono ?_); rintro e wh ⟨rfl, nh⟩) | ((with_reducible refine (CW.out _).mono ?_); rintro e wh ⟨rfl, nh⟩))); go_wp2_with fail) | skip); refine hK.out _ _ ?_ (fun hHeldN => ?_); (focus (have hq := hHeld; (try dsimp only at hq); have k := Hd.nx (w := w) (cs := [(V.heap.size, 0, .int .u64 bb), (V.heap.size, 1, .int .u64 al), (w5.heap.size, 0, .int .u64 b2), (w5.heap.size, 1, .int .u64 l2), (w2.heap.size + 1, 0, .int .u64 bb), (w2.heap.size + 1, 1, .int .u64 bl), (w2.heap.size, 0, .int .u64 ab), (w2.heap.size, 1, .int .u64 al)]) (by go_split_ands; assumption) (by assumption); exact ⟨k.at (V.heap.size) (0) (.int .u64 bb) (by simp), k.at (V.heap.size) (1) (.int .u64 al) (by simp), k.at (w5.heap.size) (0) (.int .u64 b2) (by simp), k.at (w5.heap.size) (1) (.int .u64 l2) (by simp), k.at (w2.heap.size + 1) (0) (.int .u64 bb) (by simp), k.at (w2.heap.size + 1) (1) (.int .u64 bl) (by simp), k.at (w2.heap.size) (0) (.int .u64 ab) (by simp), k.at (w2.heap.size) (1) (.int .u64 al) (by simp), k⟩)); clear hHeld hK K; have hHeld := hHeldN; clear hHeldN; (try simp only [Act.put, List.setIfInBounds_toArray, List.set_cons_zero, List.set_cons_succ]))
      (refine takeT (i := 10) (v := ?_) rfl ?_ (fun _ _ _ h => h) rfl hHeld ?_ ?_; rotate_left; (focus kernel_rfl); (focus (intro w hSw; (try dsimp only at hSw); go_simp; (try with_reducible rfl))); (try simp only [Act.put, List.setIfInBounds_toArray, List.set_cons_zero, List.set_cons_succ]))
      (refine takeT (i := 11) (v := ?_) rfl ?_ (fun _ _ _ h => h) rfl hHeld ?_ ?_; rotate_left; (focus kernel_rfl); (focus (intro w hSw; (try dsimp only at hSw); go_simp; (try with_reducible rfl))); (try simp only [Act.put, List.setIfInBounds_toArray, List.set_cons_zero, List.set_cons_succ]))
      (refine takeT (i := 12) (v := ?_) rfl ?_ (fun _ _ _ h => h) rfl hHeld ?_ ?_; rotate_left; (focus kernel_rfl); (focus (intro w hSw; (try dsimp only at hSw); go_simp; (try with_reducible rfl))); (try simp only [Act.put, List.setIfInBounds_toArray, List.set_cons_zero, List.set_cons_succ]))
      (refine takeT (i := 13) (v := ?_) rfl ?_ (fun _ _ _ h => h) rfl hHeld ?_ ?_; rotate_left; (focus kernel_rfl); (focus (intro w hSw; (try dsimp only at hSw); go_simp; (try with_reducible rfl))); (try simp only [Act.put, List.setIfInBounds_toArray, List.set_cons_zero, List.set_cons_succ]))
      (refine takeT (i := 14) (v := ?_) rfl ?_ (fun _ _ _ h => h) rfl hHeld ?_ ?_; rotate_left; (focus kernel_rfl); (focus (intro w hSw; (try dsimp only at hSw); go_simp; (try with_reducible rfl))); (try simp only [Act.put, List.setIfInBounds_toArray, List.set_cons_zero, List.set_cons_succ]))
      (refine takeT (i := 16) (v := ?_) rfl ?_ (fun _ _ _ h => h) rfl hHeld ?_ ?_; rotate_left; (focus kernel_rfl); (focus (intro w hSw; (try dsimp only at hSw); go_simp; (try with_reducible rfl))); (try simp only [Act.put, List.setIfInBounds_toArray, List.set_cons_zero, List.set_cons_succ]))
      (refine takeT (i := 18) (v := ?_) rfl ?_ (fun _ _ _ h => h) rfl hHeld ?_ ?_; rotate_left; (focus kernel_rfl); (focus (intro w hSw; (try dsimp only at hSw); go_simp; (try with_reducible rfl))); (try simp only [Act.put, List.setIfInBounds_toArray, List.set_cons_zero, List.set_cons_succ]))
      (refine doOne (i := 15) rfl ?_ (fun K hK => ?_); (focus kernel_rfl))
      ((first | fail | go_simp); (first | ((first | first | (go_at_call 15; (with_reducible refine (CC.out _).mono ?_); rintro e wh ⟨rfl, nh⟩) | (go_at_call 16; first | ((with_reducible refine (CH.out _).mono ?_); rintro e wh ⟨rfl, nh⟩) | ((with_reducible refine (CJ.out _).mono ?_); rintro e wh ⟨rfl, nh⟩)) | (go_at_call 18; (with_reducible refine (CZ.out _).mono ?_); rintro e wh ⟨rfl, nh⟩) | (go_at_call 19; first | ((with_reducible refine (CY.out _).mono ?_); rintro e wh ⟨rfl, nh⟩) | ((with_reducible refine (CW.out _).mono ?_); rintro e wh ⟨rfl, nh⟩))); go_wp2_with fail) | skip); refine hK.out _ _ ?_ (fun hHeldN => ?_); (focus (have hq := hHeld; (try dsimp only at hq); have k := Hd.nx (w := w) (cs := [(V.heap.size, 0, .int .u64 bb), (V.heap.size, 1, .int .u64 al), (w5.heap.size, 0, .int .u64 b2), (w5.heap.size, 1, .int .u64 l2), (w2.heap.size + 1, 0, .int .u64 bb), (w2.heap.size + 1, 1, .int .u64 bl), (w2.heap.size, 0, .int .u64 ab), (w2.heap.size, 1, .int .u64 al)]) (by go_split_ands; assumption) (by assumption); exact ⟨k.at (V.heap.size) (0) (.int .u64 bb) (by simp), k.at (V.heap.size) (1) (.int .u64 al) (by simp), k.at (w5.heap.size) (0) (.int .u64 b2) (by simp), k.at (w5.heap.size) (1) (.int .u64 l2) (by simp), k.at (w2.heap.size + 1) (0) (.int .u64 bb) (by simp), k.at (w2.heap.size + 1) (1) (.int .u64 bl) (by simp), k.at (w2.heap.size) (0) (.int .u64 ab) (by simp), k.at (w2.heap.size) (1) (.int .u64 al) (by simp), k⟩)); clear hHeld hK K; have hHeld := hHeldN; clear hHeldN; (try simp only [Act.put, List.setIfInBounds_toArray, List.set_cons_zero, List.set_cons_succ]))
      (refine doOne (i := 17) rfl ?_ (fun K hK => ?_); (focus kernel_rfl))
      ((first | fail | go_simp); (first | ((first | first | (go_at_call 15; (with_reducible refine (CC.out _).mono ?_); rintro e wh ⟨rfl, nh⟩) | (go_at_call 16; first | ((with_reducible refine (CH.out _).mono ?_); rintro e wh ⟨rfl, nh⟩) | ((with_reducible refine (CJ.out _).mono ?_); rintro e wh ⟨rfl, nh⟩)) | (go_at_call 18; (with_reducible refine (CZ.out _).mono ?_); rintro e wh ⟨rfl, nh⟩) | (go_at_call 19; first | ((with_reducible refine (CY.out _).mono ?_); rintro e wh ⟨rfl, nh⟩) | ((with_reducible refine (CW.out _).mono ?_); rintro e wh ⟨rfl, nh⟩))); go_wp2_with fail) | skip); refine hK.out _ _ ?_ (fun hHeldN => ?_); (focus (have hq := hHeld; (try dsimp only at hq); have k := Hd.nx (w := w) (cs := [(V.heap.size, 0, .int .u64 bb), (V.heap.size, 1, .int .u64 al), (w5.heap.size, 0, .int .u64 b2), (w5.heap.size, 1, .int .u64 l2), (w2.heap.size + 1, 0, .int .u64 bb), (w2.heap.size + 1, 1, .int .u64 bl), (w2.heap.size, 0, .int .u64 ab), (w2.heap.size, 1, .int .u64 al)]) (by go_split_ands; assumption) (by assumption); exact ⟨k.at (V.heap.size) (0) (.int .u64 bb) (by simp), k.at (V.heap.size) (1) (.int .u64 al) (by simp), k.at (w5.heap.size) (0) (.int .u64 b2) (by simp), k.at (w5.heap.size) (1) (.int .u64 l2) (by simp), k.at (w2.heap.size + 1) (0) (.int .u64 bb) (by simp), k.at (w2.heap.size + 1) (1) (.int .u64 bl) (by simp), k.at (w2.heap.size) (0) (.int .u64 ab) (by simp), k.at (w2.heap.size) (1) (.int .u64 al) (by simp), k⟩)); clear hHeld hK K; have hHeld := hHeldN; clear hHeldN; (try simp only [Act.put, List.setIfInBounds_toArray, List.set_cons_zero, List.set_cons_succ]))
      (refine doOne (i := 19) rfl ?_ (fun K hK => ?_); (focus kernel_rfl))
      ((first | fail | go_simp); (first | ((first | first | (go_at_call 15; (with_reducible refine (CC.out _).mono ?_); rintro e wh ⟨rfl, nh⟩) | (go_at_call 16; first | ((with_reducible refine (CH.out _).mono ?_); rintro e wh ⟨rfl, nh⟩) | ((with_reducible refine (CJ.out _).mono ?_); rintro e wh ⟨rfl, nh⟩)) | (go_at_call 18; (with_reducible refine (CZ.out _).mono ?_); rintro e wh ⟨rfl, nh⟩) | (go_at_call 19; first | ((with_reducible refine (CY.out _).mono ?_); rintro e wh ⟨rfl, nh⟩) | ((with_reducible refine (CW.out _).mono ?_); rintro e wh ⟨rfl, nh⟩))); go_wp2_with fail) | skip); refine hK.out _ _ ?_ (fun hHeldN => ?_); (focus (have hq := hHeld; (try dsimp only at hq); have k := Hd.nx (w := w) (cs := [(V.heap.size, 0, .int .u64 bb), (V.heap.size, 1, .int .u64 al), (w5.heap.size, 0, .int .u64 b2), (w5.heap.size, 1, .int .u64 l2), (w2.heap.size + 1, 0, .int .u64 bb), (w2.heap.size + 1, 1, .int .u64 bl), (w2.heap.size, 0, .int .u64 ab), (w2.heap.size, 1, .int .u64 al)]) (by go_split_ands; assumption) (by assumption); exact ⟨k.at (V.heap.size) (0) (.int .u64 bb) (by simp), k.at (V.heap.size) (1) (.int .u64 al) (by simp), k.at (w5.heap.size) (0) (.int .u64 b2) (by simp), k.at (w5.heap.size) (1) (.int .u64 l2) (by simp), k.at (w2.heap.size + 1) (0) (.int .u64 bb) (by simp), k.at (w2.heap.size + 1) (1) (.int .u64 bl) (by simp), k.at (w2.heap.size) (0) (.int .u64 ab) (by simp), k.at (w2.heap.size) (1) (.int .u64 al) (by simp), k⟩)); clear hHeld hK K; have hHeld := hHeldN; clear hHeldN; (try simp only [Act.put, List.setIfInBounds_toArray, List.set_cons_zero, List.set_cons_succ]))
      (refine takeT (i := 20) (v := ?_) rfl ?_ (fun _ _ _ h => h) rfl hHeld ?_ ?_; rotate_left; (focus kernel_rfl); (focus (intro w hSw; (try dsimp only at hSw); go_simp; (try with_reducible rfl))); (try simp only [Act.put, List.setIfInBounds_toArray, List.set_cons_zero, List.set_cons_succ]))
      (refine takeT (i := 21) (v := ?_) rfl ?_ (fun _ _ _ h => h) rfl hHeld ?_ ?_; rotate_left; (focus kernel_rfl); (focus (intro w hSw; (try dsimp only at hSw); go_simp; (try with_reducible rfl))); (try simp only [Act.put, List.setIfInBounds_toArray, List.set_cons_zero, List.set_cons_succ]))
      (refine takeT (i := 22) (v := ?_) rfl ?_ (fun _ _ _ h => h) rfl hHeld ?_ ?_; rotate_left; (focus kernel_rfl); (focus (intro w hSw; (try dsimp only at hSw); go_simp; (try with_reducible rfl))); (try simp only [Act.put, List.setIfInBounds_toArray, List.set_cons_zero, List.set_cons_succ]))
      (refine takeT (i := 23) (v := ?_) rfl ?_ (fun _ _ _ h => h) rfl hHeld ?_ ?_; rotate_left; (focus kernel_rfl); (focus (intro w hSw; (try dsimp only at hSw); go_simp; (try with_reducible rfl))); (try simp only [Act.put, List.setIfInBounds_toArray, List.set_cons_zero, List.set_cons_succ]))
      (refine wpAnyH_done (by kernel_rfl) ?_ _)
      obtain ⟨kc0, kc1, kc2, kc3, kc4, kc5, kc6, kc7, k⟩ := hHeld
      go_wp2
      go_ret
      exact ⟨rfl, k.below⟩
    · rw [hr, hs2] at hb
      replace hb : hasB b2 l2 x = false := by rw [hb]; rfl
      rw [hb] at CC
      rw [hr] at CH
      rw [hs2] at CJ
      have q1 : (false == false) = true := rfl
      clear hr hb hs2
      go_enter Try.func9, Try.ntmps9
      go_wp2_with fail
      refine (CR.out _).mono ?_
      rintro e w1 ⟨rfl, n1⟩
      go_wp2_with fail
      refine (CQ.out _).mono ?_
      rintro e w2 ⟨rfl, n2⟩
      have k1 := hd_new (bl_step n2 n1 (Below.size n1)) (.int .u64 ab) (.int .u64 al) 26
      have k2 := hd_more k1 (.int .u64 bb) (.int .u64 bl) 26
      simp only [World.size_alloc] at k2
      clear k1
      go_wp2_with fail
      refine (CA.out _).mono ?_
      rintro e w3 ⟨rfl, rfl⟩
      have p0 := k2.at w2.heap.size 0 (.int .u64 ab) (by simp)
      have p1 := k2.at w2.heap.size 1 (.int .u64 al) (by simp)
      have p2 := k2.at (w2.heap.size + 1) 0 (.int .u64 bb) (by simp)
      have p3 := k2.at (w2.heap.size + 1) 1 (.int .u64 bl) (by simp)
      go_upto_region 2 with fail
      generalize (w2.alloc (.cells #[.int .u64 ab, .int .u64 al] 26)).alloc (.cells #[.int .u64 bb, .int .u64 bl] 26) = U at k2 p0 p1 p2 p3 ⊢
      go_wp2_with fail
      refine (CS.out _).mono ?_
      rintro e w5 ⟨rfl, n5⟩
      replace k2 := k2.nx n5
      clear p0 p1 p2 p3
      have p0 := k2.at w2.heap.size 0 (.int .u64 ab) (by simp)
      have p1 := k2.at w2.heap.size 1 (.int .u64 al) (by simp)
      have p2 := k2.at (w2.heap.size + 1) 0 (.int .u64 bb) (by simp)
      have p3 := k2.at (w2.heap.size + 1) 1 (.int .u64 bl) (by simp)
      have z0 := World.block_lt_of_cell? _ _ p0
      have z2 := World.block_lt_of_cell? _ _ p2
      have k3 := hd_more k2 (.int .u64 b2) (.int .u64 l2) 26
      clear k2
      go_upto_region 7 with fail
      generalize w5.alloc (.cells #[.int .u64 b2, .int .u64 l2] 26) = V at k3 ⊢
      clear p0 p1 p2 p3
      have p0 := k3.at w2.heap.size 0 (.int .u64 ab) (by simp)
      have p1 := k3.at w2.heap.size 1 (.int .u64 al) (by simp)
      have p2 := k3.at (w2.heap.size + 1) 0 (.int .u64 bb) (by simp)
      have p3 := k3.at (w2.heap.size + 1) 1 (.int .u64 bl) (by simp)
      have k4 := hd_more k3 (.int .u64 bb) (.int .u64 al) 26
      clear k3
      go_upto_region 8 with fail
      generalize V.alloc (.cells #[.int .u64 bb, .int .u64 al] 26) = X at k4 ⊢
      clear p0 p1 p2 p3
      have p0 := k4.at w2.heap.size 0 (.int .u64 ab) (by simp)
      have p1 := k4.at w2.heap.size 1 (.int .u64 al) (by simp)
      have p2 := k4.at (w2.heap.size + 1) 0 (.int .u64 bb) (by simp)
      have p3 := k4.at (w2.heap.size + 1) 1 (.int .u64 bl) (by simp)
      have p4 := k4.at w5.heap.size 0 (.int .u64 b2) (by simp)
      have p5 := k4.at w5.heap.size 1 (.int .u64 l2) (by simp)
      have p6 := k4.at V.heap.size 0 (.int .u64 bb) (by simp)
      have p7 := k4.at V.heap.size 1 (.int .u64 al) (by simp)
      refine wp_region_held_drew (S := fun w' => w'.cell? ⟨V.heap.size, 0, none⟩ = some (.int .u64 bb) ∧ w'.cell? ⟨V.heap.size, 1, none⟩ = some (.int .u64 al) ∧ w'.cell? ⟨w5.heap.size, 0, none⟩ = some (.int .u64 b2) ∧ w'.cell? ⟨w5.heap.size, 1, none⟩ = some (.int .u64 l2) ∧ w'.cell? ⟨w2.heap.size + 1, 0, none⟩ = some (.int .u64 bb) ∧ w'.cell? ⟨w2.heap.size + 1, 1, none⟩ = some (.int .u64 bl) ∧ w'.cell? ⟨w2.heap.size, 0, none⟩ = some (.int .u64 ab) ∧ w'.cell? ⟨w2.heap.size, 1, none⟩ = some (.int .u64 al) ∧ Hd w [(V.heap.size, 0, .int .u64 bb), (V.heap.size, 1, .int .u64 al), (w5.heap.size, 0, .int .u64 b2), (w5.heap.size, 1, .int .u64 l2), (w2.heap.size + 1, 0, .int .u64 bb), (w2.heap.size + 1, 1, .int .u64 bl), (w2.heap.size, 0, .int .u64 ab), (w2.heap.size, 1, .int .u64 al)] w') (by kernel_rfl) ?_ (fun hHeld => ?_)
      focus (have k := Hd.drew (w := w) (cs := [(V.heap.size, 0, .int .u64 bb), (V.heap.size, 1, .int .u64 al), (w5.heap.size, 0, .int .u64 b2), (w5.heap.size, 1, .int .u64 l2), (w2.heap.size + 1, 0, .int .u64 bb), (w2.heap.size + 1, 1, .int .u64 bl), (w2.heap.size, 0, .int .u64 ab), (w2.heap.size, 1, .int .u64 al)]) (by assumption); exact ⟨k.at (V.heap.size) (0) (.int .u64 bb) (by simp), k.at (V.heap.size) (1) (.int .u64 al) (by simp), k.at (w5.heap.size) (0) (.int .u64 b2) (by simp), k.at (w5.heap.size) (1) (.int .u64 l2) (by simp), k.at (w2.heap.size + 1) (0) (.int .u64 bb) (by simp), k.at (w2.heap.size + 1) (1) (.int .u64 bl) (by simp), k.at (w2.heap.size) (0) (.int .u64 ab) (by simp), k.at (w2.heap.size) (1) (.int .u64 al) (by simp), k⟩)
      (refine takeT (i := 0) (v := ?_) rfl ?_ (fun _ _ _ h => h) rfl hHeld ?_ ?_; rotate_left; (focus kernel_rfl); (focus (intro w hSw; (try dsimp only at hSw); go_simp; (try with_reducible rfl))); (try simp only [Act.put, List.setIfInBounds_toArray, List.set_cons_zero, List.set_cons_succ]))
      (refine takeT (i := 1) (v := ?_) rfl ?_ (fun _ _ _ h => h) rfl hHeld ?_ ?_; rotate_left; (focus kernel_rfl); (focus (intro w hSw; (try dsimp only at hSw); go_simp; (try with_reducible rfl))); (try simp only [Act.put, List.setIfInBounds_toArray, List.set_cons_zero, List.set_cons_succ]))
      (refine takeT (i := 3) (v := ?_) rfl ?_ (fun _ _ _ h => h) rfl hHeld ?_ ?_; rotate_left; (focus kernel_rfl); (focus (intro w hSw; (try dsimp only at hSw); go_simp; (try with_reducible rfl))); (try simp only [Act.put, List.setIfInBounds_toArray, List.set_cons_zero, List.set_cons_succ]))
      (refine takeT (i := 4) (v := ?_) rfl ?_ (fun _ _ _ h => h) rfl hHeld ?_ ?_; rotate_left; (focus kernel_rfl); (focus (intro w hSw; (try dsimp only at hSw); go_simp; (try with_reducible rfl))); (try simp only [Act.put, List.setIfInBounds_toArray, List.set_cons_zero, List.set_cons_succ]))
      (refine doOne (i := 2) rfl ?_ (fun K hK => ?_); (focus kernel_rfl))
      ((first | fail | go_simp); (first | ((first | first | (go_at_call 15; (with_reducible refine (CC.out _).mono ?_); rintro e wh ⟨rfl, nh⟩) | (go_at_call 16; first | ((with_reducible refine (CH.out _).mono ?_); rintro e wh ⟨rfl, nh⟩) | ((with_reducible refine (CJ.out _).mono ?_); rintro e wh ⟨rfl, nh⟩)) | (go_at_call 18; (with_reducible refine (CZ.out _).mono ?_); rintro e wh ⟨rfl, nh⟩) | (go_at_call 19; first | ((with_reducible refine (CY.out _).mono ?_); rintro e wh ⟨rfl, nh⟩) | ((with_reducible refine (CW.out _).mono ?_); rintro e wh ⟨rfl, nh⟩))); go_wp2_with fail) | skip); refine hK.out _ _ ?_ (fun hHeldN => ?_); (focus (have hq := hHeld; (try dsimp only at hq); have k := Hd.nx (w := w) (cs := [(V.heap.size, 0, .int .u64 bb), (V.heap.size, 1, .int .u64 al), (w5.heap.size, 0, .int .u64 b2), (w5.heap.size, 1, .int .u64 l2), (w2.heap.size + 1, 0, .int .u64 bb), (w2.heap.size + 1, 1, .int .u64 bl), (w2.heap.size, 0, .int .u64 ab), (w2.heap.size, 1, .int .u64 al)]) (by go_split_ands; assumption) (by assumption); exact ⟨k.at (V.heap.size) (0) (.int .u64 bb) (by simp), k.at (V.heap.size) (1) (.int .u64 al) (by simp), k.at (w5.heap.size) (0) (.int .u64 b2) (by simp), k.at (w5.heap.size) (1) (.int .u64 l2) (by simp), k.at (w2.heap.size + 1) (0) (.int .u64 bb) (by simp), k.at (w2.heap.size + 1) (1) (.int .u64 bl) (by simp), k.at (w2.heap.size) (0) (.int .u64 ab) (by simp), k.at (w2.heap.size) (1) (.int .u64 al) (by simp), k⟩)); clear hHeld hK K; have hHeld := hHeldN; clear hHeldN; (try simp only [Act.put, List.setIfInBounds_toArray, List.set_cons_zero, List.set_cons_succ]))
      (refine doOne (i := 5) rfl ?_ (fun K hK => ?_); (focus kernel_rfl))
      ((first | fail | go_simp); (first | ((first | first | (go_at_call 15; (with_reducible refine (CC.out _).mono ?_); rintro e wh ⟨rfl, nh⟩) | (go_at_call 16; first | ((with_reducible refine (CH.out _).mono ?_); rintro e wh ⟨rfl, nh⟩) | ((with_reducible refine (CJ.out _).mono ?_); rintro e wh ⟨rfl, nh⟩)) | (go_at_call 18; (with_reducible refine (CZ.out _).mono ?_); rintro e wh ⟨rfl, nh⟩) | (go_at_call 19; first | ((with_reducible refine (CY.out _).mono ?_); rintro e wh ⟨rfl, nh⟩) | ((with_reducible refine (CW.out _).mono ?_); rintro e wh ⟨rfl, nh⟩))); go_wp2_with fail) | skip); refine hK.out _ _ ?_ (fun hHeldN => ?_); (focus (have hq := hHeld; (try dsimp only at hq); have k := Hd.nx (w := w) (cs := [(V.heap.size, 0, .int .u64 bb), (V.heap.size, 1, .int .u64 al), (w5.heap.size, 0, .int .u64 b2), (w5.heap.size, 1, .int .u64 l2), (w2.heap.size + 1, 0, .int .u64 bb), (w2.heap.size + 1, 1, .int .u64 bl), (w2.heap.size, 0, .int .u64 ab), (w2.heap.size, 1, .int .u64 al)]) (by go_split_ands; assumption) (by assumption); exact ⟨k.at (V.heap.size) (0) (.int .u64 bb) (by simp), k.at (V.heap.size) (1) (.int .u64 al) (by simp), k.at (w5.heap.size) (0) (.int .u64 b2) (by simp), k.at (w5.heap.size) (1) (.int .u64 l2) (by simp), k.at (w2.heap.size + 1) (0) (.int .u64 bb) (by simp), k.at (w2.heap.size + 1) (1) (.int .u64 bl) (by simp), k.at (w2.heap.size) (0) (.int .u64 ab) (by simp), k.at (w2.heap.size) (1) (.int .u64 al) (by simp), k⟩)); clear hHeld hK K; have hHeld := hHeldN; clear hHeldN; (try simp only [Act.put, List.setIfInBounds_toArray, List.set_cons_zero, List.set_cons_succ]))
      (refine takeT (i := 6) (v := ?_) rfl ?_ (fun _ _ _ h => h) rfl hHeld ?_ ?_; rotate_left; (focus kernel_rfl); (focus (intro w hSw; (try dsimp only at hSw); go_simp; (try with_reducible rfl))); (try simp only [Act.put, List.setIfInBounds_toArray, List.set_cons_zero, List.set_cons_succ]))
      (refine takeT (i := 7) (v := ?_) rfl ?_ (fun _ _ _ h => h) rfl hHeld ?_ ?_; rotate_left; (focus kernel_rfl); (focus (intro w hSw; (try dsimp only at hSw); go_simp; (try with_reducible rfl))); (try simp only [Act.put, List.setIfInBounds_toArray, List.set_cons_zero, List.set_cons_succ]))
      (refine takeT (i := 8) (v := ?_) rfl ?_ (fun _ _ _ h => h) rfl hHeld ?_ ?_; rotate_left; (focus kernel_rfl); (focus (intro w hSw; (try dsimp only at hSw); go_simp; (try with_reducible rfl))); (try simp only [Act.put, List.setIfInBounds_toArray, List.set_cons_zero, List.set_cons_succ]))
      (refine doOne (i := 9) rfl ?_ (fun K hK => ?_); (focus kernel_rfl))
      ((first | fail | go_simp); (first | ((first | first | (go_at_call 15; (with_reducible refine (CC.out _).mono ?_); rintro e wh ⟨rfl, nh⟩) | (go_at_call 16; first | ((with_reducible refine (CH.out _).mono ?_); rintro e wh ⟨rfl, nh⟩) | ((with_reducible refine (CJ.out _).mono ?_); rintro e wh ⟨rfl, nh⟩)) | (go_at_call 18; (with_reducible refine (CZ.out _).mono ?_); rintro e wh ⟨rfl, nh⟩) | (go_at_call 19; first | ((with_reducible refine (CY.out _).mono ?_); rintro e wh ⟨rfl, nh⟩) | ((with_reducible refine (CW.out _).mono ?_); rintro e wh ⟨rfl, nh⟩))); go_wp2_with fail) | skip); refine hK.out _ _ ?_ (fun hHeldN => ?_); (focus (have hq := hHeld; (try dsimp only at hq); have k := Hd.nx (w := w) (cs := [(V.heap.size, 0, .int .u64 bb), (V.heap.size, 1, .int .u64 al), (w5.heap.size, 0, .int .u64 b2), (w5.heap.size, 1, .int .u64 l2), (w2.heap.size + 1, 0, .int .u64 bb), (w2.heap.size + 1, 1, .int .u64 bl), (w2.heap.size, 0, .int .u64 ab), (w2.heap.size, 1, .int .u64 al)]) (by go_split_ands; assumption) (by assumption); exact ⟨k.at (V.heap.size) (0) (.int .u64 bb) (by simp), k.at (V.heap.size) (1) (.int .u64 al) (by simp), k.at (w5.heap.size) (0) (.int .u64 b2) (by simp), k.at (w5.heap.size) (1) (.int .u64 l2) (by simp), k.at (w2.heap.size + 1) (0) (.int .u64 bb) (by simp), k.at (w2.heap.size + 1) (1) (.int .u64 bl) (by simp), k.at (w2.heap.size) (0) (.int .u64 ab) (by simp), k.at (w2.heap.size) (1) (.int .u64 al) (by simp), k⟩)); clear hHeld hK K; have hHeld := hHeldN; clear hHeldN; (try simp only [Act.put, List.setIfInBounds_toArray, List.set_cons_zero, List.set_cons_succ]))
      (refine takeT (i := 10) (v := ?_) rfl ?_ (fun _ _ _ h => h) rfl hHeld ?_ ?_; rotate_left; (focus kernel_rfl); (focus (intro w hSw; (try dsimp only at hSw); go_simp; (try with_reducible rfl))); (try simp only [Act.put, List.setIfInBounds_toArray, List.set_cons_zero, List.set_cons_succ]))
      (refine takeT (i := 11) (v := ?_) rfl ?_ (fun _ _ _ h => h) rfl hHeld ?_ ?_; rotate_left; (focus kernel_rfl); (focus (intro w hSw; (try dsimp only at hSw); go_simp; (try with_reducible rfl))); (try simp only [Act.put, List.setIfInBounds_toArray, List.set_cons_zero, List.set_cons_succ]))
      (refine takeT (i := 12) (v := ?_) rfl ?_ (fun _ _ _ h => h) rfl hHeld ?_ ?_; rotate_left; (focus kernel_rfl); (focus (intro w hSw; (try dsimp only at hSw); go_simp; (try with_reducible rfl))); (try simp only [Act.put, List.setIfInBounds_toArray, List.set_cons_zero, List.set_cons_succ]))
      (refine takeT (i := 13) (v := ?_) rfl ?_ (fun _ _ _ h => h) rfl hHeld ?_ ?_; rotate_left; (focus kernel_rfl); (focus (intro w hSw; (try dsimp only at hSw); go_simp; (try with_reducible rfl))); (try simp only [Act.put, List.setIfInBounds_toArray, List.set_cons_zero, List.set_cons_succ]))
      (refine takeT (i := 14) (v := ?_) rfl ?_ (fun _ _ _ h => h) rfl hHeld ?_ ?_; rotate_left; (focus kernel_rfl); (focus (intro w hSw; (try dsimp only at hSw); go_simp; (try with_reducible rfl))); (try simp only [Act.put, List.setIfInBounds_toArray, List.set_cons_zero, List.set_cons_succ]))
      (refine takeT (i := 16) (v := ?_) rfl ?_ (fun _ _ _ h => h) rfl hHeld ?_ ?_; rotate_left; (focus kernel_rfl); (focus (intro w hSw; (try dsimp only at hSw); go_simp; (try with_reducible rfl))); (try simp only [Act.put, List.setIfInBounds_toArray, List.set_cons_zero, List.set_cons_succ]))
      (refine takeT (i := 18) (v := ?_) rfl ?_ (fun _ _ _ h => h) rfl hHeld ?_ ?_; rotate_left; (focus kernel_rfl); (focus (intro w hSw; (try dsimp only at hSw); go_simp; (try with_reducible rfl))); (try simp only [Act.put, List.setIfInBounds_toArray, List.set_cons_zero, List.set_cons_succ]))
      (refine doOne (i := 15) rfl ?_ (fun K hK => ?_); (focus kernel_rfl))
      ((first | fail | go_simp); (first | ((first | first | (go_at_call 15; (with_reducible refine (CC.out _).mono ?_); rintro e wh ⟨rfl, nh⟩) | (go_at_call 16; first | ((with_reducible refine (CH.out _).mono ?_); rintro e wh ⟨rfl, nh⟩) | ((with_reducible refine (CJ.out _).mono ?_); rintro e wh ⟨rfl, nh⟩)) | (go_at_call 18; (with_reducible refine (CZ.out _).mono ?_); rintro e wh ⟨rfl, nh⟩) | (go_at_call 19; first | ((with_reducible refine (CY.out _).mono ?_); rintro e wh ⟨rfl, nh⟩) | ((with_reducible refine (CW.out _).mono ?_); rintro e wh ⟨rfl, nh⟩))); go_wp2_with fail) | skip); refine hK.out _ _ ?_ (fun hHeldN => ?_); (focus (have hq := hHeld; (try dsimp only at hq); have k := Hd.nx (w := w) (cs := [(V.heap.size, 0, .int .u64 bb), (V.heap.size, 1, .int .u64 al), (w5.heap.size, 0, .int .u64 b2), (w5.heap.size, 1, .int .u64 l2), (w2.heap.size + 1, 0, .int .u64 bb), (w2.heap.size + 1, 1, .int .u64 bl), (w2.heap.size, 0, .int .u64 ab), (w2.heap.size, 1, .int .u64 al)]) (by go_split_ands; assumption) (by assumption); exact ⟨k.at (V.heap.size) (0) (.int .u64 bb) (by simp), k.at (V.heap.size) (1) (.int .u64 al) (by simp), k.at (w5.heap.size) (0) (.int .u64 b2) (by simp), k.at (w5.heap.size) (1) (.int .u64 l2) (by simp), k.at (w2.heap.size + 1) (0) (.int .u64 bb) (by simp), k.at (w2.heap.size + 1) (1) (.int .u64 bl) (by simp), k.at (w2.heap.size) (0) (.int .u64 ab) (by simp), k.at (w2.heap.size) (1) (.int .u64 al) (by simp), k⟩)); clear hHeld hK K; have hHeld := hHeldN; clear hHeldN; (try simp only [Act.put, List.setIfInBounds_toArray, List.set_cons_zero, List.set_cons_succ]))
      (refine doOne (i := 17) rfl ?_ (fun K hK => ?_); (focus kernel_rfl))
      ((first | fail | go_simp); (first | ((first | first | (go_at_call 15; (with_reducible refine (CC.out _).mono ?_); rintro e wh ⟨rfl, nh⟩) | (go_at_call 16; first | ((with_reducible refine (CH.out _).mono ?_); rintro e wh ⟨rfl, nh⟩) | ((with_reducible refine (CJ.out _).mono ?_); rintro e wh ⟨rfl, nh⟩)) | (go_at_call 18; (with_reducible refine (CZ.out _).mono ?_); rintro e wh ⟨rfl, nh⟩) | (go_at_call 19; first | ((with_reducible refine (CY.out _).mono ?_); rintro e wh ⟨rfl, nh⟩) | ((with_reducible refine (CW.out _).mono ?_); rintro e wh ⟨rfl, nh⟩))); go_wp2_with fail) | skip); refine hK.out _ _ ?_ (fun hHeldN => ?_); (focus (have hq := hHeld; (try dsimp only at hq); have k := Hd.nx (w := w) (cs := [(V.heap.size, 0, .int .u64 bb), (V.heap.size, 1, .int .u64 al), (w5.heap.size, 0, .int .u64 b2), (w5.heap.size, 1, .int .u64 l2), (w2.heap.size + 1, 0, .int .u64 bb), (w2.heap.size + 1, 1, .int .u64 bl), (w2.heap.size, 0, .int .u64 ab), (w2.heap.size, 1, .int .u64 al)]) (by go_split_ands; assumption) (by assumption); exact ⟨k.at (V.heap.size) (0) (.int .u64 bb) (by simp), k.at (V.heap.size) (1) (.int .u64 al) (by simp), k.at (w5.heap.size) (0) (.int .u64 b2) (by simp), k.at (w5.heap.size) (1) (.int .u64 l2) (by simp), k.at (w2.heap.size + 1) (0) (.int .u64 bb) (by simp), k.at (w2.heap.size + 1) (1) (.int .u64 bl) (by simp), k.at (w2.heap.size) (0) (.int .u64 ab) (by simp), k.at (w2.heap.size) (1) (.int .u64 al) (by simp), k⟩)); clear hHeld hK K; have hHeld := hHeldN; clear hHeldN; (try simp only [Act.put, List.setIfInBounds_toArray, List.set_cons_zero, List.set_cons_succ]))
      (refine doOne (i := 19) rfl ?_ (fun K hK => ?_); (focus kernel_rfl))
      ((first | fail | go_simp); (first | ((first | first | (go_at_call 15; (with_reducible refine (CC.out _).mono ?_); rintro e wh ⟨rfl, nh⟩) | (go_at_call 16; first | ((with_reducible refine (CH.out _).mono ?_); rintro e wh ⟨rfl, nh⟩) | ((with_reducible refine (CJ.out _).mono ?_); rintro e wh ⟨rfl, nh⟩)) | (go_at_call 18; (with_reducible refine (CZ.out _).mono ?_); rintro e wh ⟨rfl, nh⟩) | (go_at_call 19; first | ((with_reducible refine (CY.out _).mono ?_); rintro e wh ⟨rfl, nh⟩) | ((with_reducible refine (CW.out _).mono ?_); rintro e wh ⟨rfl, nh⟩))); go_wp2_with fail) | skip); refine hK.out _ _ ?_ (fun hHeldN => ?_); (focus (have hq := hHeld; (try dsimp only at hq); have k := Hd.nx (w := w) (cs := [(V.heap.size, 0, .int .u64 bb), (V.heap.size, 1, .int .u64 al), (w5.heap.size, 0, .int .u64 b2), (w5.heap.size, 1, .int .u64 l2), (w2.heap.size + 1, 0, .int .u64 bb), (w2.heap.size + 1, 1, .int .u64 bl), (w2.heap.size, 0, .int .u64 ab), (w2.heap.size, 1, .int .u64 al)]) (by go_split_ands; assumption) (by assumption); exact ⟨k.at (V.heap.size) (0) (.int .u64 bb) (by simp), k.at (V.heap.size) (1) (.int .u64 al) (by simp), k.at (w5.heap.size) (0) (.int .u64 b2) (by simp), k.at (w5.heap.size) (1) (.int .u64 l2) (by simp), k.at (w2.heap.size + 1) (0) (.int .u64 bb) (by simp), k.at (w2.heap.size + 1) (1) (.int .u64 bl) (by simp), k.at (w2.heap.size) (0) (.int .u64 ab) (by simp), k.at (w2.heap.size) (1) (.int .u64 al) (by simp), k⟩)); clear hHeld hK K; have hHeld := hHeldN; clear hHeldN; (try simp only [Act.put, List.setIfInBounds_toArray, List.set_cons_zero, List.set_cons_succ]))
      (refine takeT (i := 20) (v := ?_) rfl ?_ (fun _ _ _ h => h) rfl hHeld ?_ ?_; rotate_left; (focus kernel_rfl); (focus (intro w hSw; (try dsimp only at hSw); go_simp; (try with_reducible rfl))); (try simp only [Act.put, List.setIfInBounds_toArray, List.set_cons_zero, List.set_cons_succ]))
      (refine takeT (i := 21) (v := ?_) rfl ?_ (fun _ _ _ h => h) rfl hHeld ?_ ?_; rotate_left; (focus kernel_rfl); (focus (intro w hSw; (try dsimp only at hSw); go_simp; (try with_reducible rfl))); (try simp only [Act.put, List.setIfInBounds_toArray, List.set_cons_zero, List.set_cons_succ]))
      (refine takeT (i := 22) (v := ?_) rfl ?_ (fun _ _ _ h => h) rfl hHeld ?_ ?_; rotate_left; (focus kernel_rfl); (focus (intro w hSw; (try dsimp only at hSw); go_simp; (try with_reducible rfl))); (try simp only [Act.put, List.setIfInBounds_toArray, List.set_cons_zero, List.set_cons_succ]))
      (refine takeT (i := 23) (v := ?_) rfl ?_ (fun _ _ _ h => h) rfl hHeld ?_ ?_; rotate_left; (focus kernel_rfl); (focus (intro w hSw; (try dsimp only at hSw); go_simp; (try with_reducible rfl))); (try simp only [Act.put, List.setIfInBounds_toArray, List.set_cons_zero, List.set_cons_succ]))
      (refine wpAnyH_done (by kernel_rfl) ?_ _)
      obtain ⟨kc0, kc1, kc2, kc3, kc4, kc5, kc6, kc7, k⟩ := hHeld
      go_wp2
      go_ret
      exact ⟨rfl, k.below⟩

set_option maxHeartbeats 6000000 in
theorem walkC (a0 a1 a2 a3 a4 : Int) (w : World) (h0 : 0 ≤ a0) (h1 : 0 ≤ a1) (h2 : 0 ≤ a2) (h3 : 0 ≤ a3) (h4 : 0 ≤ a4) (hc : rgB a0 a1 = rgB a2 a3 ∧ rgL a0 a1 = rgL a2 a3) :
    Calls Try.prog 9 #[.int .u64 a0, .int .u64 a1, .int .u64 a2, .int .u64 a3, .int .u64 a4] w fun e w' => e = .returned (.bool true) ∧ Nx w w' := by
  obtain ⟨r1, r2, r3⟩ := rg_in a0 a1
  obtain ⟨s1, s2, s3⟩ := rg_in a2 a3
  have b4 : 0 ≤ a4 % 1099511627776 ∧ a4 % 1099511627776 < 1099511627776 := by omega
  have CR := Lib.hid (fun W => sRange_any a0 a1 W h0 h1)
  have CQ := Lib.hid (fun W => sRange_any a2 a3 W h2 h3)
  have CA := Lib.hid (fun W => sAddr_any a4 W h4)
  generalize rgB a0 a1 = ab at *
  generalize rgL a0 a1 = al at *
  generalize rgB a2 a3 = bb at *
  generalize rgL a2 a3 = bl at *
  generalize a4 % 1099511627776 = x at *
  obtain ⟨c1, c2⟩ := hc
  subst c1
  subst c2
  have c3 : ¬ ab < ab := by omega
  have c4 : ¬ al < al := by omega
  have e1 : (ab == ab) = true := by simp
  have e2 : (al == al) = true := by simp
  have hcase : (ab ≤ ab ∧ al < al) ∨ (ab < ab ∧ al ≤ al) ∨ (ab = ab ∧ al = al) := .inr (.inr ⟨rfl, rfl⟩)
  have hb := fun x => sb_has (x := x) r2 s2 hcase
  have hz := sb_size r2 s2 hcase
  have hin := sb_in ab al ab al (by omega) (by omega) (by omega) (by omega) (by omega) (by omega) (by omega) (by omega)
  have CS := Lib.hid (fun W => iSubtract_any ab al ab al W (by omega) (by omega) (by omega) (by omega) (by omega) (by omega) (by omega) (by omega) (by omega))
  replace hb := hb x
  rw [if_neg c3, if_neg c4] at hz
  generalize sbB ab al ab al = b2 at CS hb hz hin
  generalize sbL ab al ab al = l2 at CS hb hz hin
  have CC := Lib.hid (fun W => iContains_any b2 l2 x W (by omega) (by omega) (by omega) (by omega) (by omega) (by omega))
  have CH := Lib.hid (fun W => sHas_any ab al x W)
  have CJ := Lib.hid (fun W => sHas_any ab al x W)
  have CZ := Lib.hid (fun W => iSize_any b2 l2 W (by omega) (by omega) (by omega) (by omega))
  have CY := Lib.hid (fun W => sSize_any ab al W (by omega) (by omega) (by omega) (by omega))
  have CW := Lib.hid (fun W => sSize_any ab al W (by omega) (by omega) (by omega) (by omega))
  have hzz : 0 ≤ szI b2 l2 ∧ szI b2 l2 < 4398046511104 := by unfold szI; split <;> omega
  have hw : IntKind.u64.wrap (szI ab al - szI ab al) = szI b2 l2 := by rw [hz]; exact IntWalk.u64_in _ (by omega)
  have hq : (szI b2 l2 == szI b2 l2) = true := by simp
  have hw0 : IntKind.u64.wrap 0 = szI b2 l2 := by rw [← hw, Int.sub_self]
  clear hz hcase hin
  generalize szI b2 l2 = z2v at *
  generalize szI ab al = zr at *
  generalize szI ab al = zm at *
  rcases hr : hasB ab al x with _ | _
  · rw [hr, Bool.false_and] at hb
    rw [hb] at CC
    rw [hr] at CH
    have q1 : (false == false) = true := rfl
    clear hr hb
    go_enter Try.func9, Try.ntmps9
    go_wp2_with fail
    refine (CR.out _).mono ?_
    rintro e w1 ⟨rfl, n1⟩
    go_wp2_with fail
    refine (CQ.out _).mono ?_
    rintro e w2 ⟨rfl, n2⟩
    have k1 := hd_new (bl_step n2 n1 (Below.size n1)) (.int .u64 ab) (.int .u64 al) 26
    have k2 := hd_more k1 (.int .u64 ab) (.int .u64 al) 26
    simp only [World.size_alloc] at k2
    clear k1
    go_wp2_with fail
    refine (CA.out _).mono ?_
    rintro e w3 ⟨rfl, rfl⟩
    have p0 := k2.at w2.heap.size 0 (.int .u64 ab) (by simp)
    have p1 := k2.at w2.heap.size 1 (.int .u64 al) (by simp)
    have p2 := k2.at (w2.heap.size + 1) 0 (.int .u64 ab) (by simp)
    have p3 := k2.at (w2.heap.size + 1) 1 (.int .u64 al) (by simp)
    go_upto_region 2 with fail
    generalize (w2.alloc (.cells #[.int .u64 ab, .int .u64 al] 26)).alloc (.cells #[.int .u64 ab, .int .u64 al] 26) = U at k2 p0 p1 p2 p3 ⊢
    go_wp2_with fail
    refine (CS.out _).mono ?_
    rintro e w5 ⟨rfl, n5⟩
    replace k2 := k2.nx n5
    clear p0 p1 p2 p3
    have p0 := k2.at w2.heap.size 0 (.int .u64 ab) (by simp)
    have p1 := k2.at w2.heap.size 1 (.int .u64 al) (by simp)
    have p2 := k2.at (w2.heap.size + 1) 0 (.int .u64 ab) (by simp)
    have p3 := k2.at (w2.heap.size + 1) 1 (.int .u64 al) (by simp)
    have z0 := World.block_lt_of_cell? _ _ p0
    have z2 := World.block_lt_of_cell? _ _ p2
    have k3 := hd_more k2 (.int .u64 b2) (.int .u64 l2) 26
    clear k2
    go_upto_region 7 with fail
    generalize w5.alloc (.cells #[.int .u64 b2, .int .u64 l2] 26) = V at k3 ⊢
    clear p0 p1 p2 p3
    have p0 := k3.at w2.heap.size 0 (.int .u64 ab) (by simp)
    have p1 := k3.at w2.heap.size 1 (.int .u64 al) (by simp)
    have p2 := k3.at (w2.heap.size + 1) 0 (.int .u64 ab) (by simp)
    have p3 := k3.at (w2.heap.size + 1) 1 (.int .u64 al) (by simp)
    have k4 := hd_more k3 (.int .u64 ab) (.int .u64 al) 26
    clear k3
    go_upto_region 8 with fail
    generalize V.alloc (.cells #[.int .u64 ab, .int .u64 al] 26) = X at k4 ⊢
    clear p0 p1 p2 p3
    have p0 := k4.at w2.heap.size 0 (.int .u64 ab) (by simp)
    have p1 := k4.at w2.heap.size 1 (.int .u64 al) (by simp)
    have p2 := k4.at (w2.heap.size + 1) 0 (.int .u64 ab) (by simp)
    have p3 := k4.at (w2.heap.size + 1) 1 (.int .u64 al) (by simp)
    have p4 := k4.at w5.heap.size 0 (.int .u64 b2) (by simp)
    have p5 := k4.at w5.heap.size 1 (.int .u64 l2) (by simp)
    have p6 := k4.at V.heap.size 0 (.int .u64 ab) (by simp)
    have p7 := k4.at V.heap.size 1 (.int .u64 al) (by simp)
    refine wp_region_held_drew (S := fun w' => w'.cell? ⟨V.heap.size, 0, none⟩ = some (.int .u64 ab) ∧ w'.cell? ⟨V.heap.size, 1, none⟩ = some (.int .u64 al) ∧ w'.cell? ⟨w5.heap.size, 0, none⟩ = some (.int .u64 b2) ∧ w'.cell? ⟨w5.heap.size, 1, none⟩ = some (.int .u64 l2) ∧ w'.cell? ⟨w2.heap.size + 1, 0, none⟩ = some (.int .u64 ab) ∧ w'.cell? ⟨w2.heap.size + 1, 1, none⟩ = some (.int .u64 al) ∧ w'.cell? ⟨w2.heap.size, 0, none⟩ = some (.int .u64 ab) ∧ w'.cell? ⟨w2.heap.size, 1, none⟩ = some (.int .u64 al) ∧ Hd w [(V.heap.size, 0, .int .u64 ab), (V.heap.size, 1, .int .u64 al), (w5.heap.size, 0, .int .u64 b2), (w5.heap.size, 1, .int .u64 l2), (w2.heap.size + 1, 0, .int .u64 ab), (w2.heap.size + 1, 1, .int .u64 al), (w2.heap.size, 0, .int .u64 ab), (w2.heap.size, 1, .int .u64 al)] w') (by kernel_rfl) ?_ (fun hHeld => ?_)
    focus (have k := Hd.drew (w := w) (cs := [(V.heap.size, 0, .int .u64 ab), (V.heap.size, 1, .int .u64 al), (w5.heap.size, 0, .int .u64 b2), (w5.heap.size, 1, .int .u64 l2), (w2.heap.size + 1, 0, .int .u64 ab), (w2.heap.size + 1, 1, .int .u64 al), (w2.heap.size, 0, .int .u64 ab), (w2.heap.size, 1, .int .u64 al)]) (by assumption); exact ⟨k.at (V.heap.size) (0) (.int .u64 ab) (by simp), k.at (V.heap.size) (1) (.int .u64 al) (by simp), k.at (w5.heap.size) (0) (.int .u64 b2) (by simp), k.at (w5.heap.size) (1) (.int .u64 l2) (by simp), k.at (w2.heap.size + 1) (0) (.int .u64 ab) (by simp), k.at (w2.heap.size + 1) (1) (.int .u64 al) (by simp), k.at (w2.heap.size) (0) (.int .u64 ab) (by simp), k.at (w2.heap.size) (1) (.int .u64 al) (by simp), k⟩)
    (refine takeT (i := 0) (v := ?_) rfl ?_ (fun _ _ _ h => h) rfl hHeld ?_ ?_; rotate_left; (focus kernel_rfl); (focus (intro w hSw; (try dsimp only at hSw); go_simp; (try with_reducible rfl))); (try simp only [Act.put, List.setIfInBounds_toArray, List.set_cons_zero, List.set_cons_succ]))
    (refine takeT (i := 1) (v := ?_) rfl ?_ (fun _ _ _ h => h) rfl hHeld ?_ ?_; rotate_left; (focus kernel_rfl); (focus (intro w hSw; (try dsimp only at hSw); go_simp; (try with_reducible rfl))); (try simp only [Act.put, List.setIfInBounds_toArray, List.set_cons_zero, List.set_cons_succ]))
    (refine takeT (i := 3) (v := ?_) rfl ?_ (fun _ _ _ h => h) rfl hHeld ?_ ?_; rotate_left; (focus kernel_rfl); (focus (intro w hSw; (try dsimp only at hSw); go_simp; (try with_reducible rfl))); (try simp only [Act.put, List.setIfInBounds_toArray, List.set_cons_zero, List.set_cons_succ]))
    (refine takeT (i := 4) (v := ?_) rfl ?_ (fun _ _ _ h => h) rfl hHeld ?_ ?_; rotate_left; (focus kernel_rfl); (focus (intro w hSw; (try dsimp only at hSw); go_simp; (try with_reducible rfl))); (try simp only [Act.put, List.setIfInBounds_toArray, List.set_cons_zero, List.set_cons_succ]))
    (refine doOne (i := 2) rfl ?_ (fun K hK => ?_); (focus kernel_rfl))
    ((first | fail | go_simp); (first | ((first | first | (go_at_call 15; (with_reducible refine (CC.out _).mono ?_); rintro e wh ⟨rfl, nh⟩) | (go_at_call 16; first | ((with_reducible refine (CH.out _).mono ?_); rintro e wh ⟨rfl, nh⟩) | ((with_reducible refine (CJ.out _).mono ?_); rintro e wh ⟨rfl, nh⟩)) | (go_at_call 18; (with_reducible refine (CZ.out _).mono ?_); rintro e wh ⟨rfl, nh⟩) | (go_at_call 19; first | ((with_reducible refine (CY.out _).mono ?_); rintro e wh ⟨rfl, nh⟩) | ((with_reducible refine (CW.out _).mono ?_); rintro e wh ⟨rfl, nh⟩))); go_wp2_with fail) | skip); refine hK.out _ _ ?_ (fun hHeldN => ?_); (focus (have hq := hHeld; (try dsimp only at hq); have k := Hd.nx (w := w) (cs := [(V.heap.size, 0, .int .u64 ab), (V.heap.size, 1, .int .u64 al), (w5.heap.size, 0, .int .u64 b2), (w5.heap.size, 1, .int .u64 l2), (w2.heap.size + 1, 0, .int .u64 ab), (w2.heap.size + 1, 1, .int .u64 al), (w2.heap.size, 0, .int .u64 ab), (w2.heap.size, 1, .int .u64 al)]) (by go_split_ands; assumption) (by assumption); exact ⟨k.at (V.heap.size) (0) (.int .u64 ab) (by simp), k.at (V.heap.size) (1) (.int .u64 al) (by simp), k.at (w5.heap.size) (0) (.int .u64 b2) (by simp), k.at (w5.heap.size) (1) (.int .u64 l2) (by simp), k.at (w2.heap.size + 1) (0) (.int .u64 ab) (by simp), k.at (w2.heap.size + 1) (1) (.int .u64 al) (by simp), k.at (w2.heap.size) (0) (.int .u64 ab) (by simp), k.at (w2.heap.size) (1) (.int .u64 al) (by simp), k⟩)); clear hHeld hK K; have hHeld := hHeldN; clear hHeldN; (try simp only [Act.put, List.setIfInBounds_toArray, List.set_cons_zero, List.set_cons_succ]))
    (refine doOne (i := 5) rfl ?_ (fun K hK => ?_); (focus kernel_rfl))
    ((first | fail | go_simp); (first | ((first | first | (go_at_call 15; (with_reducible refine (CC.out _).mono ?_); rintro e wh ⟨rfl, nh⟩) | (go_at_call 16; first | ((with_reducible refine (CH.out _).mono ?_); rintro e wh ⟨rfl, nh⟩) | ((with_reducible refine (CJ.out _).mono ?_); rintro e wh ⟨rfl, nh⟩)) | (go_at_call 18; (with_reducible refine (CZ.out _).mono ?_); rintro e wh ⟨rfl, nh⟩) | (go_at_call 19; first | ((with_reducible refine (CY.out _).mono ?_); rintro e wh ⟨rfl, nh⟩) | ((with_reducible refine (CW.out _).mono ?_); rintro e wh ⟨rfl, nh⟩))); go_wp2_with fail) | skip); refine hK.out _ _ ?_ (fun hHeldN => ?_); (focus (have hq := hHeld; (try dsimp only at hq); have k := Hd.nx (w := w) (cs := [(V.heap.size, 0, .int .u64 ab), (V.heap.size, 1, .int .u64 al), (w5.heap.size, 0, .int .u64 b2), (w5.heap.size, 1, .int .u64 l2), (w2.heap.size + 1, 0, .int .u64 ab), (w2.heap.size + 1, 1, .int .u64 al), (w2.heap.size, 0, .int .u64 ab), (w2.heap.size, 1, .int .u64 al)]) (by go_split_ands; assumption) (by assumption); exact ⟨k.at (V.heap.size) (0) (.int .u64 ab) (by simp), k.at (V.heap.size) (1) (.int .u64 al) (by simp), k.at (w5.heap.size) (0) (.int .u64 b2) (by simp), k.at (w5.heap.size) (1) (.int .u64 l2) (by simp), k.at (w2.heap.size + 1) (0) (.int .u64 ab) (by simp), k.at (w2.heap.size + 1) (1) (.int .u64 al) (by simp), k.at (w2.heap.size) (0) (.int .u64 ab) (by simp), k.at (w2.heap.size) (1) (.int .u64 al) (by simp), k⟩)); clear hHeld hK K; have hHeld := hHeldN; clear hHeldN; (try simp only [Act.put, List.setIfInBounds_toArray, List.set_cons_zero, List.set_cons_succ]))
    (refine takeT (i := 6) (v := ?_) rfl ?_ (fun _ _ _ h => h) rfl hHeld ?_ ?_; rotate_left; (focus kernel_rfl); (focus (intro w hSw; (try dsimp only at hSw); go_simp; (try with_reducible rfl))); (try simp only [Act.put, List.setIfInBounds_toArray, List.set_cons_zero, List.set_cons_succ]))
    (refine takeF (i := 7) rfl ?_ (fun _ _ _ h => h) rfl hHeld ?_; (focus kernel_rfl); (try simp only [Act.put, List.setIfInBounds_toArray, List.set_cons_zero, List.set_cons_succ]))
    (refine takeF (i := 8) rfl ?_ (fun _ _ _ h => h) rfl hHeld ?_; (focus kernel_rfl); (try simp only [Act.put, List.setIfInBounds_toArray, List.set_cons_zero, List.set_cons_succ]))
    (refine takeF (i := 9) rfl ?_ (fun _ _ _ h => h) rfl hHeld ?_; (focus kernel_rfl); (try simp only [Act.put, List.setIfInBounds_toArray, List.set_cons_zero, List.set_cons_succ]))
    (refine takeF (i := 10) rfl ?_ (fun _ _ _ h => h) rfl hHeld ?_; (focus kernel_rfl); (try simp only [Act.put, List.setIfInBounds_toArray, List.set_cons_zero, List.set_cons_succ]))
    (refine takeT (i := 11) (v := ?_) rfl ?_ (fun _ _ _ h => h) rfl hHeld ?_ ?_; rotate_left; (focus kernel_rfl); (focus (intro w hSw; (try dsimp only at hSw); go_simp; (try with_reducible rfl))); (try simp only [Act.put, List.setIfInBounds_toArray, List.set_cons_zero, List.set_cons_succ]))
    (refine takeT (i := 12) (v := ?_) rfl ?_ (fun _ _ _ h => h) rfl hHeld ?_ ?_; rotate_left; (focus kernel_rfl); (focus (intro w hSw; (try dsimp only at hSw); go_simp; (try with_reducible rfl))); (try simp only [Act.put, List.setIfInBounds_toArray, List.set_cons_zero, List.set_cons_succ]))
    (refine takeT (i := 13) (v := ?_) rfl ?_ (fun _ _ _ h => h) rfl hHeld ?_ ?_; rotate_left; (focus kernel_rfl); (focus (intro w hSw; (try dsimp only at hSw); go_simp; (try with_reducible rfl))); (try simp only [Act.put, List.setIfInBounds_toArray, List.set_cons_zero, List.set_cons_succ]))
    (refine takeT (i := 14) (v := ?_) rfl ?_ (fun _ _ _ h => h) rfl hHeld ?_ ?_; rotate_left; (focus kernel_rfl); (focus (intro w hSw; (try dsimp only at hSw); go_simp; (try with_reducible rfl))); (try simp only [Act.put, List.setIfInBounds_toArray, List.set_cons_zero, List.set_cons_succ]))
    (refine takeT (i := 16) (v := ?_) rfl ?_ (fun _ _ _ h => h) rfl hHeld ?_ ?_; rotate_left; (focus kernel_rfl); (focus (intro w hSw; (try dsimp only at hSw); go_simp; (try with_reducible rfl))); (try simp only [Act.put, List.setIfInBounds_toArray, List.set_cons_zero, List.set_cons_succ]))
    (refine takeT (i := 18) (v := ?_) rfl ?_ (fun _ _ _ h => h) rfl hHeld ?_ ?_; rotate_left; (focus kernel_rfl); (focus (intro w hSw; (try dsimp only at hSw); go_simp; (try with_reducible rfl))); (try simp only [Act.put, List.setIfInBounds_toArray, List.set_cons_zero, List.set_cons_succ]))
    (refine doOne (i := 15) rfl ?_ (fun K hK => ?_); (focus kernel_rfl))
    ((first | fail | go_simp); (first | ((first | first | (go_at_call 15; (with_reducible refine (CC.out _).mono ?_); rintro e wh ⟨rfl, nh⟩) | (go_at_call 16; first | ((with_reducible refine (CH.out _).mono ?_); rintro e wh ⟨rfl, nh⟩) | ((with_reducible refine (CJ.out _).mono ?_); rintro e wh ⟨rfl, nh⟩)) | (go_at_call 18; (with_reducible refine (CZ.out _).mono ?_); rintro e wh ⟨rfl, nh⟩) | (go_at_call 19; first | ((with_reducible refine (CY.out _).mono ?_); rintro e wh ⟨rfl, nh⟩) | ((with_reducible refine (CW.out _).mono ?_); rintro e wh ⟨rfl, nh⟩))); go_wp2_with fail) | skip); refine hK.out _ _ ?_ (fun hHeldN => ?_); (focus (have hq := hHeld; (try dsimp only at hq); have k := Hd.nx (w := w) (cs := [(V.heap.size, 0, .int .u64 ab), (V.heap.size, 1, .int .u64 al), (w5.heap.size, 0, .int .u64 b2), (w5.heap.size, 1, .int .u64 l2), (w2.heap.size + 1, 0, .int .u64 ab), (w2.heap.size + 1, 1, .int .u64 al), (w2.heap.size, 0, .int .u64 ab), (w2.heap.size, 1, .int .u64 al)]) (by go_split_ands; assumption) (by assumption); exact ⟨k.at (V.heap.size) (0) (.int .u64 ab) (by simp), k.at (V.heap.size) (1) (.int .u64 al) (by simp), k.at (w5.heap.size) (0) (.int .u64 b2) (by simp), k.at (w5.heap.size) (1) (.int .u64 l2) (by simp), k.at (w2.heap.size + 1) (0) (.int .u64 ab) (by simp), k.at (w2.heap.size + 1) (1) (.int .u64 al) (by simp), k.at (w2.heap.size) (0) (.int .u64 ab) (by simp), k.at (w2.heap.size) (1) (.int .u64 al) (by simp), k⟩)); clear hHeld hK K; have hHeld := hHeldN; clear hHeldN; (try simp only [Act.put, List.setIfInBounds_toArray, List.set_cons_zero, List.set_cons_succ]))
    (refine doOne (i := 17) rfl ?_ (fun K hK => ?_); (focus kernel_rfl))
    ((first | fail | go_simp); (first | ((first | first | (go_at_call 15; (with_reducible refine (CC.out _).mono ?_); rintro e wh ⟨rfl, nh⟩) | (go_at_call 16; first | ((with_reducible refine (CH.out _).mono ?_); rintro e wh ⟨rfl, nh⟩) | ((with_reducible refine (CJ.out _).mono ?_); rintro e wh ⟨rfl, nh⟩)) | (go_at_call 18; (with_reducible refine (CZ.out _).mono ?_); rintro e wh ⟨rfl, nh⟩) | (go_at_call 19; first | ((with_reducible refine (CY.out _).mono ?_); rintro e wh ⟨rfl, nh⟩) | ((with_reducible refine (CW.out _).mono ?_); rintro e wh ⟨rfl, nh⟩))); go_wp2_with fail) | skip); refine hK.out _ _ ?_ (fun hHeldN => ?_); (focus (have hq := hHeld; (try dsimp only at hq); have k := Hd.nx (w := w) (cs := [(V.heap.size, 0, .int .u64 ab), (V.heap.size, 1, .int .u64 al), (w5.heap.size, 0, .int .u64 b2), (w5.heap.size, 1, .int .u64 l2), (w2.heap.size + 1, 0, .int .u64 ab), (w2.heap.size + 1, 1, .int .u64 al), (w2.heap.size, 0, .int .u64 ab), (w2.heap.size, 1, .int .u64 al)]) (by go_split_ands; assumption) (by assumption); exact ⟨k.at (V.heap.size) (0) (.int .u64 ab) (by simp), k.at (V.heap.size) (1) (.int .u64 al) (by simp), k.at (w5.heap.size) (0) (.int .u64 b2) (by simp), k.at (w5.heap.size) (1) (.int .u64 l2) (by simp), k.at (w2.heap.size + 1) (0) (.int .u64 ab) (by simp), k.at (w2.heap.size + 1) (1) (.int .u64 al) (by simp), k.at (w2.heap.size) (0) (.int .u64 ab) (by simp), k.at (w2.heap.size) (1) (.int .u64 al) (by simp), k⟩)); clear hHeld hK K; have hHeld := hHeldN; clear hHeldN; (try simp only [Act.put, List.setIfInBounds_toArray, List.set_cons_zero, List.set_cons_succ]))
    (refine doOne (i := 19) rfl ?_ (fun K hK => ?_); (focus kernel_rfl))
    ((first | fail | go_simp); (first | ((first | first | (go_at_call 15; (with_reducible refine (CC.out _).mono ?_); rintro e wh ⟨rfl, nh⟩) | (go_at_call 16; first | ((with_reducible refine (CH.out _).mono ?_); rintro e wh ⟨rfl, nh⟩) | ((with_reducible refine (CJ.out _).mono ?_); rintro e wh ⟨rfl, nh⟩)) | (go_at_call 18; (with_reducible refine (CZ.out _).mono ?_); rintro e wh ⟨rfl, nh⟩) | (go_at_call 19; first | ((with_reducible refine (CY.out _).mono ?_); rintro e wh ⟨rfl, nh⟩) | ((with_reducible refine (CW.out _).mono ?_); rintro e wh ⟨rfl, nh⟩))); go_wp2_with fail) | skip); refine hK.out _ _ ?_ (fun hHeldN => ?_); (focus (have hq := hHeld; (try dsimp only at hq); have k := Hd.nx (w := w) (cs := [(V.heap.size, 0, .int .u64 ab), (V.heap.size, 1, .int .u64 al), (w5.heap.size, 0, .int .u64 b2), (w5.heap.size, 1, .int .u64 l2), (w2.heap.size + 1, 0, .int .u64 ab), (w2.heap.size + 1, 1, .int .u64 al), (w2.heap.size, 0, .int .u64 ab), (w2.heap.size, 1, .int .u64 al)]) (by go_split_ands; assumption) (by assumption); exact ⟨k.at (V.heap.size) (0) (.int .u64 ab) (by simp), k.at (V.heap.size) (1) (.int .u64 al) (by simp), k.at (w5.heap.size) (0) (.int .u64 b2) (by simp), k.at (w5.heap.size) (1) (.int .u64 l2) (by simp), k.at (w2.heap.size + 1) (0) (.int .u64 ab) (by simp), k.at (w2.heap.size + 1) (1) (.int .u64 al) (by simp), k.at (w2.heap.size) (0) (.int .u64 ab) (by simp), k.at (w2.heap.size) (1) (.int .u64 al) (by simp), k⟩)); clear hHeld hK K; have hHeld := hHeldN; clear hHeldN; (try simp only [Act.put, List.setIfInBounds_toArray, List.set_cons_zero, List.set_cons_succ]))
    (refine takeT (i := 20) (v := ?_) rfl ?_ (fun _ _ _ h => h) rfl hHeld ?_ ?_; rotate_left; (focus kernel_rfl); (focus (intro w hSw; (try dsimp only at hSw); go_simp; (try with_reducible rfl))); (try simp only [Act.put, List.setIfInBounds_toArray, List.set_cons_zero, List.set_cons_succ]))
    (refine takeT (i := 21) (v := ?_) rfl ?_ (fun _ _ _ h => h) rfl hHeld ?_ ?_; rotate_left; (focus kernel_rfl); (focus (intro w hSw; (try dsimp only at hSw); go_simp; (try with_reducible rfl))); (try simp only [Act.put, List.setIfInBounds_toArray, List.set_cons_zero, List.set_cons_succ]))
    (refine takeT (i := 22) (v := ?_) rfl ?_ (fun _ _ _ h => h) rfl hHeld ?_ ?_; rotate_left; (focus kernel_rfl); (focus (intro w hSw; (try dsimp only at hSw); go_simp; (try with_reducible rfl))); (try simp only [Act.put, List.setIfInBounds_toArray, List.set_cons_zero, List.set_cons_succ]))
    (refine takeT (i := 23) (v := ?_) rfl ?_ (fun _ _ _ h => h) rfl hHeld ?_ ?_; rotate_left; (focus kernel_rfl); (focus (intro w hSw; (try dsimp only at hSw); go_simp; (try with_reducible rfl))); (try simp only [Act.put, List.setIfInBounds_toArray, List.set_cons_zero, List.set_cons_succ]))
    (refine wpAnyH_done (by kernel_rfl) ?_ _)
    obtain ⟨kc0, kc1, kc2, kc3, kc4, kc5, kc6, kc7, k⟩ := hHeld
    go_wp2
    go_ret
    exact ⟨rfl, k.below⟩
  · rw [hr] at hb
    replace hb : hasB b2 l2 x = false := by rw [hb]; rfl
    rw [hb] at CC
    rw [hr] at CH CJ
    have q1 : (false == false) = true := rfl
    clear hr hb
    go_enter Try.func9, Try.ntmps9
    go_wp2_with fail
    refine (CR.out _).mono ?_
    rintro e w1 ⟨rfl, n1⟩
    go_wp2_with fail
    refine (CQ.out _).mono ?_
    rintro e w2 ⟨rfl, n2⟩
    have k1 := hd_new (bl_step n2 n1 (Below.size n1)) (.int .u64 ab) (.int .u64 al) 26
    have k2 := hd_more k1 (.int .u64 ab) (.int .u64 al) 26
    simp only [World.size_alloc] at k2
    clear k1
    go_wp2_with fail
    refine (CA.out _).mono ?_
    rintro e w3 ⟨rfl, rfl⟩
    have p0 := k2.at w2.heap.size 0 (.int .u64 ab) (by simp)
    have p1 := k2.at w2.heap.size 1 (.int .u64 al) (by simp)
    have p2 := k2.at (w2.heap.size + 1) 0 (.int .u64 ab) (by simp)
    have p3 := k2.at (w2.heap.size + 1) 1 (.int .u64 al) (by simp)
    go_upto_region 2 with fail
    generalize (w2.alloc (.cells #[.int .u64 ab, .int .u64 al] 26)).alloc (.cells #[.int .u64 ab, .int .u64 al] 26) = U at k2 p0 p1 p2 p3 ⊢
    go_wp2_with fail
    refine (CS.out _).mono ?_
    rintro e w5 ⟨rfl, n5⟩
    replace k2 := k2.nx n5
    clear p0 p1 p2 p3
    have p0 := k2.at w2.heap.size 0 (.int .u64 ab) (by simp)
    have p1 := k2.at w2.heap.size 1 (.int .u64 al) (by simp)
    have p2 := k2.at (w2.heap.size + 1) 0 (.int .u64 ab) (by simp)
    have p3 := k2.at (w2.heap.size + 1) 1 (.int .u64 al) (by simp)
    have z0 := World.block_lt_of_cell? _ _ p0
    have z2 := World.block_lt_of_cell? _ _ p2
    have k3 := hd_more k2 (.int .u64 b2) (.int .u64 l2) 26
    clear k2
    go_upto_region 7 with fail
    generalize w5.alloc (.cells #[.int .u64 b2, .int .u64 l2] 26) = V at k3 ⊢
    clear p0 p1 p2 p3
    have p0 := k3.at w2.heap.size 0 (.int .u64 ab) (by simp)
    have p1 := k3.at w2.heap.size 1 (.int .u64 al) (by simp)
    have p2 := k3.at (w2.heap.size + 1) 0 (.int .u64 ab) (by simp)
    have p3 := k3.at (w2.heap.size + 1) 1 (.int .u64 al) (by simp)
    have k4 := hd_more k3 (.int .u64 ab) (.int .u64 al) 26
    clear k3
    go_upto_region 8 with fail
    generalize V.alloc (.cells #[.int .u64 ab, .int .u64 al] 26) = X at k4 ⊢
    clear p0 p1 p2 p3
    have p0 := k4.at w2.heap.size 0 (.int .u64 ab) (by simp)
    have p1 := k4.at w2.heap.size 1 (.int .u64 al) (by simp)
    have p2 := k4.at (w2.heap.size + 1) 0 (.int .u64 ab) (by simp)
    have p3 := k4.at (w2.heap.size + 1) 1 (.int .u64 al) (by simp)
    have p4 := k4.at w5.heap.size 0 (.int .u64 b2) (by simp)
    have p5 := k4.at w5.heap.size 1 (.int .u64 l2) (by simp)
    have p6 := k4.at V.heap.size 0 (.int .u64 ab) (by simp)
    have p7 := k4.at V.heap.size 1 (.int .u64 al) (by simp)
    refine wp_region_held_drew (S := fun w' => w'.cell? ⟨V.heap.size, 0, none⟩ = some (.int .u64 ab) ∧ w'.cell? ⟨V.heap.size, 1, none⟩ = some (.int .u64 al) ∧ w'.cell? ⟨w5.heap.size, 0, none⟩ = some (.int .u64 b2) ∧ w'.cell? ⟨w5.heap.size, 1, none⟩ = some (.int .u64 l2) ∧ w'.cell? ⟨w2.heap.size + 1, 0, none⟩ = some (.int .u64 ab) ∧ w'.cell? ⟨w2.heap.size + 1, 1, none⟩ = some (.int .u64 al) ∧ w'.cell? ⟨w2.heap.size, 0, none⟩ = some (.int .u64 ab) ∧ w'.cell? ⟨w2.heap.size, 1, none⟩ = some (.int .u64 al) ∧ Hd w [(V.heap.size, 0, .int .u64 ab), (V.heap.size, 1, .int .u64 al), (w5.heap.size, 0, .int .u64 b2), (w5.heap.size, 1, .int .u64 l2), (w2.heap.size + 1, 0, .int .u64 ab), (w2.heap.size + 1, 1, .int .u64 al), (w2.heap.size, 0, .int .u64 ab), (w2.heap.size, 1, .int .u64 al)] w') (by kernel_rfl) ?_ (fun hHeld => ?_)
    focus (have k := Hd.drew (w := w) (cs := [(V.heap.size, 0, .int .u64 ab), (V.heap.size, 1, .int .u64 al), (w5.heap.size, 0, .int .u64 b2), (w5.heap.size, 1, .int .u64 l2), (w2.heap.size + 1, 0, .int .u64 ab), (w2.heap.size + 1, 1, .int .u64 al), (w2.heap.size, 0, .int .u64 ab), (w2.heap.size, 1, .int .u64 al)]) (by assumption); exact ⟨k.at (V.heap.size) (0) (.int .u64 ab) (by simp), k.at (V.heap.size) (1) (.int .u64 al) (by simp), k.at (w5.heap.size) (0) (.int .u64 b2) (by simp), k.at (w5.heap.size) (1) (.int .u64 l2) (by simp), k.at (w2.heap.size + 1) (0) (.int .u64 ab) (by simp), k.at (w2.heap.size + 1) (1) (.int .u64 al) (by simp), k.at (w2.heap.size) (0) (.int .u64 ab) (by simp), k.at (w2.heap.size) (1) (.int .u64 al) (by simp), k⟩)
    (refine takeT (i := 0) (v := ?_) rfl ?_ (fun _ _ _ h => h) rfl hHeld ?_ ?_; rotate_left; (focus kernel_rfl); (focus (intro w hSw; (try dsimp only at hSw); go_simp; (try with_reducible rfl))); (try simp only [Act.put, List.setIfInBounds_toArray, List.set_cons_zero, List.set_cons_succ]))
    (refine takeT (i := 1) (v := ?_) rfl ?_ (fun _ _ _ h => h) rfl hHeld ?_ ?_; rotate_left; (focus kernel_rfl); (focus (intro w hSw; (try dsimp only at hSw); go_simp; (try with_reducible rfl))); (try simp only [Act.put, List.setIfInBounds_toArray, List.set_cons_zero, List.set_cons_succ]))
    (refine takeT (i := 3) (v := ?_) rfl ?_ (fun _ _ _ h => h) rfl hHeld ?_ ?_; rotate_left; (focus kernel_rfl); (focus (intro w hSw; (try dsimp only at hSw); go_simp; (try with_reducible rfl))); (try simp only [Act.put, List.setIfInBounds_toArray, List.set_cons_zero, List.set_cons_succ]))
    (refine takeT (i := 4) (v := ?_) rfl ?_ (fun _ _ _ h => h) rfl hHeld ?_ ?_; rotate_left; (focus kernel_rfl); (focus (intro w hSw; (try dsimp only at hSw); go_simp; (try with_reducible rfl))); (try simp only [Act.put, List.setIfInBounds_toArray, List.set_cons_zero, List.set_cons_succ]))
    (refine doOne (i := 2) rfl ?_ (fun K hK => ?_); (focus kernel_rfl))
    ((first | fail | go_simp); (first | ((first | first | (go_at_call 15; (with_reducible refine (CC.out _).mono ?_); rintro e wh ⟨rfl, nh⟩) | (go_at_call 16; first | ((with_reducible refine (CH.out _).mono ?_); rintro e wh ⟨rfl, nh⟩) | ((with_reducible refine (CJ.out _).mono ?_); rintro e wh ⟨rfl, nh⟩)) | (go_at_call 18; (with_reducible refine (CZ.out _).mono ?_); rintro e wh ⟨rfl, nh⟩) | (go_at_call 19; first | ((with_reducible refine (CY.out _).mono ?_); rintro e wh ⟨rfl, nh⟩) | ((with_reducible refine (CW.out _).mono ?_); rintro e wh ⟨rfl, nh⟩))); go_wp2_with fail) | skip); refine hK.out _ _ ?_ (fun hHeldN => ?_); (focus (have hq := hHeld; (try dsimp only at hq); have k := Hd.nx (w := w) (cs := [(V.heap.size, 0, .int .u64 ab), (V.heap.size, 1, .int .u64 al), (w5.heap.size, 0, .int .u64 b2), (w5.heap.size, 1, .int .u64 l2), (w2.heap.size + 1, 0, .int .u64 ab), (w2.heap.size + 1, 1, .int .u64 al), (w2.heap.size, 0, .int .u64 ab), (w2.heap.size, 1, .int .u64 al)]) (by go_split_ands; assumption) (by assumption); exact ⟨k.at (V.heap.size) (0) (.int .u64 ab) (by simp), k.at (V.heap.size) (1) (.int .u64 al) (by simp), k.at (w5.heap.size) (0) (.int .u64 b2) (by simp), k.at (w5.heap.size) (1) (.int .u64 l2) (by simp), k.at (w2.heap.size + 1) (0) (.int .u64 ab) (by simp), k.at (w2.heap.size + 1) (1) (.int .u64 al) (by simp), k.at (w2.heap.size) (0) (.int .u64 ab) (by simp), k.at (w2.heap.size) (1) (.int .u64 al) (by simp), k⟩)); clear hHeld hK K; have hHeld := hHeldN; clear hHeldN; (try simp only [Act.put, List.setIfInBounds_toArray, List.set_cons_zero, List.set_cons_succ]))
    (refine doOne (i := 5) rfl ?_ (fun K hK => ?_); (focus kernel_rfl))
    ((first | fail | go_simp); (first | ((first | first | (go_at_call 15; (with_reducible refine (CC.out _).mono ?_); rintro e wh ⟨rfl, nh⟩) | (go_at_call 16; first | ((with_reducible refine (CH.out _).mono ?_); rintro e wh ⟨rfl, nh⟩) | ((with_reducible refine (CJ.out _).mono ?_); rintro e wh ⟨rfl, nh⟩)) | (go_at_call 18; (with_reducible refine (CZ.out _).mono ?_); rintro e wh ⟨rfl, nh⟩) | (go_at_call 19; first | ((with_reducible refine (CY.out _).mono ?_); rintro e wh ⟨rfl, nh⟩) | ((with_reducible refine (CW.out _).mono ?_); rintro e wh ⟨rfl, nh⟩))); go_wp2_with fail) | skip); refine hK.out _ _ ?_ (fun hHeldN => ?_); (focus (have hq := hHeld; (try dsimp only at hq); have k := Hd.nx (w := w) (cs := [(V.heap.size, 0, .int .u64 ab), (V.heap.size, 1, .int .u64 al), (w5.heap.size, 0, .int .u64 b2), (w5.heap.size, 1, .int .u64 l2), (w2.heap.size + 1, 0, .int .u64 ab), (w2.heap.size + 1, 1, .int .u64 al), (w2.heap.size, 0, .int .u64 ab), (w2.heap.size, 1, .int .u64 al)]) (by go_split_ands; assumption) (by assumption); exact ⟨k.at (V.heap.size) (0) (.int .u64 ab) (by simp), k.at (V.heap.size) (1) (.int .u64 al) (by simp), k.at (w5.heap.size) (0) (.int .u64 b2) (by simp), k.at (w5.heap.size) (1) (.int .u64 l2) (by simp), k.at (w2.heap.size + 1) (0) (.int .u64 ab) (by simp), k.at (w2.heap.size + 1) (1) (.int .u64 al) (by simp), k.at (w2.heap.size) (0) (.int .u64 ab) (by simp), k.at (w2.heap.size) (1) (.int .u64 al) (by simp), k⟩)); clear hHeld hK K; have hHeld := hHeldN; clear hHeldN; (try simp only [Act.put, List.setIfInBounds_toArray, List.set_cons_zero, List.set_cons_succ]))
    (refine takeT (i := 6) (v := ?_) rfl ?_ (fun _ _ _ h => h) rfl hHeld ?_ ?_; rotate_left; (focus kernel_rfl); (focus (intro w hSw; (try dsimp only at hSw); go_simp; (try with_reducible rfl))); (try simp only [Act.put, List.setIfInBounds_toArray, List.set_cons_zero, List.set_cons_succ]))
    (refine takeT (i := 7) (v := ?_) rfl ?_ (fun _ _ _ h => h) rfl hHeld ?_ ?_; rotate_left; (focus kernel_rfl); (focus (intro w hSw; (try dsimp only at hSw); go_simp; (try with_reducible rfl))); (try simp only [Act.put, List.setIfInBounds_toArray, List.set_cons_zero, List.set_cons_succ]))
    (refine takeT (i := 8) (v := ?_) rfl ?_ (fun _ _ _ h => h) rfl hHeld ?_ ?_; rotate_left; (focus kernel_rfl); (focus (intro w hSw; (try dsimp only at hSw); go_simp; (try with_reducible rfl))); (try simp only [Act.put, List.setIfInBounds_toArray, List.set_cons_zero, List.set_cons_succ]))
    (refine doOne (i := 9) rfl ?_ (fun K hK => ?_); (focus kernel_rfl))
    ((first | fail | go_simp); (first | ((first | first | (go_at_call 15; (with_reducible refine (CC.out _).mono ?_); rintro e wh ⟨rfl, nh⟩) | (go_at_call 16; first | ((with_reducible refine (CH.out _).mono ?_); rintro e wh ⟨rfl, nh⟩) | ((with_reducible refine (CJ.out _).mono ?_); rintro e wh ⟨rfl, nh⟩)) | (go_at_call 18; (with_reducible refine (CZ.out _).mono ?_); rintro e wh ⟨rfl, nh⟩) | (go_at_call 19; first | ((with_reducible refine (CY.out _).mono ?_); rintro e wh ⟨rfl, nh⟩) | ((with_reducible refine (CW.out _).mono ?_); rintro e wh ⟨rfl, nh⟩))); go_wp2_with fail) | skip); refine hK.out _ _ ?_ (fun hHeldN => ?_); (focus (have hq := hHeld; (try dsimp only at hq); have k := Hd.nx (w := w) (cs := [(V.heap.size, 0, .int .u64 ab), (V.heap.size, 1, .int .u64 al), (w5.heap.size, 0, .int .u64 b2), (w5.heap.size, 1, .int .u64 l2), (w2.heap.size + 1, 0, .int .u64 ab), (w2.heap.size + 1, 1, .int .u64 al), (w2.heap.size, 0, .int .u64 ab), (w2.heap.size, 1, .int .u64 al)]) (by go_split_ands; assumption) (by assumption); exact ⟨k.at (V.heap.size) (0) (.int .u64 ab) (by simp), k.at (V.heap.size) (1) (.int .u64 al) (by simp), k.at (w5.heap.size) (0) (.int .u64 b2) (by simp), k.at (w5.heap.size) (1) (.int .u64 l2) (by simp), k.at (w2.heap.size + 1) (0) (.int .u64 ab) (by simp), k.at (w2.heap.size + 1) (1) (.int .u64 al) (by simp), k.at (w2.heap.size) (0) (.int .u64 ab) (by simp), k.at (w2.heap.size) (1) (.int .u64 al) (by simp), k⟩)); clear hHeld hK K; have hHeld := hHeldN; clear hHeldN; (try simp only [Act.put, List.setIfInBounds_toArray, List.set_cons_zero, List.set_cons_succ]))
    (refine takeT (i := 10) (v := ?_) rfl ?_ (fun _ _ _ h => h) rfl hHeld ?_ ?_; rotate_left; (focus kernel_rfl); (focus (intro w hSw; (try dsimp only at hSw); go_simp; (try with_reducible rfl))); (try simp only [Act.put, List.setIfInBounds_toArray, List.set_cons_zero, List.set_cons_succ]))
    (refine takeT (i := 11) (v := ?_) rfl ?_ (fun _ _ _ h => h) rfl hHeld ?_ ?_; rotate_left; (focus kernel_rfl); (focus (intro w hSw; (try dsimp only at hSw); go_simp; (try with_reducible rfl))); (try simp only [Act.put, List.setIfInBounds_toArray, List.set_cons_zero, List.set_cons_succ]))
    (refine takeT (i := 12) (v := ?_) rfl ?_ (fun _ _ _ h => h) rfl hHeld ?_ ?_; rotate_left; (focus kernel_rfl); (focus (intro w hSw; (try dsimp only at hSw); go_simp; (try with_reducible rfl))); (try simp only [Act.put, List.setIfInBounds_toArray, List.set_cons_zero, List.set_cons_succ]))
    (refine takeT (i := 13) (v := ?_) rfl ?_ (fun _ _ _ h => h) rfl hHeld ?_ ?_; rotate_left; (focus kernel_rfl); (focus (intro w hSw; (try dsimp only at hSw); go_simp; (try with_reducible rfl))); (try simp only [Act.put, List.setIfInBounds_toArray, List.set_cons_zero, List.set_cons_succ]))
    (refine takeT (i := 14) (v := ?_) rfl ?_ (fun _ _ _ h => h) rfl hHeld ?_ ?_; rotate_left; (focus kernel_rfl); (focus (intro w hSw; (try dsimp only at hSw); go_simp; (try with_reducible rfl))); (try simp only [Act.put, List.setIfInBounds_toArray, List.set_cons_zero, List.set_cons_succ]))
    (refine takeT (i := 16) (v := ?_) rfl ?_ (fun _ _ _ h => h) rfl hHeld ?_ ?_; rotate_left; (focus kernel_rfl); (focus (intro w hSw; (try dsimp only at hSw); go_simp; (try with_reducible rfl))); (try simp only [Act.put, List.setIfInBounds_toArray, List.set_cons_zero, List.set_cons_succ]))
    (refine takeT (i := 18) (v := ?_) rfl ?_ (fun _ _ _ h => h) rfl hHeld ?_ ?_; rotate_left; (focus kernel_rfl); (focus (intro w hSw; (try dsimp only at hSw); go_simp; (try with_reducible rfl))); (try simp only [Act.put, List.setIfInBounds_toArray, List.set_cons_zero, List.set_cons_succ]))
    (refine doOne (i := 15) rfl ?_ (fun K hK => ?_); (focus kernel_rfl))
    ((first | fail | go_simp); (first | ((first | first | (go_at_call 15; (with_reducible refine (CC.out _).mono ?_); rintro e wh ⟨rfl, nh⟩) | (go_at_call 16; first | ((with_reducible refine (CH.out _).mono ?_); rintro e wh ⟨rfl, nh⟩) | ((with_reducible refine (CJ.out _).mono ?_); rintro e wh ⟨rfl, nh⟩)) | (go_at_call 18; (with_reducible refine (CZ.out _).mono ?_); rintro e wh ⟨rfl, nh⟩) | (go_at_call 19; first | ((with_reducible refine (CY.out _).mono ?_); rintro e wh ⟨rfl, nh⟩) | ((with_reducible refine (CW.out _).mono ?_); rintro e wh ⟨rfl, nh⟩))); go_wp2_with fail) | skip); refine hK.out _ _ ?_ (fun hHeldN => ?_); (focus (have hq := hHeld; (try dsimp only at hq); have k := Hd.nx (w := w) (cs := [(V.heap.size, 0, .int .u64 ab), (V.heap.size, 1, .int .u64 al), (w5.heap.size, 0, .int .u64 b2), (w5.heap.size, 1, .int .u64 l2), (w2.heap.size + 1, 0, .int .u64 ab), (w2.heap.size + 1, 1, .int .u64 al), (w2.heap.size, 0, .int .u64 ab), (w2.heap.size, 1, .int .u64 al)]) (by go_split_ands; assumption) (by assumption); exact ⟨k.at (V.heap.size) (0) (.int .u64 ab) (by simp), k.at (V.heap.size) (1) (.int .u64 al) (by simp), k.at (w5.heap.size) (0) (.int .u64 b2) (by simp), k.at (w5.heap.size) (1) (.int .u64 l2) (by simp), k.at (w2.heap.size + 1) (0) (.int .u64 ab) (by simp), k.at (w2.heap.size + 1) (1) (.int .u64 al) (by simp), k.at (w2.heap.size) (0) (.int .u64 ab) (by simp), k.at (w2.heap.size) (1) (.int .u64 al) (by simp), k⟩)); clear hHeld hK K; have hHeld := hHeldN; clear hHeldN; (try simp only [Act.put, List.setIfInBounds_toArray, List.set_cons_zero, List.set_cons_succ]))
    (refine doOne (i := 17) rfl ?_ (fun K hK => ?_); (focus kernel_rfl))
    ((first | fail | go_simp); (first | ((first | first | (go_at_call 15; (with_reducible refine (CC.out _).mono ?_); rintro e wh ⟨rfl, nh⟩) | (go_at_call 16; first | ((with_reducible refine (CH.out _).mono ?_); rintro e wh ⟨rfl, nh⟩) | ((with_reducible refine (CJ.out _).mono ?_); rintro e wh ⟨rfl, nh⟩)) | (go_at_call 18; (with_reducible refine (CZ.out _).mono ?_); rintro e wh ⟨rfl, nh⟩) | (go_at_call 19; first | ((with_reducible refine (CY.out _).mono ?_); rintro e wh ⟨rfl, nh⟩) | ((with_reducible refine (CW.out _).mono ?_); rintro e wh ⟨rfl, nh⟩))); go_wp2_with fail) | skip); refine hK.out _ _ ?_ (fun hHeldN => ?_); (focus (have hq := hHeld; (try dsimp only at hq); have k := Hd.nx (w := w) (cs := [(V.heap.size, 0, .int .u64 ab), (V.heap.size, 1, .int .u64 al), (w5.heap.size, 0, .int .u64 b2), (w5.heap.size, 1, .int .u64 l2), (w2.heap.size + 1, 0, .int .u64 ab), (w2.heap.size + 1, 1, .int .u64 al), (w2.heap.size, 0, .int .u64 ab), (w2.heap.size, 1, .int .u64 al)]) (by go_split_ands; assumption) (by assumption); exact ⟨k.at (V.heap.size) (0) (.int .u64 ab) (by simp), k.at (V.heap.size) (1) (.int .u64 al) (by simp), k.at (w5.heap.size) (0) (.int .u64 b2) (by simp), k.at (w5.heap.size) (1) (.int .u64 l2) (by simp), k.at (w2.heap.size + 1) (0) (.int .u64 ab) (by simp), k.at (w2.heap.size + 1) (1) (.int .u64 al) (by simp), k.at (w2.heap.size) (0) (.int .u64 ab) (by simp), k.at (w2.heap.size) (1) (.int .u64 al) (by simp), k⟩)); clear hHeld hK K; have hHeld := hHeldN; clear hHeldN; (try simp only [Act.put, List.setIfInBounds_toArray, List.set_cons_zero, List.set_cons_succ]))
    (refine doOne (i := 19) rfl ?_ (fun K hK => ?_); (focus kernel_rfl))
    ((first | fail | go_simp); (first | ((first | first | (go_at_call 15; (with_reducible refine (CC.out _).mono ?_); rintro e wh ⟨rfl, nh⟩) | (go_at_call 16; first | ((with_reducible refine (CH.out _).mono ?_); rintro e wh ⟨rfl, nh⟩) | ((with_reducible refine (CJ.out _).mono ?_); rintro e wh ⟨rfl, nh⟩)) | (go_at_call 18; (with_reducible refine (CZ.out _).mono ?_); rintro e wh ⟨rfl, nh⟩) | (go_at_call 19; first | ((with_reducible refine (CY.out _).mono ?_); rintro e wh ⟨rfl, nh⟩) | ((with_reducible refine (CW.out _).mono ?_); rintro e wh ⟨rfl, nh⟩))); go_wp2_with fail) | skip); refine hK.out _ _ ?_ (fun hHeldN => ?_); (focus (have hq := hHeld; (try dsimp only at hq); have k := Hd.nx (w := w) (cs := [(V.heap.size, 0, .int .u64 ab), (V.heap.size, 1, .int .u64 al), (w5.heap.size, 0, .int .u64 b2), (w5.heap.size, 1, .int .u64 l2), (w2.heap.size + 1, 0, .int .u64 ab), (w2.heap.size + 1, 1, .int .u64 al), (w2.heap.size, 0, .int .u64 ab), (w2.heap.size, 1, .int .u64 al)]) (by go_split_ands; assumption) (by assumption); exact ⟨k.at (V.heap.size) (0) (.int .u64 ab) (by simp), k.at (V.heap.size) (1) (.int .u64 al) (by simp), k.at (w5.heap.size) (0) (.int .u64 b2) (by simp), k.at (w5.heap.size) (1) (.int .u64 l2) (by simp), k.at (w2.heap.size + 1) (0) (.int .u64 ab) (by simp), k.at (w2.heap.size + 1) (1) (.int .u64 al) (by simp), k.at (w2.heap.size) (0) (.int .u64 ab) (by simp), k.at (w2.heap.size) (1) (.int .u64 al) (by simp), k⟩)); clear hHeld hK K; have hHeld := hHeldN; clear hHeldN; (try simp only [Act.put, List.setIfInBounds_toArray, List.set_cons_zero, List.set_cons_succ]))
    (refine takeT (i := 20) (v := ?_) rfl ?_ (fun _ _ _ h => h) rfl hHeld ?_ ?_; rotate_left; (focus kernel_rfl); (focus (intro w hSw; (try dsimp only at hSw); go_simp; (try with_reducible rfl))); (try simp only [Act.put, List.setIfInBounds_toArray, List.set_cons_zero, List.set_cons_succ]))
    (refine takeT (i := 21) (v := ?_) rfl ?_ (fun _ _ _ h => h) rfl hHeld ?_ ?_; rotate_left; (focus kernel_rfl); (focus (intro w hSw; (try dsimp only at hSw); go_simp; (try with_reducible rfl))); (try simp only [Act.put, List.setIfInBounds_toArray, List.set_cons_zero, List.set_cons_succ]))
    (refine takeT (i := 22) (v := ?_) rfl ?_ (fun _ _ _ h => h) rfl hHeld ?_ ?_; rotate_left; (focus kernel_rfl); (focus (intro w hSw; (try dsimp only at hSw); go_simp; (try with_reducible rfl))); (try simp only [Act.put, List.setIfInBounds_toArray, List.set_cons_zero, List.set_cons_succ]))
    (refine takeT (i := 23) (v := ?_) rfl ?_ (fun _ _ _ h => h) rfl hHeld ?_ ?_; rotate_left; (focus kernel_rfl); (focus (intro w hSw; (try dsimp only at hSw); go_simp; (try with_reducible rfl))); (try simp only [Act.put, List.setIfInBounds_toArray, List.set_cons_zero, List.set_cons_succ]))
    (refine wpAnyH_done (by kernel_rfl) ?_ _)
    obtain ⟨kc0, kc1, kc2, kc3, kc4, kc5, kc6, kc7, k⟩ := hHeld
    go_wp2
    go_ret
    exact ⟨rfl, k.below⟩

set_option maxHeartbeats 6000000 in
theorem walkD (a0 a1 a2 a3 a4 : Int) (w : World) (h0 : 0 ≤ a0) (h1 : 0 ≤ a1) (h2 : 0 ≤ a2) (h3 : 0 ≤ a3) (h4 : 0 ≤ a4) (hc : rgB a2 a3 < rgB a0 a1 ∧ rgL a0 a1 ≤ rgL a2 a3) :
    Calls Try.prog 9 #[.int .u64 a0, .int .u64 a1, .int .u64 a2, .int .u64 a3, .int .u64 a4] w fun e w' => e = .returned (.bool true) ∧ Nx w w' := by
  obtain ⟨r1, r2, r3⟩ := rg_in a0 a1
  obtain ⟨s1, s2, s3⟩ := rg_in a2 a3
  have b4 : 0 ≤ a4 % 1099511627776 ∧ a4 % 1099511627776 < 1099511627776 := by omega
  have CR := Lib.hid (fun W => sRange_any a0 a1 W h0 h1)
  have CQ := Lib.hid (fun W => sRange_any a2 a3 W h2 h3)
  have CA := Lib.hid (fun W => sAddr_any a4 W h4)
  generalize rgB a0 a1 = ab at *
  generalize rgL a0 a1 = al at *
  generalize rgB a2 a3 = bb at *
  generalize rgL a2 a3 = bl at *
  generalize a4 % 1099511627776 = x at *
  obtain ⟨c1, c2⟩ := hc
  have c3 : ¬ ab < bb := by omega
  have c4 : ¬ bl < al := by omega
  have c5 : bb ≤ ab := by omega
  have e1 : (ab == bb) = false := by rw [beq_eq_false_iff_ne]; omega
  have hap : apB ab al bb bl = false := by simp [apB]; omega
  have d1 : decide (bb ≤ ab) = true := by simp; try omega
  have d2 : decide (bl < al) = false := by simp; try omega
  have d3 : decide (ab < bb) = false := by simp; try omega
  have d4 : decide (al ≤ bl) = true := by simp; try omega
  have CP := Lib.hid (fun W => sApart_any ab al bb bl W)
  rw [hap] at CP
  go_enter Try.func9, Try.ntmps9
  go_wp2_with fail
  refine (CR.out _).mono ?_
  rintro e w1 ⟨rfl, n1⟩
  go_wp2_with fail
  refine (CQ.out _).mono ?_
  rintro e w2 ⟨rfl, n2⟩
  have k1 := hd_new (bl_step n2 n1 (Below.size n1)) (.int .u64 ab) (.int .u64 al) 26
  have k2 := hd_more k1 (.int .u64 bb) (.int .u64 bl) 26
  simp only [World.size_alloc] at k2
  clear k1
  go_wp2_with fail
  refine (CA.out _).mono ?_
  rintro e w3 ⟨rfl, rfl⟩
  have p0 := k2.at w2.heap.size 0 (.int .u64 ab) (by simp)
  have p1 := k2.at w2.heap.size 1 (.int .u64 al) (by simp)
  have p2 := k2.at (w2.heap.size + 1) 0 (.int .u64 bb) (by simp)
  have p3 := k2.at (w2.heap.size + 1) 1 (.int .u64 bl) (by simp)
  go_upto_region 2 with fail
  generalize (w2.alloc (.cells #[.int .u64 ab, .int .u64 al] 26)).alloc (.cells #[.int .u64 bb, .int .u64 bl] 26) = U at k2 p0 p1 p2 p3 ⊢
  go_wp2_with fail
  refine (CP.out _).mono ?_
  rintro e w4 ⟨rfl, n4⟩
  replace k2 := k2.nx n4
  go_wp2
  go_ret
  exact ⟨rfl, k2.below⟩

set_option maxHeartbeats 6000000 in
theorem walkD2 (a0 a1 a2 a3 a4 : Int) (w : World) (h0 : 0 ≤ a0) (h1 : 0 ≤ a1) (h2 : 0 ≤ a2) (h3 : 0 ≤ a3) (h4 : 0 ≤ a4) (hc : rgB a2 a3 = rgB a0 a1 ∧ rgL a0 a1 < rgL a2 a3) :
    Calls Try.prog 9 #[.int .u64 a0, .int .u64 a1, .int .u64 a2, .int .u64 a3, .int .u64 a4] w fun e w' => e = .returned (.bool true) ∧ Nx w w' := by
  obtain ⟨r1, r2, r3⟩ := rg_in a0 a1
  obtain ⟨s1, s2, s3⟩ := rg_in a2 a3
  have b4 : 0 ≤ a4 % 1099511627776 ∧ a4 % 1099511627776 < 1099511627776 := by omega
  have CR := Lib.hid (fun W => sRange_any a0 a1 W h0 h1)
  have CQ := Lib.hid (fun W => sRange_any a2 a3 W h2 h3)
  have CA := Lib.hid (fun W => sAddr_any a4 W h4)
  generalize rgB a0 a1 = ab at *
  generalize rgL a0 a1 = al at *
  generalize rgB a2 a3 = bb at *
  generalize rgL a2 a3 = bl at *
  generalize a4 % 1099511627776 = x at *
  obtain ⟨c1, c2⟩ := hc
  subst c1
  have e1 : (bb == bb) = true := by simp
  have e2 : (al == bl) = false := by rw [beq_eq_false_iff_ne]; omega
  have hap : apB bb al bb bl = false := by simp [apB]; omega
  have d1 : decide (bb ≤ bb) = true := by simp; try omega
  have d2 : decide (bl < al) = false := by simp; try omega
  have d3 : decide (bb < bb) = false := by simp; try omega
  have d4 : decide (al ≤ bl) = true := by simp; try omega
  have CP := Lib.hid (fun W => sApart_any bb al bb bl W)
  rw [hap] at CP
  go_enter Try.func9, Try.ntmps9
  go_wp2_with fail
  refine (CR.out _).mono ?_
  rintro e w1 ⟨rfl, n1⟩
  go_wp2_with fail
  refine (CQ.out _).mono ?_
  rintro e w2 ⟨rfl, n2⟩
  have k1 := hd_new (bl_step n2 n1 (Below.size n1)) (.int .u64 bb) (.int .u64 al) 26
  have k2 := hd_more k1 (.int .u64 bb) (.int .u64 bl) 26
  simp only [World.size_alloc] at k2
  clear k1
  go_wp2_with fail
  refine (CA.out _).mono ?_
  rintro e w3 ⟨rfl, rfl⟩
  have p0 := k2.at w2.heap.size 0 (.int .u64 bb) (by simp)
  have p1 := k2.at w2.heap.size 1 (.int .u64 al) (by simp)
  have p2 := k2.at (w2.heap.size + 1) 0 (.int .u64 bb) (by simp)
  have p3 := k2.at (w2.heap.size + 1) 1 (.int .u64 bl) (by simp)
  go_upto_region 2 with fail
  generalize (w2.alloc (.cells #[.int .u64 bb, .int .u64 al] 26)).alloc (.cells #[.int .u64 bb, .int .u64 bl] 26) = U at k2 p0 p1 p2 p3 ⊢
  go_wp2_with fail
  refine (CP.out _).mono ?_
  rintro e w4 ⟨rfl, n4⟩
  replace k2 := k2.nx n4
  go_wp2
  go_ret
  exact ⟨rfl, k2.below⟩

set_option maxHeartbeats 6000000 in
theorem walkE (a0 a1 a2 a3 a4 : Int) (w : World) (h0 : 0 ≤ a0) (h1 : 0 ≤ a1) (h2 : 0 ≤ a2) (h3 : 0 ≤ a3) (h4 : 0 ≤ a4) (hc : rgB a0 a1 < rgB a2 a3 ∧ rgL a2 a3 < rgL a0 a1) :
    Calls Try.prog 9 #[.int .u64 a0, .int .u64 a1, .int .u64 a2, .int .u64 a3, .int .u64 a4] w fun e w' => e = .returned (.bool true) ∧ Nx w w' := by
  obtain ⟨r1, r2, r3⟩ := rg_in a0 a1
  obtain ⟨s1, s2, s3⟩ := rg_in a2 a3
  have b4 : 0 ≤ a4 % 1099511627776 ∧ a4 % 1099511627776 < 1099511627776 := by omega
  have CR := Lib.hid (fun W => sRange_any a0 a1 W h0 h1)
  have CQ := Lib.hid (fun W => sRange_any a2 a3 W h2 h3)
  have CA := Lib.hid (fun W => sAddr_any a4 W h4)
  generalize rgB a0 a1 = ab at *
  generalize rgL a0 a1 = al at *
  generalize rgB a2 a3 = bb at *
  generalize rgL a2 a3 = bl at *
  generalize a4 % 1099511627776 = x at *
  obtain ⟨c1, c2⟩ := hc
  have c3 : ¬ bb ≤ ab := by omega
  have c4 : ¬ al ≤ bl := by omega
  have e1 : (ab == bb) = false := by rw [beq_eq_false_iff_ne]; omega
  have hap : apB ab al bb bl = false := by simp [apB]; omega
  have d1 : decide (bb ≤ ab) = false := by simp; try omega
  have d2 : decide (bl < al) = true := by simp; try omega
  have d3 : decide (ab < bb) = true := by simp; try omega
  have d4 : decide (al ≤ bl) = false := by simp; try omega
  have CP := Lib.hid (fun W => sApart_any ab al bb bl W)
  rw [hap] at CP
  go_enter Try.func9, Try.ntmps9
  go_wp2_with fail
  refine (CR.out _).mono ?_
  rintro e w1 ⟨rfl, n1⟩
  go_wp2_with fail
  refine (CQ.out _).mono ?_
  rintro e w2 ⟨rfl, n2⟩
  have k1 := hd_new (bl_step n2 n1 (Below.size n1)) (.int .u64 ab) (.int .u64 al) 26
  have k2 := hd_more k1 (.int .u64 bb) (.int .u64 bl) 26
  simp only [World.size_alloc] at k2
  clear k1
  go_wp2_with fail
  refine (CA.out _).mono ?_
  rintro e w3 ⟨rfl, rfl⟩
  have p0 := k2.at w2.heap.size 0 (.int .u64 ab) (by simp)
  have p1 := k2.at w2.heap.size 1 (.int .u64 al) (by simp)
  have p2 := k2.at (w2.heap.size + 1) 0 (.int .u64 bb) (by simp)
  have p3 := k2.at (w2.heap.size + 1) 1 (.int .u64 bl) (by simp)
  go_upto_region 2 with fail
  generalize (w2.alloc (.cells #[.int .u64 ab, .int .u64 al] 26)).alloc (.cells #[.int .u64 bb, .int .u64 bl] 26) = U at k2 p0 p1 p2 p3 ⊢
  go_wp2_with fail
  refine (CP.out _).mono ?_
  rintro e w4 ⟨rfl, n4⟩
  replace k2 := k2.nx n4
  go_wp2
  go_ret
  exact ⟨rfl, k2.below⟩

theorem walk (a0 a1 a2 a3 a4 : Int) (w : World) (w0 : (Lit.int .u64 a0).wf = true) (w1 : (Lit.int .u64 a1).wf = true) (w2 : (Lit.int .u64 a2).wf = true) (w3 : (Lit.int .u64 a3).wf = true) (w4 : (Lit.int .u64 a4).wf = true) :
    Calls Try.prog 9 #[.int .u64 a0, .int .u64 a1, .int .u64 a2, .int .u64 a3, .int .u64 a4] w fun e w' => e = .returned (.bool true) ∧ Nx w w' := by
  have h0 := u64_lo w0
  have h1 := u64_lo w1
  have h2 := u64_lo w2
  have h3 := u64_lo w3
  have h4 := u64_lo w4
  by_cases c1 : rgB a2 a3 ≤ rgB a0 a1
  · by_cases c2 : rgL a2 a3 < rgL a0 a1
    · exact walkA a0 a1 a2 a3 a4 w h0 h1 h2 h3 h4 ⟨c1, c2⟩
    · by_cases c3 : rgB a2 a3 < rgB a0 a1
      · exact walkD a0 a1 a2 a3 a4 w h0 h1 h2 h3 h4 ⟨c3, by omega⟩
      · by_cases c4 : rgL a0 a1 < rgL a2 a3
        · exact walkD2 a0 a1 a2 a3 a4 w h0 h1 h2 h3 h4 ⟨by omega, c4⟩
        · exact walkC a0 a1 a2 a3 a4 w h0 h1 h2 h3 h4 ⟨by omega, by omega⟩
  · by_cases c2 : rgL a2 a3 < rgL a0 a1
    · exact walkE a0 a1 a2 a3 a4 w h0 h1 h2 h3 h4 ⟨by omega, c2⟩
    · exact walkB a0 a1 a2 a3 a4 w h0 h1 h2 h3 h4 ⟨by omega, by omega⟩

set_option maxRecDepth 100000 in
theorem lifted (os : Os) (started : os.Started) (H : Type) (enc : TypeId × Value → H) :
    ReturnsInHanded {} Try.checked os 9 .any (Rows.fnExactSubtractSpec.pre6 enc Try.prog Try.f9 Rows.fnExactSubtractRow.domain false) (Rows.fnExactSubtractSpec.post enc Try.prog Try.f9 false true false false) := by
  refine returnsInHanded_of_change (C := Try.checked) own started (by kernel_rfl) Try.func9
    (ChangeSpec.witness6 (enc := enc) (C := Try.checked) false ⟨#[], #[.int .u64 0, .int .u64 0, .int .u64 0, .int .u64 0, .int .u64 0], []⟩ 8 (by kernel_rfl) (by kernel_rfl) (by kernel_rfl) (by kernel_rfl)) ?_
  intro W base args ds gs before hval0 hW hcnd _
  have hval : ∀ (j : Nat) t v, Try.f9.params[j]? = some t → args[j]? = some v → Value.okWide Try.prog W .any base t v := hval0
  have hW' := hW
  obtain ⟨p, q, hA0, hV, rfl, hfz, hnd⟩ := hW
  have hA : DataW.TrodAll enc Try.prog W 0 (fun _ => true) true Try.f9.params.toList args.toList ds p := hA0
  rw [Try.params9] at hA hval
  obtain ⟨v0, vs0, d0, ds0, p0, q0, hargs, rfl, rfl, h0, r0⟩ := trodAll_cons hA
  obtain ⟨v1, vs1, d1, ds1, p1, q1, rfl, rfl, rfl, h1, r1⟩ := trodAll_cons r0
  obtain ⟨v2, vs2, d2, ds2, p2, q2, rfl, rfl, rfl, h2, r2⟩ := trodAll_cons r1
  obtain ⟨v3, vs3, d3, ds3, p3, q3, rfl, rfl, rfl, h3, r3⟩ := trodAll_cons r2
  obtain ⟨v4, vs4, d4, ds4, p4, q4, rfl, rfl, rfl, h4, r4⟩ := trodAll_cons r3
  obtain ⟨rfl, rfl, rfl⟩ := trodAll_nil r4
  obtain rfl : args = #[v0, v1, v2, v3, v4] := by cases args; simp_all
  obtain ⟨rfl, rfl⟩ := trodVars_none hV
  obtain ⟨a0, rfl, rfl, rfl, w0⟩ := open_int Try.underlying22 (hval 0 22 v0 rfl rfl) h0
  obtain ⟨a1, rfl, rfl, rfl, w1⟩ := open_int Try.underlying22 (hval 1 22 v1 rfl rfl) h1
  obtain ⟨a2, rfl, rfl, rfl, w2⟩ := open_int Try.underlying22 (hval 2 22 v2 rfl rfl) h2
  obtain ⟨a3, rfl, rfl, rfl, w3⟩ := open_int Try.underlying22 (hval 3 22 v3 rfl rfl) h3
  obtain ⟨a4, rfl, rfl, rfl, w4⟩ := open_int Try.underlying22 (hval 4 22 v4 rfl rfl) h4
  clear hA0 hval0
  refine (walk a0 a1 a2 a3 a4 W w0 w1 w2 w3 w4).mono fun e W' ⟨he, bel⟩ => ?_
  subst he
  exact ⟨_, rfl, _, _, _, [], _, [], hW', trodAll_mk1 (shut_bool Try.underlying4 _), (trodAll_cons_mk (shut_int Try.underlying22 w0) (trodAll_cons_mk (shut_int Try.underlying22 w1) (trodAll_cons_mk (shut_int Try.underlying22 w2) (trodAll_cons_mk (shut_int Try.underlying22 w3) (trodAll_cons_mk (shut_int Try.underlying22 w4) trodAll_mk0))))), rfl, Below.frame bel _, fun h => by cases h⟩
theorem over : Rows.fnExactSubtractRow.holds Try.pinned (OpenSpec.ofChange Rows.fnExactSubtractSpec) :=
  OpenClaim.holds_of_wide 9 Try.f9 rfl rfl rfl rfl rfl rfl rfl ⟨rfl, rfl, rfl, rfl, rfl⟩ rfl rfl rfl rfl rfl (by kernel_rfl) Try.func9 (by kernel_rfl)
    (of_decide_eq_true (by kernel_rfl)) (by unfold Func.isWrapper; first | (rw [if_pos (by decide +kernel)]; kernel_rfl) | (rw [if_neg (by decide +kernel)]; exact ⟨rfl, rfl⟩))
    (fun os started H enc _ => lifted os started H enc)
theorem proved : Rows.FnExactSubtractSaid := over
#print axioms proved
end Go.Proofs.Ytjhchjocaafakaa.fnExactSubtract
