/- The reference's Meets and Tidy. -/
import Derived.Test.YtnmljgjcdofboaaSp
import Derived.Test.YtnmljgjcdofboaaMa
import Derived.Test.YtnmljgjcdofboaaRw
import Derived.Deep.LoopGhost
namespace Go.Proofs.Ytnmljgjcdofboaa
open Go.RowKit
set_option linter.unusedVariables false
set_option linter.unusedSimpArgs false

set_option maxHeartbeats 1000000 in
theorem sMeets_any (A : Option Addr) (c : Nat) (L : List R) (a b : Int) (w : World) (h : SlAt w A c L) (hn : L.length ≤ 65536) :
    Calls Try.prog 22 #[.slice A L.length c, .agg #[.int .u64 a, .int .u64 b]] w fun e w' => e = .returned (.bool (meetsB L (a, b))) ∧ Nx w w' := by
  go_enter Try.func22, Try.ntmps22
  have bV := Bk.new w #[.int .u64 a, .int .u64 b] 24
  have h0 := h.alloc (.cells #[.int .u64 a, .int .u64 b] 24)
  have hb0 : Nx w (w.alloc (.cells #[.int .u64 a, .int .u64 b] 24)) := (Below.refl _ _).alloc (Nat.le_refl _) _
  clear h
  go_upto_region 1 with fail
  generalize w.alloc (.cells #[.int .u64 a, .int .u64 b] 24) = U at bV h0 hb0 ⊢
  go_wp2_with fail
  go_loopg [5] L.length (fun gn v wr => ∃ k : Nat, k ≤ L.length ∧ L.length - k ≤ gn ∧ v = .int .i64 k ∧ Hid (meetsB (L.take k) (a, b) = false) ∧ Nx U wr)
  case atStart => exact ⟨0, by omega, by omega, rfl, rfl, Below.refl _ _⟩
  case round =>
    obtain ⟨k, hk, hg, rfl, hno, hb⟩ := hrel
    by_cases hlt : k < L.length
    · obtain ⟨g, rfl, hgs, c0, c1⟩ := (h0.nx hb).at hlt
      have ht := Lib.hid (meetsB_take L (a, b) k hlt)
      have hm := Lib.hid (meetsB_mono L (a, b) k hlt)
      generalize L[k] = r at c0 c1 ht hm
      have hki : (0 : Int) ≤ k ∧ (k : Int) < L.length := by omega
      replace bV := bV.nx hb
      have hS : ∀ w', Nx wr w' → w'.cell? ⟨g, k * 2, none⟩ = some (.int .u64 r.1) ∧ w'.cell? ⟨g, k * 2 + 1, none⟩ = some (.int .u64 r.2) ∧ w'.cell? ⟨w.heap.size, 0, none⟩ = some (.int .u64 a) ∧ w'.cell? ⟨w.heap.size, 1, none⟩ = some (.int .u64 b) ∧ Nx wr w' := fun w' q => ⟨(Below.cell q (p := ⟨g, k * 2, none⟩) (World.block_lt_of_cell? wr _ c0)).trans c0, (Below.cell q (p := ⟨g, k * 2 + 1, none⟩) (World.block_lt_of_cell? wr _ c1)).trans c1, (bV.nx q).cell 0, (bV.nx q).cell 1, q⟩
      have CP := Lib.hid (fun W => sApart_any r.1 r.2 a b W)
      rcases hh : apB r.1 r.2 a b with _ | _
      · rw [hh] at CP
        have HH := Lib.hid hh
        clear hh
        go_upto_region 4 with fail
        refine wp_region_held_drew (S := fun w' => w'.cell? ⟨g, k * 2, none⟩ = some (.int .u64 r.1) ∧ w'.cell? ⟨g, k * 2 + 1, none⟩ = some (.int .u64 r.2) ∧ w'.cell? ⟨w.heap.size, 0, none⟩ = some (.int .u64 a) ∧ w'.cell? ⟨w.heap.size, 1, none⟩ = some (.int .u64 b) ∧ Nx wr w') (by kernel_rfl) ?_ (fun hHeld => ?_)
        focus (exact hS _ ((Below.refl _ _).drew))
        (refine takeT (i := 0) (v := ?_) rfl ?_ (fun _ _ _ h => h) rfl hHeld ?_ ?_; rotate_left; (focus kernel_rfl); (focus (intro w hSw; (try dsimp only at hSw); go_simp; (try with_reducible rfl))); (try simp only [Act.put, List.setIfInBounds_toArray, List.set_cons_zero, List.set_cons_succ]))
        (refine takeT (i := 1) (v := ?_) rfl ?_ (fun _ _ _ h => h) rfl hHeld ?_ ?_; rotate_left; (focus kernel_rfl); (focus (intro w hSw; (try dsimp only at hSw); go_simp; (try with_reducible rfl))); (try simp only [Act.put, List.setIfInBounds_toArray, List.set_cons_zero, List.set_cons_succ]))
        (refine takeT (i := 2) (v := ?_) rfl ?_ (fun _ _ _ h => h) rfl hHeld ?_ ?_; rotate_left; (focus kernel_rfl); (focus (intro w hSw; (try dsimp only at hSw); go_simp; (try with_reducible rfl))); (try simp only [Act.put, List.setIfInBounds_toArray, List.set_cons_zero, List.set_cons_succ]))
        (refine takeT (i := 3) (v := ?_) rfl ?_ (fun _ _ _ h => h) rfl hHeld ?_ ?_; rotate_left; (focus kernel_rfl); (focus (intro w hSw; (try dsimp only at hSw); go_simp; (try with_reducible rfl))); (try simp only [Act.put, List.setIfInBounds_toArray, List.set_cons_zero, List.set_cons_succ]))
        (refine takeT (i := 4) (v := ?_) rfl ?_ (fun _ _ _ h => h) rfl hHeld ?_ ?_; rotate_left; (focus kernel_rfl); (focus (intro w hSw; (try dsimp only at hSw); go_simp; (try with_reducible rfl))); (try simp only [Act.put, List.setIfInBounds_toArray, List.set_cons_zero, List.set_cons_succ]))
        (refine doOne (i := 5) rfl ?_ (fun K hK => ?_); (focus kernel_rfl))
        ((first | fail | go_simp); (first | ((first | (go_at_call 23; refine (CP.out _).mono ?_; rintro e wh ⟨rfl, nh⟩)); go_wp2_with fail) | skip); refine hK.out _ _ ?_ (fun hHeldN => ?_); (focus (exact hS _ (bl_step nh hHeld.2.2.2.2 (Below.size hHeld.2.2.2.2)))); clear hHeld hK K; have hHeld := hHeldN; clear hHeldN; (try simp only [Act.put, List.setIfInBounds_toArray, List.set_cons_zero, List.set_cons_succ]))
        (refine takeT (i := 6) (v := ?_) rfl ?_ (fun _ _ _ h => h) rfl hHeld ?_ ?_; rotate_left; (focus kernel_rfl); (focus (intro w hSw; (try dsimp only at hSw); go_simp; (try with_reducible rfl))); (try simp only [Act.put, List.setIfInBounds_toArray, List.set_cons_zero, List.set_cons_succ]))
        (refine wpAnyH_done (by kernel_rfl) ?_ _)
        have hb1 := bl_step hHeld.2.2.2.2 hb hb.size
        clear hS hHeld c0 c1 bV
        go_wp2
        go_ret
        exact ⟨ret_bool (hm.out HH.out).symm, bl_step hb1 hb0 hb0.size⟩
      · rw [hh] at CP
        have HH := Lib.hid hh
        clear hh
        go_upto_region 4 with fail
        refine wp_region_held_drew (S := fun w' => w'.cell? ⟨g, k * 2, none⟩ = some (.int .u64 r.1) ∧ w'.cell? ⟨g, k * 2 + 1, none⟩ = some (.int .u64 r.2) ∧ w'.cell? ⟨w.heap.size, 0, none⟩ = some (.int .u64 a) ∧ w'.cell? ⟨w.heap.size, 1, none⟩ = some (.int .u64 b) ∧ Nx wr w') (by kernel_rfl) ?_ (fun hHeld => ?_)
        focus (exact hS _ ((Below.refl _ _).drew))
        (refine takeT (i := 0) (v := ?_) rfl ?_ (fun _ _ _ h => h) rfl hHeld ?_ ?_; rotate_left; (focus kernel_rfl); (focus (intro w hSw; (try dsimp only at hSw); go_simp; (try with_reducible rfl))); (try simp only [Act.put, List.setIfInBounds_toArray, List.set_cons_zero, List.set_cons_succ]))
        (refine takeT (i := 1) (v := ?_) rfl ?_ (fun _ _ _ h => h) rfl hHeld ?_ ?_; rotate_left; (focus kernel_rfl); (focus (intro w hSw; (try dsimp only at hSw); go_simp; (try with_reducible rfl))); (try simp only [Act.put, List.setIfInBounds_toArray, List.set_cons_zero, List.set_cons_succ]))
        (refine takeT (i := 2) (v := ?_) rfl ?_ (fun _ _ _ h => h) rfl hHeld ?_ ?_; rotate_left; (focus kernel_rfl); (focus (intro w hSw; (try dsimp only at hSw); go_simp; (try with_reducible rfl))); (try simp only [Act.put, List.setIfInBounds_toArray, List.set_cons_zero, List.set_cons_succ]))
        (refine takeT (i := 3) (v := ?_) rfl ?_ (fun _ _ _ h => h) rfl hHeld ?_ ?_; rotate_left; (focus kernel_rfl); (focus (intro w hSw; (try dsimp only at hSw); go_simp; (try with_reducible rfl))); (try simp only [Act.put, List.setIfInBounds_toArray, List.set_cons_zero, List.set_cons_succ]))
        (refine takeT (i := 4) (v := ?_) rfl ?_ (fun _ _ _ h => h) rfl hHeld ?_ ?_; rotate_left; (focus kernel_rfl); (focus (intro w hSw; (try dsimp only at hSw); go_simp; (try with_reducible rfl))); (try simp only [Act.put, List.setIfInBounds_toArray, List.set_cons_zero, List.set_cons_succ]))
        (refine doOne (i := 5) rfl ?_ (fun K hK => ?_); (focus kernel_rfl))
        ((first | fail | go_simp); (first | ((first | (go_at_call 23; refine (CP.out _).mono ?_; rintro e wh ⟨rfl, nh⟩)); go_wp2_with fail) | skip); refine hK.out _ _ ?_ (fun hHeldN => ?_); (focus (exact hS _ (bl_step nh hHeld.2.2.2.2 (Below.size hHeld.2.2.2.2)))); clear hHeld hK K; have hHeld := hHeldN; clear hHeldN; (try simp only [Act.put, List.setIfInBounds_toArray, List.set_cons_zero, List.set_cons_succ]))
        (refine takeT (i := 6) (v := ?_) rfl ?_ (fun _ _ _ h => h) rfl hHeld ?_ ?_; rotate_left; (focus kernel_rfl); (focus (intro w hSw; (try dsimp only at hSw); go_simp; (try with_reducible rfl))); (try simp only [Act.put, List.setIfInBounds_toArray, List.set_cons_zero, List.set_cons_succ]))
        (refine wpAnyH_done (by kernel_rfl) ?_ _)
        have hb1 := bl_step hHeld.2.2.2.2 hb hb.size
        clear hS hHeld c0 c1 bV
        go_wp2
        go_roundg (L.length - (k + 1))
        case measure => omega
        case rel => exact ⟨k + 1, by omega, by omega, by go_num, by show meetsB (L.take (k + 1)) (a, b) = false; rw [ht.out, hno.out, HH.out]; rfl, hb1⟩
    · have hkl : k = L.length := by omega
      have hno2 : meetsB L (a, b) = false := by have := hno.out; rw [hkl, List.take_length] at this; exact this
      have H2 := Lib.hid hno2
      clear hno hno2 hkl
      go_wp2
      go_ret
      exact ⟨ret_bool H2.out.symm, bl_step hb hb0 hb0.size⟩
set_option maxHeartbeats 1000000 in
theorem sTidy_any (A : Option Addr) (c : Nat) (L : List R) (w : World) (h : SlAt w A c L) (hn : L.length ≤ 65536) (hT : Td L) :
    Calls Try.prog 25 #[.slice A L.length c] w fun e w' => e = .returned (.bool true) ∧ Nx w w' := by
  go_enter Try.func25, Try.ntmps25
  go_wp2_with fail
  go_loopg [3] L.length (fun gn v wr => ∃ k : Nat, k ≤ L.length ∧ L.length - k ≤ gn ∧ v = .int .i64 k ∧ Nx w wr)
  case atStart => exact ⟨0, by omega, by omega, rfl, Below.refl _ _⟩
  case round =>
    obtain ⟨k, hk, hg, rfl, hb⟩ := hrel
    by_cases hlt : k < L.length
    · cases k with
      | zero =>
        obtain ⟨g, rfl, hgs, c0, c1⟩ := (h.nx hb).at hlt
        have hne := hT.ne 0 hlt
        generalize L[0] = r at c0 c1 hne
        rw [Nat.zero_mul] at c0 c1
        have d1 : decide (r.2 ≤ r.1) = false := by simp; omega
        have hS : ∀ w', Nx wr w' → w'.cell? ⟨g, 0, none⟩ = some (.int .u64 r.1) ∧ w'.cell? ⟨g, 0 + 1, none⟩ = some (.int .u64 r.2) ∧ Nx wr w' := fun w' q => ⟨(Below.cell q (p := ⟨g, 0, none⟩) (World.block_lt_of_cell? wr _ c0)).trans c0, (Below.cell q (p := ⟨g, 0 + 1, none⟩) (World.block_lt_of_cell? wr _ c1)).trans c1, q⟩
        have hki : (0 : Int) < L.length := by omega
        go_upto_region 4 with fail
        refine wp_region_held_drew (S := fun w' => w'.cell? ⟨g, 0, none⟩ = some (.int .u64 r.1) ∧ w'.cell? ⟨g, 0 + 1, none⟩ = some (.int .u64 r.2) ∧ Nx wr w') (by kernel_rfl) ?_ (fun hHeld => ?_)
        focus (exact hS _ ((Below.refl _ _).drew))
        (refine takeT (i := 0) (v := ?_) rfl ?_ (fun _ _ _ h => h) rfl hHeld ?_ ?_; rotate_left; (focus kernel_rfl); (focus (intro w hSw; (try dsimp only at hSw); go_simp; (try with_reducible rfl))); (try simp only [Act.put, List.setIfInBounds_toArray, List.set_cons_zero, List.set_cons_succ]))
        (refine takeT (i := 1) (v := ?_) rfl ?_ (fun _ _ _ h => h) rfl hHeld ?_ ?_; rotate_left; (focus kernel_rfl); (focus (intro w hSw; (try dsimp only at hSw); go_simp; (try with_reducible rfl))); (try simp only [Act.put, List.setIfInBounds_toArray, List.set_cons_zero, List.set_cons_succ]))
        (refine takeT (i := 2) (v := ?_) rfl ?_ (fun _ _ _ h => h) rfl hHeld ?_ ?_; rotate_left; (focus kernel_rfl); (focus (intro w hSw; (try dsimp only at hSw); go_simp; (try with_reducible rfl))); (try simp only [Act.put, List.setIfInBounds_toArray, List.set_cons_zero, List.set_cons_succ]))
        (refine takeT (i := 3) (v := ?_) rfl ?_ (fun _ _ _ h => h) rfl hHeld ?_ ?_; rotate_left; (focus kernel_rfl); (focus (intro w hSw; (try dsimp only at hSw); go_simp; (try with_reducible rfl))); (try simp only [Act.put, List.setIfInBounds_toArray, List.set_cons_zero, List.set_cons_succ]))
        (refine takeT (i := 4) (v := ?_) rfl ?_ (fun _ _ _ h => h) rfl hHeld ?_ ?_; rotate_left; (focus kernel_rfl); (focus (intro w hSw; (try dsimp only at hSw); go_simp; (try with_reducible rfl))); (try simp only [Act.put, List.setIfInBounds_toArray, List.set_cons_zero, List.set_cons_succ]))
        (refine takeT (i := 5) (v := ?_) rfl ?_ (fun _ _ _ h => h) rfl hHeld ?_ ?_; rotate_left; (focus kernel_rfl); (focus (intro w hSw; (try dsimp only at hSw); go_simp; (try with_reducible rfl))); (try simp only [Act.put, List.setIfInBounds_toArray, List.set_cons_zero, List.set_cons_succ]))
        (refine takeT (i := 6) (v := ?_) rfl ?_ (fun _ _ _ h => h) rfl hHeld ?_ ?_; rotate_left; (focus kernel_rfl); (focus (intro w hSw; (try dsimp only at hSw); go_simp; (try with_reducible rfl))); (try simp only [Act.put, List.setIfInBounds_toArray, List.set_cons_zero, List.set_cons_succ]))
        (refine takeT (i := 7) (v := ?_) rfl ?_ (fun _ _ _ h => h) rfl hHeld ?_ ?_; rotate_left; (focus kernel_rfl); (focus (intro w hSw; (try dsimp only at hSw); go_simp; (try with_reducible rfl))); (try simp only [Act.put, List.setIfInBounds_toArray, List.set_cons_zero, List.set_cons_succ]))
        (refine takeT (i := 8) (v := ?_) rfl ?_ (fun _ _ _ h => h) rfl hHeld ?_ ?_; rotate_left; (focus kernel_rfl); (focus (intro w hSw; (try dsimp only at hSw); go_simp; (try with_reducible rfl))); (try simp only [Act.put, List.setIfInBounds_toArray, List.set_cons_zero, List.set_cons_succ]))
        (refine takeT (i := 9) (v := ?_) rfl ?_ (fun _ _ _ h => h) rfl hHeld ?_ ?_; rotate_left; (focus kernel_rfl); (focus (intro w hSw; (try dsimp only at hSw); go_simp; (try with_reducible rfl))); (try simp only [Act.put, List.setIfInBounds_toArray, List.set_cons_zero, List.set_cons_succ]))
        (refine takeT (i := 10) (v := ?_) rfl ?_ (fun _ _ _ h => h) rfl hHeld ?_ ?_; rotate_left; (focus kernel_rfl); (focus (intro w hSw; (try dsimp only at hSw); go_simp; (try with_reducible rfl))); (try simp only [Act.put, List.setIfInBounds_toArray, List.set_cons_zero, List.set_cons_succ]))
        (refine takeT (i := 11) (v := ?_) rfl ?_ (fun _ _ _ h => h) rfl hHeld ?_ ?_; rotate_left; (focus kernel_rfl); (focus (intro w hSw; (try dsimp only at hSw); go_simp; (try with_reducible rfl))); (try simp only [Act.put, List.setIfInBounds_toArray, List.set_cons_zero, List.set_cons_succ]))
        (refine takeT (i := 12) (v := ?_) rfl ?_ (fun _ _ _ h => h) rfl hHeld ?_ ?_; rotate_left; (focus kernel_rfl); (focus (intro w hSw; (try dsimp only at hSw); go_simp; (try with_reducible rfl))); (try simp only [Act.put, List.setIfInBounds_toArray, List.set_cons_zero, List.set_cons_succ]))
        (refine takeT (i := 13) (v := ?_) rfl ?_ (fun _ _ _ h => h) rfl hHeld ?_ ?_; rotate_left; (focus kernel_rfl); (focus (intro w hSw; (try dsimp only at hSw); go_simp; (try with_reducible rfl))); (try simp only [Act.put, List.setIfInBounds_toArray, List.set_cons_zero, List.set_cons_succ]))
        (refine takeT (i := 14) (v := ?_) rfl ?_ (fun _ _ _ h => h) rfl hHeld ?_ ?_; rotate_left; (focus kernel_rfl); (focus (intro w hSw; (try dsimp only at hSw); go_simp; (try with_reducible rfl))); (try simp only [Act.put, List.setIfInBounds_toArray, List.set_cons_zero, List.set_cons_succ]))
        (refine takeF (i := 15) rfl ?_ (fun _ _ _ h => h) rfl hHeld ?_; (focus kernel_rfl); (try simp only [Act.put, List.setIfInBounds_toArray, List.set_cons_zero, List.set_cons_succ]))
        (refine takeF (i := 16) rfl ?_ (fun _ _ _ h => h) rfl hHeld ?_; (focus kernel_rfl); (try simp only [Act.put, List.setIfInBounds_toArray, List.set_cons_zero, List.set_cons_succ]))
        (refine takeF (i := 17) rfl ?_ (fun _ _ _ h => h) rfl hHeld ?_; (focus kernel_rfl); (try simp only [Act.put, List.setIfInBounds_toArray, List.set_cons_zero, List.set_cons_succ]))
        (refine takeF (i := 18) rfl ?_ (fun _ _ _ h => h) rfl hHeld ?_; (focus kernel_rfl); (try simp only [Act.put, List.setIfInBounds_toArray, List.set_cons_zero, List.set_cons_succ]))
        (refine takeF (i := 19) rfl ?_ (fun _ _ _ h => h) rfl hHeld ?_; (focus kernel_rfl); (try simp only [Act.put, List.setIfInBounds_toArray, List.set_cons_zero, List.set_cons_succ]))
        (refine takeF (i := 20) rfl ?_ (fun _ _ _ h => h) rfl hHeld ?_; (focus kernel_rfl); (try simp only [Act.put, List.setIfInBounds_toArray, List.set_cons_zero, List.set_cons_succ]))
        (refine takeF (i := 21) rfl ?_ (fun _ _ _ h => h) rfl hHeld ?_; (focus kernel_rfl); (try simp only [Act.put, List.setIfInBounds_toArray, List.set_cons_zero, List.set_cons_succ]))
        (refine takeF (i := 22) rfl ?_ (fun _ _ _ h => h) rfl hHeld ?_; (focus kernel_rfl); (try simp only [Act.put, List.setIfInBounds_toArray, List.set_cons_zero, List.set_cons_succ]))
        (refine takeF (i := 23) rfl ?_ (fun _ _ _ h => h) rfl hHeld ?_; (focus kernel_rfl); (try simp only [Act.put, List.setIfInBounds_toArray, List.set_cons_zero, List.set_cons_succ]))
        (refine takeF (i := 24) rfl ?_ (fun _ _ _ h => h) rfl hHeld ?_; (focus kernel_rfl); (try simp only [Act.put, List.setIfInBounds_toArray, List.set_cons_zero, List.set_cons_succ]))
        (refine takeF (i := 25) rfl ?_ (fun _ _ _ h => h) rfl hHeld ?_; (focus kernel_rfl); (try simp only [Act.put, List.setIfInBounds_toArray, List.set_cons_zero, List.set_cons_succ]))
        (refine takeF (i := 26) rfl ?_ (fun _ _ _ h => h) rfl hHeld ?_; (focus kernel_rfl); (try simp only [Act.put, List.setIfInBounds_toArray, List.set_cons_zero, List.set_cons_succ]))
        (refine takeT (i := 27) (v := ?_) rfl ?_ (fun _ _ _ h => h) rfl hHeld ?_ ?_; rotate_left; (focus kernel_rfl); (focus (intro w hSw; (try dsimp only at hSw); go_simp; (try with_reducible rfl))); (try simp only [Act.put, List.setIfInBounds_toArray, List.set_cons_zero, List.set_cons_succ]))
        (refine takeT (i := 28) (v := ?_) rfl ?_ (fun _ _ _ h => h) rfl hHeld ?_ ?_; rotate_left; (focus kernel_rfl); (focus (intro w hSw; (try dsimp only at hSw); go_simp; (try with_reducible rfl))); (try simp only [Act.put, List.setIfInBounds_toArray, List.set_cons_zero, List.set_cons_succ]))
        (refine wpAnyH_done (by kernel_rfl) ?_ _)
        have hb1 := bl_step hHeld.2.2 hb hb.size
        clear hS hHeld c0 c1
        go_wp2
        go_roundg (L.length - (0 + 1))
        case measure => omega
        case rel => exact ⟨0 + 1, by omega, by omega, by go_num, hb1⟩
      | succ m =>
        obtain ⟨g, rfl, hgs, c0, c1⟩ := (h.nx hb).at hlt
        obtain ⟨g', hg', _, e0, e1⟩ := (h.nx hb).at (show m < L.length by omega)
        injection hg' with hg'
        injection hg' with hg'
        subst hg'
        have hne := hT.ne (m + 1) hlt
        have hup := hT.up m (m + 1) (by omega) hlt (by omega)
        generalize L[m + 1] = r at c0 c1 hne hup
        generalize L[m] = s at e0 e1 hup
        have d1 : decide (r.2 ≤ r.1) = false := by simp; omega
        have d2 : decide (r.1 ≤ s.2) = false := by simp; omega
        have hS : ∀ w', Nx wr w' → w'.cell? ⟨g, (m + 1) * 2, none⟩ = some (.int .u64 r.1) ∧ w'.cell? ⟨g, (m + 1) * 2 + 1, none⟩ = some (.int .u64 r.2) ∧ w'.cell? ⟨g, m * 2 + 1, none⟩ = some (.int .u64 s.2) ∧ Nx wr w' := fun w' q => ⟨(Below.cell q (p := ⟨g, (m + 1) * 2, none⟩) (World.block_lt_of_cell? wr _ c0)).trans c0, (Below.cell q (p := ⟨g, (m + 1) * 2 + 1, none⟩) (World.block_lt_of_cell? wr _ c1)).trans c1, (Below.cell q (p := ⟨g, m * 2 + 1, none⟩) (World.block_lt_of_cell? wr _ e1)).trans e1, q⟩
        have hki : (0 : Int) ≤ m ∧ (m : Int) < L.length ∧ (0 : Int) < (m : Int) + 1 ∧ (0 : Int) ≤ (m : Int) + 1 ∧ (m : Int) + 1 < L.length := by omega
        have htn : ((m : Int) + 1).toNat = m + 1 := by omega
        have hwm : IntKind.i64.wrap (m : Int) = m := IntWalk.i64_in _ (by omega)
        go_upto_region 4 with fail
        refine wp_region_held_drew (S := fun w' => w'.cell? ⟨g, (m + 1) * 2, none⟩ = some (.int .u64 r.1) ∧ w'.cell? ⟨g, (m + 1) * 2 + 1, none⟩ = some (.int .u64 r.2) ∧ w'.cell? ⟨g, m * 2 + 1, none⟩ = some (.int .u64 s.2) ∧ Nx wr w') (by kernel_rfl) ?_ (fun hHeld => ?_)
        focus (exact hS _ ((Below.refl _ _).drew))
        (refine takeT (i := 0) (v := ?_) rfl ?_ (fun _ _ _ h => h) rfl hHeld ?_ ?_; rotate_left; (focus kernel_rfl); (focus (intro w hSw; (try dsimp only at hSw); go_simp; (try with_reducible rfl))); (try simp only [Act.put, List.setIfInBounds_toArray, List.set_cons_zero, List.set_cons_succ]))
        (refine takeT (i := 1) (v := ?_) rfl ?_ (fun _ _ _ h => h) rfl hHeld ?_ ?_; rotate_left; (focus kernel_rfl); (focus (intro w hSw; (try dsimp only at hSw); go_simp; (try with_reducible rfl))); (try simp only [Act.put, List.setIfInBounds_toArray, List.set_cons_zero, List.set_cons_succ]))
        (refine takeT (i := 2) (v := ?_) rfl ?_ (fun _ _ _ h => h) rfl hHeld ?_ ?_; rotate_left; (focus kernel_rfl); (focus (intro w hSw; (try dsimp only at hSw); go_simp; (try with_reducible rfl))); (try simp only [Act.put, List.setIfInBounds_toArray, List.set_cons_zero, List.set_cons_succ]))
        (refine takeT (i := 3) (v := ?_) rfl ?_ (fun _ _ _ h => h) rfl hHeld ?_ ?_; rotate_left; (focus kernel_rfl); (focus (intro w hSw; (try dsimp only at hSw); go_simp; (try with_reducible rfl))); (try simp only [Act.put, List.setIfInBounds_toArray, List.set_cons_zero, List.set_cons_succ]))
        (refine takeT (i := 4) (v := ?_) rfl ?_ (fun _ _ _ h => h) rfl hHeld ?_ ?_; rotate_left; (focus kernel_rfl); (focus (intro w hSw; (try dsimp only at hSw); go_simp; (try with_reducible rfl))); (try simp only [Act.put, List.setIfInBounds_toArray, List.set_cons_zero, List.set_cons_succ]))
        (refine takeT (i := 5) (v := ?_) rfl ?_ (fun _ _ _ h => h) rfl hHeld ?_ ?_; rotate_left; (focus kernel_rfl); (focus (intro w hSw; (try dsimp only at hSw); go_simp; (try with_reducible rfl))); (try simp only [Act.put, List.setIfInBounds_toArray, List.set_cons_zero, List.set_cons_succ]))
        (refine takeT (i := 6) (v := ?_) rfl ?_ (fun _ _ _ h => h) rfl hHeld ?_ ?_; rotate_left; (focus kernel_rfl); (focus (intro w hSw; (try dsimp only at hSw); go_simp; (try with_reducible rfl))); (try simp only [Act.put, List.setIfInBounds_toArray, List.set_cons_zero, List.set_cons_succ]))
        (refine takeT (i := 7) (v := ?_) rfl ?_ (fun _ _ _ h => h) rfl hHeld ?_ ?_; rotate_left; (focus kernel_rfl); (focus (intro w hSw; (try dsimp only at hSw); go_simp; (try with_reducible rfl))); (try simp only [Act.put, List.setIfInBounds_toArray, List.set_cons_zero, List.set_cons_succ]))
        (refine takeT (i := 8) (v := ?_) rfl ?_ (fun _ _ _ h => h) rfl hHeld ?_ ?_; rotate_left; (focus kernel_rfl); (focus (intro w hSw; (try dsimp only at hSw); go_simp; (try with_reducible rfl))); (try simp only [Act.put, List.setIfInBounds_toArray, List.set_cons_zero, List.set_cons_succ]))
        (refine takeT (i := 9) (v := ?_) rfl ?_ (fun _ _ _ h => h) rfl hHeld ?_ ?_; rotate_left; (focus kernel_rfl); (focus (intro w hSw; (try dsimp only at hSw); go_simp; (try with_reducible rfl))); (try simp only [Act.put, List.setIfInBounds_toArray, List.set_cons_zero, List.set_cons_succ]))
        (refine takeT (i := 10) (v := ?_) rfl ?_ (fun _ _ _ h => h) rfl hHeld ?_ ?_; rotate_left; (focus kernel_rfl); (focus (intro w hSw; (try dsimp only at hSw); go_simp; (try with_reducible rfl))); (try simp only [Act.put, List.setIfInBounds_toArray, List.set_cons_zero, List.set_cons_succ]))
        (refine takeT (i := 11) (v := ?_) rfl ?_ (fun _ _ _ h => h) rfl hHeld ?_ ?_; rotate_left; (focus kernel_rfl); (focus (intro w hSw; (try dsimp only at hSw); go_simp; (try with_reducible rfl))); (try simp only [Act.put, List.setIfInBounds_toArray, List.set_cons_zero, List.set_cons_succ]))
        (refine takeT (i := 12) (v := ?_) rfl ?_ (fun _ _ _ h => h) rfl hHeld ?_ ?_; rotate_left; (focus kernel_rfl); (focus (intro w hSw; (try dsimp only at hSw); go_simp; (try with_reducible rfl))); (try simp only [Act.put, List.setIfInBounds_toArray, List.set_cons_zero, List.set_cons_succ]))
        (refine takeT (i := 13) (v := ?_) rfl ?_ (fun _ _ _ h => h) rfl hHeld ?_ ?_; rotate_left; (focus kernel_rfl); (focus (intro w hSw; (try dsimp only at hSw); go_simp; (try with_reducible rfl))); (try simp only [Act.put, List.setIfInBounds_toArray, List.set_cons_zero, List.set_cons_succ]))
        (refine takeT (i := 14) (v := ?_) rfl ?_ (fun _ _ _ h => h) rfl hHeld ?_ ?_; rotate_left; (focus kernel_rfl); (focus (intro w hSw; (try dsimp only at hSw); go_simp; (try with_reducible rfl))); (try simp only [Act.put, List.setIfInBounds_toArray, List.set_cons_zero, List.set_cons_succ]))
        (refine takeT (i := 15) (v := ?_) rfl ?_ (fun _ _ _ h => h) rfl hHeld ?_ ?_; rotate_left; (focus kernel_rfl); (focus (intro w hSw; (try dsimp only at hSw); go_simp; (try with_reducible rfl))); (try simp only [Act.put, List.setIfInBounds_toArray, List.set_cons_zero, List.set_cons_succ]))
        (refine takeT (i := 16) (v := ?_) rfl ?_ (fun _ _ _ h => h) rfl hHeld ?_ ?_; rotate_left; (focus kernel_rfl); (focus (intro w hSw; (try dsimp only at hSw); go_simp; (try with_reducible rfl))); (try simp only [Act.put, List.setIfInBounds_toArray, List.set_cons_zero, List.set_cons_succ]))
        (refine takeT (i := 17) (v := ?_) rfl ?_ (fun _ _ _ h => h) rfl hHeld ?_ ?_; rotate_left; (focus kernel_rfl); (focus (intro w hSw; (try dsimp only at hSw); go_simp; (try with_reducible rfl))); (try simp only [Act.put, List.setIfInBounds_toArray, List.set_cons_zero, List.set_cons_succ]))
        (refine takeT (i := 18) (v := ?_) rfl ?_ (fun _ _ _ h => h) rfl hHeld ?_ ?_; rotate_left; (focus kernel_rfl); (focus (intro w hSw; (try dsimp only at hSw); go_simp; (try with_reducible rfl))); (try simp only [Act.put, List.setIfInBounds_toArray, List.set_cons_zero, List.set_cons_succ]))
        (refine takeT (i := 19) (v := ?_) rfl ?_ (fun _ _ _ h => h) rfl hHeld ?_ ?_; rotate_left; (focus kernel_rfl); (focus (intro w hSw; (try dsimp only at hSw); go_simp; (try with_reducible rfl))); (try simp only [Act.put, List.setIfInBounds_toArray, List.set_cons_zero, List.set_cons_succ]))
        (refine takeT (i := 20) (v := ?_) rfl ?_ (fun _ _ _ h => h) rfl hHeld ?_ ?_; rotate_left; (focus kernel_rfl); (focus (intro w hSw; (try dsimp only at hSw); go_simp; (try with_reducible rfl))); (try simp only [Act.put, List.setIfInBounds_toArray, List.set_cons_zero, List.set_cons_succ]))
        (refine takeT (i := 21) (v := ?_) rfl ?_ (fun _ _ _ h => h) rfl hHeld ?_ ?_; rotate_left; (focus kernel_rfl); (focus (intro w hSw; (try dsimp only at hSw); go_simp; (try with_reducible rfl))); (try simp only [Act.put, List.setIfInBounds_toArray, List.set_cons_zero, List.set_cons_succ]))
        (refine takeT (i := 22) (v := ?_) rfl ?_ (fun _ _ _ h => h) rfl hHeld ?_ ?_; rotate_left; (focus kernel_rfl); (focus (intro w hSw; (try dsimp only at hSw); go_simp; (try with_reducible rfl))); (try simp only [Act.put, List.setIfInBounds_toArray, List.set_cons_zero, List.set_cons_succ]))
        (refine takeT (i := 23) (v := ?_) rfl ?_ (fun _ _ _ h => h) rfl hHeld ?_ ?_; rotate_left; (focus kernel_rfl); (focus (intro w hSw; (try dsimp only at hSw); go_simp; (try with_reducible rfl))); (try simp only [Act.put, List.setIfInBounds_toArray, List.set_cons_zero, List.set_cons_succ]))
        (refine takeT (i := 24) (v := ?_) rfl ?_ (fun _ _ _ h => h) rfl hHeld ?_ ?_; rotate_left; (focus kernel_rfl); (focus (intro w hSw; (try dsimp only at hSw); go_simp; (try with_reducible rfl))); (try simp only [Act.put, List.setIfInBounds_toArray, List.set_cons_zero, List.set_cons_succ]))
        (refine takeT (i := 25) (v := ?_) rfl ?_ (fun _ _ _ h => h) rfl hHeld ?_ ?_; rotate_left; (focus kernel_rfl); (focus (intro w hSw; (try dsimp only at hSw); go_simp; (try with_reducible rfl))); (try simp only [Act.put, List.setIfInBounds_toArray, List.set_cons_zero, List.set_cons_succ]))
        (refine takeT (i := 26) (v := ?_) rfl ?_ (fun _ _ _ h => h) rfl hHeld ?_ ?_; rotate_left; (focus kernel_rfl); (focus (intro w hSw; (try dsimp only at hSw); go_simp; (try with_reducible rfl))); (try simp only [Act.put, List.setIfInBounds_toArray, List.set_cons_zero, List.set_cons_succ]))
        (refine takeT (i := 27) (v := ?_) rfl ?_ (fun _ _ _ h => h) rfl hHeld ?_ ?_; rotate_left; (focus kernel_rfl); (focus (intro w hSw; (try dsimp only at hSw); go_simp; (try with_reducible rfl))); (try simp only [Act.put, List.setIfInBounds_toArray, List.set_cons_zero, List.set_cons_succ]))
        (refine takeT (i := 28) (v := ?_) rfl ?_ (fun _ _ _ h => h) rfl hHeld ?_ ?_; rotate_left; (focus kernel_rfl); (focus (intro w hSw; (try dsimp only at hSw); go_simp; (try with_reducible rfl))); (try simp only [Act.put, List.setIfInBounds_toArray, List.set_cons_zero, List.set_cons_succ]))
        (refine wpAnyH_done (by kernel_rfl) ?_ _)
        have hb1 := bl_step hHeld.2.2.2 hb hb.size
        clear hS hHeld c0 c1 e0 e1 htn
        go_wp2
        go_roundg (L.length - (m + 1 + 1))
        case measure => omega
        case rel => exact ⟨m + 1 + 1, by omega, by omega, by go_num, hb1⟩
    · go_wp2
      go_ret
      exact ⟨rfl, hb⟩
end Go.Proofs.Ytnmljgjcdofboaa
