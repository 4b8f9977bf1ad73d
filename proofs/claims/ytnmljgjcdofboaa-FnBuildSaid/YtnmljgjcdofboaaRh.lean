/- Contracts of the functions on single ranges, up to the thin package's. -/
import Derived.Test.YtnmljgjcdofboaaRg
namespace Go.Proofs.Ytnmljgjcdofboaa
open Go.RowKit
set_option linter.unusedVariables false
set_option linter.unusedSimpArgs false

/-! ### Size and Contains, through the package and the thin package -/
theorem mSize_any (b l : Int) (w : World) (hb : 0 ≤ b) (hb' : b < 4398046511104) (hl : 0 ≤ l) (hl' : l < 4398046511104) :
    Calls Try.prog 29 #[.agg #[.int .u64 b, .int .u64 l]] w fun e w' => e = .returned (.int .u64 (szI b l)) ∧ Nx w w' := by
  go_enter Try.func29, Try.ntmps29
  go_wp2_with (first | (go_at_call 37; refine (min_any _ _ _).mono ?_; rintro e w1 ⟨rfl, n1⟩; have hs1 := nxs n1; (try simp only [World.size_alloc, World.size_setCell, World.size_drew] at hs1); (try (refine nxk n1 (w.heap.size) ?_ ?_; (focus ((try simp only [World.size_alloc, World.size_setCell, World.size_drew]); omega)); intro hc1 hf1; have hz1 : w.heap.size < w1.heap.size := (by omega))); (try (refine nxk n1 (w.heap.size + 1) ?_ ?_; (focus ((try simp only [World.size_alloc, World.size_setCell, World.size_drew]); omega)); intro hc1 hf1; have hz1 : w.heap.size + 1 < w1.heap.size := (by omega))); (try (refine nxk n1 (w.heap.size + 2) ?_ ?_; (focus ((try simp only [World.size_alloc, World.size_setCell, World.size_drew]); omega)); intro hc1 hf1; have hz1 : w.heap.size + 2 < w1.heap.size := (by omega))); have hb1 := nx n1; clear n1) | (go_at_call 38; refine (rsize_any _ _ _ (by omega) (by omega) (by omega) (by omega)).mono ?_; rintro e w1 ⟨rfl, n1⟩; have hs1 := nxs n1; (try simp only [World.size_alloc, World.size_setCell, World.size_drew] at hs1); (try (refine nxk n1 (w.heap.size) ?_ ?_; (focus ((try simp only [World.size_alloc, World.size_setCell, World.size_drew]); omega)); intro hc1 hf1; have hz1 : w.heap.size < w1.heap.size := (by omega))); (try (refine nxk n1 (w.heap.size + 1) ?_ ?_; (focus ((try simp only [World.size_alloc, World.size_setCell, World.size_drew]); omega)); intro hc1 hf1; have hz1 : w.heap.size + 1 < w1.heap.size := (by omega))); (try (refine nxk n1 (w.heap.size + 2) ?_ ?_; (focus ((try simp only [World.size_alloc, World.size_setCell, World.size_drew]); omega)); intro hc1 hf1; have hz1 : w.heap.size + 2 < w1.heap.size := (by omega))); have hb1 := nx n1; clear n1))
  go_ret
  exact ⟨rfl, (by show Below _ _ _; repeat (first | (with_reducible exact Below.refl _ _) | (with_reducible assumption) | (with_reducible refine Below.drew ?_) | ((with_reducible refine Below.alloc ?_ ?_ _); rotate_left; (focus first | omega | (simp; done) | (simp; omega))) | ((with_reducible refine Below.setCell ?_ ?_ _); rotate_left; (focus first | omega | (simp; done) | (simp; omega))) | ((with_reducible refine bl_step (by assumption) ?_ ?_); rotate_left; (focus first | omega | (simp; done) | (simp; omega)))))⟩
theorem iSize_any (b l : Int) (w : World) (hb : 0 ≤ b) (hb' : b < 4398046511104) (hl : 0 ≤ l) (hl' : l < 4398046511104) :
    Calls Try.prog 12 #[.agg #[.int .u64 b, .int .u64 l]] w fun e w' => e = .returned (.int .u64 (szI b l)) ∧ Nx w w' := by
  go_enter Try.func12, Try.ntmps12
  go_wp2_with (first | (go_at_call 29; refine (mSize_any _ _ _ (by omega) (by omega) (by omega) (by omega)).mono ?_; rintro e w1 ⟨rfl, n1⟩; have hs1 := nxs n1; (try simp only [World.size_alloc, World.size_setCell, World.size_drew] at hs1); (try (refine nxk n1 (w.heap.size) ?_ ?_; (focus ((try simp only [World.size_alloc, World.size_setCell, World.size_drew]); omega)); intro hc1 hf1; have hz1 : w.heap.size < w1.heap.size := (by omega))); (try (refine nxk n1 (w.heap.size + 1) ?_ ?_; (focus ((try simp only [World.size_alloc, World.size_setCell, World.size_drew]); omega)); intro hc1 hf1; have hz1 : w.heap.size + 1 < w1.heap.size := (by omega))); (try (refine nxk n1 (w.heap.size + 2) ?_ ?_; (focus ((try simp only [World.size_alloc, World.size_setCell, World.size_drew]); omega)); intro hc1 hf1; have hz1 : w.heap.size + 2 < w1.heap.size := (by omega))); have hb1 := nx n1; clear n1))
  go_ret
  exact ⟨rfl, (by show Below _ _ _; repeat (first | (with_reducible exact Below.refl _ _) | (with_reducible assumption) | (with_reducible refine Below.drew ?_) | ((with_reducible refine Below.alloc ?_ ?_ _); rotate_left; (focus first | omega | (simp; done) | (simp; omega))) | ((with_reducible refine Below.setCell ?_ ?_ _); rotate_left; (focus first | omega | (simp; done) | (simp; omega))) | ((with_reducible refine bl_step (by assumption) ?_ ?_); rotate_left; (focus first | omega | (simp; done) | (simp; omega)))))⟩
theorem sSize_at (b l : Int) (w : World) (hb : 0 ≤ b) (hb' : b < 4398046511104) (hl : 0 ≤ l) (hl' : l < 4398046511104) :
    Calls Try.prog 19 #[.agg #[.int .u64 b, .int .u64 l]] w fun e w' => e = .returned (.int .u64 (szI b l)) ∧ w.alloc (.cells #[.int .u64 b, .int .u64 l] 24) = w' := by
  by_cases h : b < l
  · have hz := Lib.hid (show szI b l = l - b from if_pos h)
    go_enter Try.func19, Try.ntmps19
    go_wp2
    go_ret
    exact ⟨ret_u64 hz.out.symm, rfl⟩
  · have hz := Lib.hid (show szI b l = 0 from if_neg h)
    go_enter Try.func19, Try.ntmps19
    go_wp2
    go_ret
    exact ⟨ret_u64 hz.out.symm, rfl⟩
theorem sSize_any (b l : Int) (w : World) (hb : 0 ≤ b) (hb' : b < 4398046511104) (hl : 0 ≤ l) (hl' : l < 4398046511104) :
    Calls Try.prog 19 #[.agg #[.int .u64 b, .int .u64 l]] w fun e w' => e = .returned (.int .u64 (szI b l)) ∧ Nx w w' :=
  (sSize_at b l w hb hb' hl hl').mono fun _ _ ⟨h, e⟩ => ⟨h, by subst e; exact (Below.refl _ _).alloc (Nat.le_refl _) _⟩
theorem sHas_any (b l x : Int) (w : World) :
    Calls Try.prog 28 #[.agg #[.int .u64 b, .int .u64 l], .int .u64 x] w fun e w' => e = .returned (.bool (hasB b l x)) ∧ Nx w w' := by
  by_cases h : b ≤ x
  · have hz := Lib.hid (show hasB b l x = decide (x < l) by simp [hasB, h])
    go_enter Try.func28, Try.ntmps28
    go_wp2
    go_ret
    exact ⟨ret_bool hz.out.symm, (by show Below _ _ _; repeat (first | (with_reducible exact Below.refl _ _) | (with_reducible assumption) | (with_reducible refine Below.drew ?_) | ((with_reducible refine Below.alloc ?_ ?_ _); rotate_left; (focus first | omega | (simp; done) | (simp; omega))) | ((with_reducible refine Below.setCell ?_ ?_ _); rotate_left; (focus first | omega | (simp; done) | (simp; omega))) | ((with_reducible refine bl_step (by assumption) ?_ ?_); rotate_left; (focus first | omega | (simp; done) | (simp; omega)))))⟩
  · have hd : decide (b ≤ x) = false := by simpa using h
    have hz := Lib.hid (show hasB b l x = false by simp [hasB, h])
    go_enter Try.func28, Try.ntmps28
    go_wp2
    go_ret
    exact ⟨ret_bool hz.out.symm, (by show Below _ _ _; repeat (first | (with_reducible exact Below.refl _ _) | (with_reducible assumption) | (with_reducible refine Below.drew ?_) | ((with_reducible refine Below.alloc ?_ ?_ _); rotate_left; (focus first | omega | (simp; done) | (simp; omega))) | ((with_reducible refine Below.setCell ?_ ?_ _); rotate_left; (focus first | omega | (simp; done) | (simp; omega))) | ((with_reducible refine bl_step (by assumption) ?_ ?_); rotate_left; (focus first | omega | (simp; done) | (simp; omega)))))⟩
/-- No address is in both. -/
def apB (ab al bb bl : Int) : Bool := decide (al ≤ bb) || decide (bl ≤ ab)
theorem sApart_any (ab al bb bl : Int) (w : World) :
    Calls Try.prog 23 #[.agg #[.int .u64 ab, .int .u64 al], .agg #[.int .u64 bb, .int .u64 bl]] w fun e w' => e = .returned (.bool (apB ab al bb bl)) ∧ Nx w w' := by
  by_cases h : al ≤ bb
  · have hd : decide (al ≤ bb) = true := by simpa using h
    have hz := Lib.hid (show apB ab al bb bl = true by simp [apB, h])
    go_enter Try.func23, Try.ntmps23
    go_wp2
    go_ret
    exact ⟨ret_bool hz.out.symm, (by show Below _ _ _; repeat (first | (with_reducible exact Below.refl _ _) | (with_reducible assumption) | (with_reducible refine Below.drew ?_) | ((with_reducible refine Below.alloc ?_ ?_ _); rotate_left; (focus first | omega | (simp; done) | (simp; omega))) | ((with_reducible refine Below.setCell ?_ ?_ _); rotate_left; (focus first | omega | (simp; done) | (simp; omega))) | ((with_reducible refine bl_step (by assumption) ?_ ?_); rotate_left; (focus first | omega | (simp; done) | (simp; omega)))))⟩
  · have hd : decide (al ≤ bb) = false := by simpa using h
    have hz := Lib.hid (show apB ab al bb bl = decide (bl ≤ ab) by simp [apB, h])
    go_enter Try.func23, Try.ntmps23
    go_wp2
    go_ret
    exact ⟨ret_bool hz.out.symm, (by show Below _ _ _; repeat (first | (with_reducible exact Below.refl _ _) | (with_reducible assumption) | (with_reducible refine Below.drew ?_) | ((with_reducible refine Below.alloc ?_ ?_ _); rotate_left; (focus first | omega | (simp; done) | (simp; omega))) | ((with_reducible refine Below.setCell ?_ ?_ _); rotate_left; (focus first | omega | (simp; done) | (simp; omega))) | ((with_reducible refine bl_step (by assumption) ?_ ?_); rotate_left; (focus first | omega | (simp; done) | (simp; omega)))))⟩
/-! ### makeAddrRange; the range without all from an address on -/
theorem off_ge (a : Int) (h : 0 ≤ a) (h' : a < 4398046511104) : decide (a ≤ IntKind.u64.wrap (a - 18446603336221196288)) = true := by
  rw [off_eq a h h']; simp; omega
theorem mmakeAddrRange_any (b l : Int) (w : World) (hb : 0 ≤ b) (hb' : b < 4398046511104) (hl : 0 ≤ l) (hl' : l < 4398046511104) :
    Calls Try.prog 56 #[.int .u64 b, .int .u64 l] w fun e w' => e = .returned (.agg #[.int .u64 b, .int .u64 l]) ∧ Nx w w' := by
  have h1 := off_ge b hb hb'
  have h2 := off_ge l hl hl'
  go_enter Try.func56, Try.ntmps56
  go_wp2
  exact bodyPost_ret (v := .agg #[.int .u64 b, .int .u64 l]) (by simp [results, Try.results56, go_sem]) rfl ⟨rfl, (by show Below _ _ _; repeat (first | (with_reducible exact Below.refl _ _) | (with_reducible assumption) | (with_reducible refine Below.drew ?_) | ((with_reducible refine Below.alloc ?_ ?_ _); rotate_left; (focus first | omega | (simp; done) | (simp; omega))) | ((with_reducible refine Below.setCell ?_ ?_ _); rotate_left; (focus first | omega | (simp; done) | (simp; omega))) | ((with_reducible refine bl_step (by assumption) ?_ ?_); rotate_left; (focus first | omega | (simp; done) | (simp; omega)))))⟩
/-- The range without all addresses from x on. -/
def rmB (b _l x : Int) : Int := if x ≤ b then 0 else b
def rmL (b l x : Int) : Int := if x ≤ b then 0 else if l ≤ x then l else x
theorem rremoveGreaterEqual_any (b l x : Int) (w : World) (hb : 0 ≤ b) (hb' : b < 4398046511104) (hl : 0 ≤ l) (hl' : l < 4398046511104) (hx : 0 ≤ x) (hx' : x < 4398046511104) :
    Calls Try.prog 55 #[.agg #[.int .u64 b, .int .u64 l], .int .u64 x] w fun e w' => e = .returned (.agg #[.int .u64 (rmB b l x), .int .u64 (rmL b l x)]) ∧ Nx w w' := by
  by_cases h : x ≤ b
  · have hd : decide (x ≤ b) = true := by simpa using h
    have h1 := Lib.hid (show rmB b l x = 0 from if_pos h)
    have h2 := Lib.hid (show rmL b l x = 0 from if_pos h)
    go_enter Try.func55, Try.ntmps55
    go_wp2_with (first | (go_at_call 50; refine (olessEqual_any _ _ _ (by omega) (by omega) (by omega) (by omega)).mono ?_; rintro e w1 ⟨rfl, n1⟩; have hs1 := nxs n1; (try simp only [World.size_alloc, World.size_setCell, World.size_drew] at hs1); (try (refine nxk n1 (w.heap.size) ?_ ?_; (focus ((try simp only [World.size_alloc, World.size_setCell, World.size_drew]); omega)); intro hc1 hf1; have hz1 : w.heap.size < w1.heap.size := (by omega))); (try (refine nxk n1 (w.heap.size + 1) ?_ ?_; (focus ((try simp only [World.size_alloc, World.size_setCell, World.size_drew]); omega)); intro hc1 hf1; have hz1 : w.heap.size + 1 < w1.heap.size := (by omega))); (try (refine nxk n1 (w.heap.size + 2) ?_ ?_; (focus ((try simp only [World.size_alloc, World.size_setCell, World.size_drew]); omega)); intro hc1 hf1; have hz1 : w.heap.size + 2 < w1.heap.size := (by omega))); have hb1 := nx n1; clear n1))
    rw [h1.out, h2.out]
    exact bodyPost_ret (v := .agg #[.int .u64 0, .int .u64 0]) (by simp [results, Try.results55, go_sem, *]) rfl ⟨rfl, (by show Below _ _ _; repeat (first | (with_reducible exact Below.refl _ _) | (with_reducible assumption) | (with_reducible refine Below.drew ?_) | ((with_reducible refine Below.alloc ?_ ?_ _); rotate_left; (focus first | omega | (simp; done) | (simp; omega))) | ((with_reducible refine Below.setCell ?_ ?_ _); rotate_left; (focus first | omega | (simp; done) | (simp; omega))) | ((with_reducible refine bl_step (by assumption) ?_ ?_); rotate_left; (focus first | omega | (simp; done) | (simp; omega)))))⟩
  · have hd : decide (x ≤ b) = false := by simpa using h
    have h1 := Lib.hid (show rmB b l x = b from if_neg h)
    by_cases h' : l ≤ x
    · have hd' : decide (l ≤ x) = true := by simpa using h'
      have h2 := Lib.hid (show rmL b l x = l by unfold rmL; rw [if_neg h, if_pos h'])
      go_enter Try.func55, Try.ntmps55
      go_wp2_with (first | (go_at_call 50; refine (olessEqual_any _ _ _ (by omega) (by omega) (by omega) (by omega)).mono ?_; rintro e w1 ⟨rfl, n1⟩; have hs1 := nxs n1; (try simp only [World.size_alloc, World.size_setCell, World.size_drew] at hs1); (try (refine nxk n1 (w.heap.size) ?_ ?_; (focus ((try simp only [World.size_alloc, World.size_setCell, World.size_drew]); omega)); intro hc1 hf1; have hz1 : w.heap.size < w1.heap.size := (by omega))); (try (refine nxk n1 (w.heap.size + 1) ?_ ?_; (focus ((try simp only [World.size_alloc, World.size_setCell, World.size_drew]); omega)); intro hc1 hf1; have hz1 : w.heap.size + 1 < w1.heap.size := (by omega))); (try (refine nxk n1 (w.heap.size + 2) ?_ ?_; (focus ((try simp only [World.size_alloc, World.size_setCell, World.size_drew]); omega)); intro hc1 hf1; have hz1 : w.heap.size + 2 < w1.heap.size := (by omega))); have hb1 := nx n1; clear n1))
      rw [h1.out, h2.out]
      exact bodyPost_ret (v := .agg #[.int .u64 b, .int .u64 l]) (by simp [results, Try.results55, go_sem, *]) rfl ⟨rfl, (by show Below _ _ _; repeat (first | (with_reducible exact Below.refl _ _) | (with_reducible assumption) | (with_reducible refine Below.drew ?_) | ((with_reducible refine Below.alloc ?_ ?_ _); rotate_left; (focus first | omega | (simp; done) | (simp; omega))) | ((with_reducible refine Below.setCell ?_ ?_ _); rotate_left; (focus first | omega | (simp; done) | (simp; omega))) | ((with_reducible refine bl_step (by assumption) ?_ ?_); rotate_left; (focus first | omega | (simp; done) | (simp; omega)))))⟩
    · have hd' : decide (l ≤ x) = false := by simpa using h'
      have h2 := Lib.hid (show rmL b l x = x by unfold rmL; rw [if_neg h, if_neg h'])
      go_enter Try.func55, Try.ntmps55
      go_wp2_with (first | (go_at_call 50; refine (olessEqual_any _ _ _ (by omega) (by omega) (by omega) (by omega)).mono ?_; rintro e w1 ⟨rfl, n1⟩; have hs1 := nxs n1; (try simp only [World.size_alloc, World.size_setCell, World.size_drew] at hs1); (try (refine nxk n1 (w.heap.size) ?_ ?_; (focus ((try simp only [World.size_alloc, World.size_setCell, World.size_drew]); omega)); intro hc1 hf1; have hz1 : w.heap.size < w1.heap.size := (by omega))); (try (refine nxk n1 (w.heap.size + 1) ?_ ?_; (focus ((try simp only [World.size_alloc, World.size_setCell, World.size_drew]); omega)); intro hc1 hf1; have hz1 : w.heap.size + 1 < w1.heap.size := (by omega))); (try (refine nxk n1 (w.heap.size + 2) ?_ ?_; (focus ((try simp only [World.size_alloc, World.size_setCell, World.size_drew]); omega)); intro hc1 hf1; have hz1 : w.heap.size + 2 < w1.heap.size := (by omega))); have hb1 := nx n1; clear n1) | (go_at_call 49; refine (oaddr_any _ _).mono ?_; rintro e w1 ⟨rfl, n1⟩; have hs1 := nxs n1; (try simp only [World.size_alloc, World.size_setCell, World.size_drew] at hs1); (try (refine nxk n1 (w.heap.size) ?_ ?_; (focus ((try simp only [World.size_alloc, World.size_setCell, World.size_drew]); omega)); intro hc1 hf1; have hz1 : w.heap.size < w1.heap.size := (by omega))); (try (refine nxk n1 (w.heap.size + 1) ?_ ?_; (focus ((try simp only [World.size_alloc, World.size_setCell, World.size_drew]); omega)); intro hc1 hf1; have hz1 : w.heap.size + 1 < w1.heap.size := (by omega))); (try (refine nxk n1 (w.heap.size + 2) ?_ ?_; (focus ((try simp only [World.size_alloc, World.size_setCell, World.size_drew]); omega)); intro hc1 hf1; have hz1 : w.heap.size + 2 < w1.heap.size := (by omega))); have hb1 := nx n1; clear n1) | (go_at_call 56; refine (mmakeAddrRange_any _ _ _ (by omega) (by omega) (by omega) (by omega)).mono ?_; rintro e w1 ⟨rfl, n1⟩; have hs1 := nxs n1; (try simp only [World.size_alloc, World.size_setCell, World.size_drew] at hs1); (try (refine nxk n1 (w.heap.size) ?_ ?_; (focus ((try simp only [World.size_alloc, World.size_setCell, World.size_drew]); omega)); intro hc1 hf1; have hz1 : w.heap.size < w1.heap.size := (by omega))); (try (refine nxk n1 (w.heap.size + 1) ?_ ?_; (focus ((try simp only [World.size_alloc, World.size_setCell, World.size_drew]); omega)); intro hc1 hf1; have hz1 : w.heap.size + 1 < w1.heap.size := (by omega))); (try (refine nxk n1 (w.heap.size + 2) ?_ ?_; (focus ((try simp only [World.size_alloc, World.size_setCell, World.size_drew]); omega)); intro hc1 hf1; have hz1 : w.heap.size + 2 < w1.heap.size := (by omega))); have hb1 := nx n1; clear n1))
      rw [h1.out, h2.out]
      exact bodyPost_ret (v := .agg #[.int .u64 b, .int .u64 x]) (by simp [results, Try.results55, go_sem, *]) rfl ⟨rfl, (by show Below _ _ _; repeat (first | (with_reducible exact Below.refl _ _) | (with_reducible assumption) | (with_reducible refine Below.drew ?_) | ((with_reducible refine Below.alloc ?_ ?_ _); rotate_left; (focus first | omega | (simp; done) | (simp; omega))) | ((with_reducible refine Below.setCell ?_ ?_ _); rotate_left; (focus first | omega | (simp; done) | (simp; omega))) | ((with_reducible refine bl_step (by assumption) ?_ ?_); rotate_left; (focus first | omega | (simp; done) | (simp; omega)))))⟩
end Go.Proofs.Ytnmljgjcdofboaa
