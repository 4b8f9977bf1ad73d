/- Contracts of the functions on one offset address and on one range. -/
import Derived.Test.YtnmljgjcdofboaaProg
import Derived.WalkKit
import Derived.Below
import Derived.Lib.Hide
import Derived.Outline
import Derived.RegionCalls
import Derived.Deep.RegionWith
import Derived.Deep.RegionHeld3
namespace Go.Proofs.Ytnmljgjcdofboaa
open Go.RowKit
set_option linter.unusedVariables false
set_option linter.unusedSimpArgs false

/-- An address of which something is said. -/
abbrev Ad (a : Int) : Prop := 0 ≤ a ∧ a < 4398046511104
theorem off_eq (a : Int) (h : 0 ≤ a) (h' : a < 4398046511104) : IntKind.u64.wrap (a - 18446603336221196288) = a + 140737488355328 := by
  simp [IntKind.wrap, IntKind.bits, IntKind.signed]; omega
theorem off_lt (a b : Int) (ha : 0 ≤ a) (ha' : a < 4398046511104) (hb : 0 ≤ b) (hb' : b < 4398046511104) :
    decide (IntKind.u64.wrap (a - 18446603336221196288) < IntKind.u64.wrap (b - 18446603336221196288)) = decide (a < b) := by
  rw [off_eq a ha ha', off_eq b hb hb']; congr 1; simp
theorem off_le (a b : Int) (ha : 0 ≤ a) (ha' : a < 4398046511104) (hb : 0 ≤ b) (hb' : b < 4398046511104) :
    decide (IntKind.u64.wrap (a - 18446603336221196288) ≤ IntKind.u64.wrap (b - 18446603336221196288)) = decide (a ≤ b) := by
  rw [off_eq a ha ha', off_eq b hb hb']; congr 1; simp
theorem ret_bool {a b : Bool} (h : a = b) : Ending.returned (.bool a) = .returned (.bool b) := by rw [h]
theorem ret_u64 {a b : Int} (h : a = b) : Ending.returned (.int .u64 a) = .returned (.int .u64 b) := by rw [h]

theorem u64_lo {a : Int} (h : (Lit.int .u64 a).wf = true) : 0 ≤ a := by simp [Lit.wf, IntKind.min, IntKind.max, IntKind.signed, IntKind.bits] at h; exact h.1
theorem u8_lo {a : Int} (h : (Lit.int .u8 a).wf = true) : 0 ≤ a ∧ a ≤ 255 := by simp [Lit.wf, IntKind.min, IntKind.max, IntKind.signed, IntKind.bits] at h; omega

/-- The world behind a call is as it was, but for new blocks. -/
def Nx (w w' : World) : Prop := Below w.heap.size w w'
theorem nx {W w1 : World} (hb : Nx W w1) : Below W.heap.size W w1 := hb
theorem nxs {W w1 : World} (hb : Nx W w1) : W.heap.size ≤ w1.heap.size := hb.size
theorem nxc {W w1 : World} (hb : Nx W w1) (b : Nat) (h : b < W.heap.size) : (∀ o, w1.cell? ⟨b, o, none⟩ = W.cell? ⟨b, o, none⟩) ∧ (∀ o, w1.frozen? ⟨b, o, none⟩ = W.frozen? ⟨b, o, none⟩) :=
  ⟨fun o => Below.cell hb (p := ⟨b, o, none⟩) h, fun o => Below.frozen hb (p := ⟨b, o, none⟩) h⟩
theorem nxk {W w1 : World} {P : Prop} (hb : Nx W w1) (b : Nat) (h : b < W.heap.size) (k : (∀ o, w1.cell? ⟨b, o, none⟩ = W.cell? ⟨b, o, none⟩) → (∀ o, w1.frozen? ⟨b, o, none⟩ = W.frozen? ⟨b, o, none⟩) → P) : P := k (nxc hb b h).1 (nxc hb b h).2
theorem bl_step {B B' : Nat} {a b c : World} (k : Below B' b c) (h : Below B a b) (hB : B ≤ B') : Below B a c := h.trans (k.mono hB)

/-- What a statement that leaves its order open holds on to: the cells that it reads, and that nothing older has turned. -/
structure Hd (w : World) (cs : List (Nat × Nat × Value)) (w' : World) : Prop where
  below : Below w.heap.size w w'
  cell : ∀ c ∈ cs, w'.cell? ⟨c.1, c.2.1, none⟩ = some c.2.2
theorem Hd.nx {w W w1 : World} {cs : List (Nat × Nat × Value)} (h : Hd w cs W) (n : Nx W w1) : Hd w cs w1 :=
  ⟨bl_step n h.1 h.1.size, fun c hc => (Below.cell n (p := ⟨c.1, c.2.1, none⟩) (World.block_lt_of_cell? W _ (h.2 c hc))).trans (h.2 c hc)⟩
theorem hd_new {w w1 : World} (h : Below w.heap.size w w1) (b l : Value) (T : TypeId) : Hd w [(w1.heap.size, 0, b), (w1.heap.size, 1, l)] (w1.alloc (.cells #[b, l] T)) :=
  ⟨h.alloc h.size _, fun c hc => by
    simp only [List.mem_cons, List.not_mem_nil, or_false] at hc
    rcases hc with rfl | rfl <;> simp⟩
theorem hd_more {w W : World} {cs : List (Nat × Nat × Value)} (h : Hd w cs W) (b l : Value) (T : TypeId) : Hd w ((W.heap.size, 0, b) :: (W.heap.size, 1, l) :: cs) (W.alloc (.cells #[b, l] T)) :=
  ⟨h.below.alloc h.below.size _, fun c hc => by
    simp only [List.mem_cons] at hc
    rcases hc with rfl | rfl | hc
    · simp
    · simp
    · have := h.cell c hc
      rw [World.cell?_alloc_lt W _ _ (World.block_lt_of_cell? W _ this)]
      exact this⟩
theorem Hd.drew {w W : World} {cs : List (Nat × Nat × Value)} (h : Hd w cs W) : Hd w cs W.drew := ⟨h.1.drew, h.2⟩
theorem Hd.at {w W : World} {cs : List (Nat × Nat × Value)} (h : Hd w cs W) (b o : Nat) (v : Value) (hm : (b, o, v) ∈ cs) : W.cell? ⟨b, o, none⟩ = some v := h.2 _ hm

theorem olessThan_any (a b : Int) (w : World) (ha : 0 ≤ a) (ha' : a < 4398046511104) (hb : 0 ≤ b) (hb' : b < 4398046511104) :
    Calls Try.prog 47 #[.agg #[.int .u64 a], .agg #[.int .u64 b]] w fun e w' => e = .returned (.bool (decide (a < b))) ∧ Nx w w' := by
  go_enter Try.func47, Try.ntmps47
  go_wp2
  go_ret
  exact ⟨ret_bool (off_lt a b ha ha' hb hb'), (by show Below _ _ _; repeat (first | (with_reducible exact Below.refl _ _) | (with_reducible assumption) | (with_reducible refine Below.drew ?_) | ((with_reducible refine Below.alloc ?_ ?_ _); rotate_left; (focus first | omega | (simp; done) | (simp; omega))) | ((with_reducible refine Below.setCell ?_ ?_ _); rotate_left; (focus first | omega | (simp; done) | (simp; omega))) | ((with_reducible refine bl_step (by assumption) ?_ ?_); rotate_left; (focus first | omega | (simp; done) | (simp; omega)))))⟩
theorem olessEqual_any (a b : Int) (w : World) (ha : 0 ≤ a) (ha' : a < 4398046511104) (hb : 0 ≤ b) (hb' : b < 4398046511104) :
    Calls Try.prog 50 #[.agg #[.int .u64 a], .agg #[.int .u64 b]] w fun e w' => e = .returned (.bool (decide (a ≤ b))) ∧ Nx w w' := by
  go_enter Try.func50, Try.ntmps50
  go_wp2
  go_ret
  exact ⟨ret_bool (off_le a b ha ha' hb hb'), (by show Below _ _ _; repeat (first | (with_reducible exact Below.refl _ _) | (with_reducible assumption) | (with_reducible refine Below.drew ?_) | ((with_reducible refine Below.alloc ?_ ?_ _); rotate_left; (focus first | omega | (simp; done) | (simp; omega))) | ((with_reducible refine Below.setCell ?_ ?_ _); rotate_left; (focus first | omega | (simp; done) | (simp; omega))) | ((with_reducible refine bl_step (by assumption) ?_ ?_); rotate_left; (focus first | omega | (simp; done) | (simp; omega)))))⟩
theorem oaddr_at (a : Int) (w : World) :
    Calls Try.prog 49 #[.agg #[.int .u64 a]] w fun e w' => e = .returned (.int .u64 a) ∧ w.alloc (.cells #[.int .u64 a] 65) = w' := by
  go_enter Try.func49, Try.ntmps49
  go_wp2
  go_ret
  exact ⟨rfl, rfl⟩
theorem oaddr_any (a : Int) (w : World) :
    Calls Try.prog 49 #[.agg #[.int .u64 a]] w fun e w' => e = .returned (.int .u64 a) ∧ Nx w w' :=
  (oaddr_at a w).mono fun _ _ ⟨h, e⟩ => ⟨h, by subst e; exact (Below.refl _ _).alloc (Nat.le_refl _) _⟩
theorem odiff_any (a b : Int) (w : World) (hb : 0 ≤ b) (hab : b ≤ a) (ha' : a < 4398046511104) :
    Calls Try.prog 48 #[.agg #[.int .u64 a], .agg #[.int .u64 b]] w fun e w' => e = .returned (.int .u64 (a - b)) ∧ Nx w w' := by
  go_enter Try.func48, Try.ntmps48
  go_wp2
  go_ret
  exact ⟨rfl, (by show Below _ _ _; repeat (first | (with_reducible exact Below.refl _ _) | (with_reducible assumption) | (with_reducible refine Below.drew ?_) | ((with_reducible refine Below.alloc ?_ ?_ _); rotate_left; (focus first | omega | (simp; done) | (simp; omega))) | ((with_reducible refine Below.setCell ?_ ?_ _); rotate_left; (focus first | omega | (simp; done) | (simp; omega))) | ((with_reducible refine bl_step (by assumption) ?_ ?_); rotate_left; (focus first | omega | (simp; done) | (simp; omega)))))⟩

/-- How many addresses a range has; whether it has one. -/
def szI (b l : Int) : Int := if b < l then l - b else 0
def hasB (b l x : Int) : Bool := decide (b ≤ x) && decide (x < l)
theorem rsize_any (a b : Int) (w : World) (ha : 0 ≤ a) (ha' : a < 4398046511104) (hb : 0 ≤ b) (hb' : b < 4398046511104) :
    Calls Try.prog 38 #[.agg #[.int .u64 a, .int .u64 b]] w fun e w' => e = .returned (.int .u64 (szI a b)) ∧ Nx w w' := by
  by_cases h : a < b
  · have hd : decide (a < b) = true := by simpa using h
    have hz := Lib.hid (show szI a b = b - a from if_pos h)
    go_enter Try.func38, Try.ntmps38
    go_wp2_with (first | (go_at_call 47; refine (olessThan_any _ _ _ (by omega) (by omega) (by omega) (by omega)).mono ?_; rintro e w1 ⟨rfl, n1⟩; have hs1 := nxs n1; (try simp only [World.size_alloc, World.size_setCell, World.size_drew] at hs1); (try (refine nxk n1 (w.heap.size) ?_ ?_; (focus ((try simp only [World.size_alloc, World.size_setCell, World.size_drew]); omega)); intro hc1 hf1; have hz1 : w.heap.size < w1.heap.size := (by omega))); (try (refine nxk n1 (w.heap.size + 1) ?_ ?_; (focus ((try simp only [World.size_alloc, World.size_setCell, World.size_drew]); omega)); intro hc1 hf1; have hz1 : w.heap.size + 1 < w1.heap.size := (by omega))); (try (refine nxk n1 (w.heap.size + 2) ?_ ?_; (focus ((try simp only [World.size_alloc, World.size_setCell, World.size_drew]); omega)); intro hc1 hf1; have hz1 : w.heap.size + 2 < w1.heap.size := (by omega))); have hb1 := nx n1; clear n1) | (go_at_call 48; refine (odiff_any _ _ _ (by omega) (by omega) (by omega)).mono ?_; rintro e w1 ⟨rfl, n1⟩; have hs1 := nxs n1; (try simp only [World.size_alloc, World.size_setCell, World.size_drew] at hs1); (try (refine nxk n1 (w.heap.size) ?_ ?_; (focus ((try simp only [World.size_alloc, World.size_setCell, World.size_drew]); omega)); intro hc1 hf1; have hz1 : w.heap.size < w1.heap.size := (by omega))); (try (refine nxk n1 (w.heap.size + 1) ?_ ?_; (focus ((try simp only [World.size_alloc, World.size_setCell, World.size_drew]); omega)); intro hc1 hf1; have hz1 : w.heap.size + 1 < w1.heap.size := (by omega))); (try (refine nxk n1 (w.heap.size + 2) ?_ ?_; (focus ((try simp only [World.size_alloc, World.size_setCell, World.size_drew]); omega)); intro hc1 hf1; have hz1 : w.heap.size + 2 < w1.heap.size := (by omega))); have hb1 := nx n1; clear n1))
    go_ret
    exact ⟨ret_u64 hz.out.symm, (by show Below _ _ _; repeat (first | (with_reducible exact Below.refl _ _) | (with_reducible assumption) | (with_reducible refine Below.drew ?_) | ((with_reducible refine Below.alloc ?_ ?_ _); rotate_left; (focus first | omega | (simp; done) | (simp; omega))) | ((with_reducible refine Below.setCell ?_ ?_ _); rotate_left; (focus first | omega | (simp; done) | (simp; omega))) | ((with_reducible refine bl_step (by assumption) ?_ ?_); rotate_left; (focus first | omega | (simp; done) | (simp; omega)))))⟩
  · have hd : decide (a < b) = false := by simpa using h
    have hz := Lib.hid (show szI a b = 0 from if_neg h)
    go_enter Try.func38, Try.ntmps38
    go_wp2_with (first | (go_at_call 47; refine (olessThan_any _ _ _ (by omega) (by omega) (by omega) (by omega)).mono ?_; rintro e w1 ⟨rfl, n1⟩; have hs1 := nxs n1; (try simp only [World.size_alloc, World.size_setCell, World.size_drew] at hs1); (try (refine nxk n1 (w.heap.size) ?_ ?_; (focus ((try simp only [World.size_alloc, World.size_setCell, World.size_drew]); omega)); intro hc1 hf1; have hz1 : w.heap.size < w1.heap.size := (by omega))); (try (refine nxk n1 (w.heap.size + 1) ?_ ?_; (focus ((try simp only [World.size_alloc, World.size_setCell, World.size_drew]); omega)); intro hc1 hf1; have hz1 : w.heap.size + 1 < w1.heap.size := (by omega))); (try (refine nxk n1 (w.heap.size + 2) ?_ ?_; (focus ((try simp only [World.size_alloc, World.size_setCell, World.size_drew]); omega)); intro hc1 hf1; have hz1 : w.heap.size + 2 < w1.heap.size := (by omega))); have hb1 := nx n1; clear n1))
    go_ret
    exact ⟨ret_u64 hz.out.symm, (by show Below _ _ _; repeat (first | (with_reducible exact Below.refl _ _) | (with_reducible assumption) | (with_reducible refine Below.drew ?_) | ((with_reducible refine Below.alloc ?_ ?_ _); rotate_left; (focus first | omega | (simp; done) | (simp; omega))) | ((with_reducible refine Below.setCell ?_ ?_ _); rotate_left; (focus first | omega | (simp; done) | (simp; omega))) | ((with_reducible refine bl_step (by assumption) ?_ ?_); rotate_left; (focus first | omega | (simp; done) | (simp; omega)))))⟩
theorem rcontains_any (b l x : Int) (w : World) (hb : 0 ≤ b) (hb' : b < 4398046511104) (hl : 0 ≤ l) (hl' : l < 4398046511104) (hx : 0 ≤ x) (hx' : x < 4398046511104) :
    Calls Try.prog 54 #[.agg #[.int .u64 b, .int .u64 l], .int .u64 x] w fun e w' => e = .returned (.bool (hasB b l x)) ∧ Nx w w' := by
  by_cases h : b ≤ x
  · have hd : decide (b ≤ x) = true := by simpa using h
    have hz := Lib.hid (show hasB b l x = decide (x < l) by simp [hasB, h])
    go_enter Try.func54, Try.ntmps54
    go_wp2_with (first | (go_at_call 50; refine (olessEqual_any _ _ _ (by omega) (by omega) (by omega) (by omega)).mono ?_; rintro e w1 ⟨rfl, n1⟩; have hs1 := nxs n1; (try simp only [World.size_alloc, World.size_setCell, World.size_drew] at hs1); (try (refine nxk n1 (w.heap.size) ?_ ?_; (focus ((try simp only [World.size_alloc, World.size_setCell, World.size_drew]); omega)); intro hc1 hf1; have hz1 : w.heap.size < w1.heap.size := (by omega))); (try (refine nxk n1 (w.heap.size + 1) ?_ ?_; (focus ((try simp only [World.size_alloc, World.size_setCell, World.size_drew]); omega)); intro hc1 hf1; have hz1 : w.heap.size + 1 < w1.heap.size := (by omega))); (try (refine nxk n1 (w.heap.size + 2) ?_ ?_; (focus ((try simp only [World.size_alloc, World.size_setCell, World.size_drew]); omega)); intro hc1 hf1; have hz1 : w.heap.size + 2 < w1.heap.size := (by omega))); have hb1 := nx n1; clear n1) | (go_at_call 47; refine (olessThan_any _ _ _ (by omega) (by omega) (by omega) (by omega)).mono ?_; rintro e w1 ⟨rfl, n1⟩; have hs1 := nxs n1; (try simp only [World.size_alloc, World.size_setCell, World.size_drew] at hs1); (try (refine nxk n1 (w.heap.size) ?_ ?_; (focus ((try simp only [World.size_alloc, World.size_setCell, World.size_drew]); omega)); intro hc1 hf1; have hz1 : w.heap.size < w1.heap.size := (by omega))); (try (refine nxk n1 (w.heap.size + 1) ?_ ?_; (focus ((try simp only [World.size_alloc, World.size_setCell, World.size_drew]); omega)); intro hc1 hf1; have hz1 : w.heap.size + 1 < w1.heap.size := (by omega))); (try (refine nxk n1 (w.heap.size + 2) ?_ ?_; (focus ((try simp only [World.size_alloc, World.size_setCell, World.size_drew]); omega)); intro hc1 hf1; have hz1 : w.heap.size + 2 < w1.heap.size := (by omega))); have hb1 := nx n1; clear n1))
    go_ret
    exact ⟨ret_bool hz.out.symm, (by show Below _ _ _; repeat (first | (with_reducible exact Below.refl _ _) | (with_reducible assumption) | (with_reducible refine Below.drew ?_) | ((with_reducible refine Below.alloc ?_ ?_ _); rotate_left; (focus first | omega | (simp; done) | (simp; omega))) | ((with_reducible refine Below.setCell ?_ ?_ _); rotate_left; (focus first | omega | (simp; done) | (simp; omega))) | ((with_reducible refine bl_step (by assumption) ?_ ?_); rotate_left; (focus first | omega | (simp; done) | (simp; omega)))))⟩
  · have hd : decide (b ≤ x) = false := by simpa using h
    have hz := Lib.hid (show hasB b l x = false by simp [hasB, h])
    go_enter Try.func54, Try.ntmps54
    go_wp2_with (first | (go_at_call 50; refine (olessEqual_any _ _ _ (by omega) (by omega) (by omega) (by omega)).mono ?_; rintro e w1 ⟨rfl, n1⟩; have hs1 := nxs n1; (try simp only [World.size_alloc, World.size_setCell, World.size_drew] at hs1); (try (refine nxk n1 (w.heap.size) ?_ ?_; (focus ((try simp only [World.size_alloc, World.size_setCell, World.size_drew]); omega)); intro hc1 hf1; have hz1 : w.heap.size < w1.heap.size := (by omega))); (try (refine nxk n1 (w.heap.size + 1) ?_ ?_; (focus ((try simp only [World.size_alloc, World.size_setCell, World.size_drew]); omega)); intro hc1 hf1; have hz1 : w.heap.size + 1 < w1.heap.size := (by omega))); (try (refine nxk n1 (w.heap.size + 2) ?_ ?_; (focus ((try simp only [World.size_alloc, World.size_setCell, World.size_drew]); omega)); intro hc1 hf1; have hz1 : w.heap.size + 2 < w1.heap.size := (by omega))); have hb1 := nx n1; clear n1))
    go_ret
    exact ⟨ret_bool hz.out.symm, (by show Below _ _ _; repeat (first | (with_reducible exact Below.refl _ _) | (with_reducible assumption) | (with_reducible refine Below.drew ?_) | ((with_reducible refine Below.alloc ?_ ?_ _); rotate_left; (focus first | omega | (simp; done) | (simp; omega))) | ((with_reducible refine Below.setCell ?_ ?_ _); rotate_left; (focus first | omega | (simp; done) | (simp; omega))) | ((with_reducible refine bl_step (by assumption) ?_ ?_); rotate_left; (focus first | omega | (simp; done) | (simp; omega)))))⟩
/-! ### Structs handed back -/
theorem min_any (b l : Int) (w : World) :
    Calls Try.prog 37 #[.agg #[.int .u64 b, .int .u64 l]] w fun e w' => e = .returned (.agg #[.int .u64 b, .int .u64 l]) ∧ Nx w w' := by
  go_enter Try.func37, Try.ntmps37
  go_wp2
  exact bodyPost_ret (v := .agg #[.int .u64 b, .int .u64 l]) (by simp [results, Try.results37, go_sem]) rfl ⟨rfl, (by show Below _ _ _; repeat (first | (with_reducible exact Below.refl _ _) | (with_reducible assumption) | (with_reducible refine Below.drew ?_) | ((with_reducible refine Below.alloc ?_ ?_ _); rotate_left; (focus first | omega | (simp; done) | (simp; omega))) | ((with_reducible refine Below.setCell ?_ ?_ _); rotate_left; (focus first | omega | (simp; done) | (simp; omega))) | ((with_reducible refine bl_step (by assumption) ?_ ?_); rotate_left; (focus first | omega | (simp; done) | (simp; omega)))))⟩
set_option maxHeartbeats 400000 in
theorem mout_any (b l : Int) (w : World) :
    Calls Try.prog 39 #[.agg #[.int .u64 b, .int .u64 l]] w fun e w' => e = .returned (.agg #[.int .u64 b, .int .u64 l]) ∧ Nx w w' := by
  go_enter Try.func39, Try.ntmps39
  go_wp2_with fail
  go_region_with (first | (go_at_call 49; refine (oaddr_at _ _).mono ?_; rintro e w1 ⟨rfl, rfl⟩))
  all_goals go_wp2
  all_goals exact bodyPost_ret (v := .agg #[.int .u64 b, .int .u64 l]) (by simp [results, Try.results39, go_sem]) rfl ⟨rfl, (by show Below _ _ _; repeat (first | (with_reducible exact Below.refl _ _) | (with_reducible assumption) | (with_reducible refine Below.drew ?_) | ((with_reducible refine Below.alloc ?_ ?_ _); rotate_left; (focus first | omega | (simp; done) | (simp; omega))) | ((with_reducible refine Below.setCell ?_ ?_ _); rotate_left; (focus first | omega | (simp; done) | (simp; omega))) | ((with_reducible refine bl_step (by assumption) ?_ ?_); rotate_left; (focus first | omega | (simp; done) | (simp; omega)))))⟩
theorem sAddr_any (n : Int) (w : World) (hn : 0 ≤ n) :
    Calls Try.prog 17 #[.int .u64 n] w fun e w' => e = .returned (.int .u64 (n % 1099511627776)) ∧ w = w' := by
  go_enter Try.func17, Try.ntmps17
  go_wp2
  go_ret
  exact ⟨rfl, rfl⟩
def rgB (a b : Int) : Int := if b % 1099511627776 < a % 1099511627776 then b % 1099511627776 else a % 1099511627776
def rgL (a b : Int) : Int := (if b % 1099511627776 < a % 1099511627776 then a % 1099511627776 else b % 1099511627776) + 1
theorem rg_in (a b : Int) : 0 ≤ rgB a b ∧ rgB a b < rgL a b ∧ rgL a b ≤ 1099511627776 := by
  unfold rgB rgL; split <;> omega
theorem sRange_any (a b : Int) (w : World) (ha : 0 ≤ a) (hb : 0 ≤ b) :
    Calls Try.prog 11 #[.int .u64 a, .int .u64 b] w fun e w' => e = .returned (.agg #[.int .u64 (rgB a b), .int .u64 (rgL a b)]) ∧ Nx w w' := by
  have ba : 0 ≤ a % 1099511627776 ∧ a % 1099511627776 < 1099511627776 := by omega
  have bb : 0 ≤ b % 1099511627776 ∧ b % 1099511627776 < 1099511627776 := by omega
  by_cases h : b % 1099511627776 < a % 1099511627776
  · have h1 := Lib.hid (show rgB a b = b % 1099511627776 from if_pos h)
    have h2 := Lib.hid (show rgL a b = a % 1099511627776 + 1 by unfold rgL; rw [if_pos h])
    go_enter Try.func11, Try.ntmps11
    go_wp2_with (first | (go_at_call 17; refine (sAddr_any _ _ (by omega)).mono ?_; rintro e w1 ⟨rfl, rfl⟩))
    rw [h1.out, h2.out]
    exact bodyPost_ret (v := .agg #[.int .u64 (b % 1099511627776), .int .u64 (a % 1099511627776 + 1)]) (by simp [results, Try.results11, go_sem]) rfl ⟨rfl, (by show Below _ _ _; repeat (first | (with_reducible exact Below.refl _ _) | (with_reducible assumption) | (with_reducible refine Below.drew ?_) | ((with_reducible refine Below.alloc ?_ ?_ _); rotate_left; (focus first | omega | (simp; done) | (simp; omega))) | ((with_reducible refine Below.setCell ?_ ?_ _); rotate_left; (focus first | omega | (simp; done) | (simp; omega))) | ((with_reducible refine bl_step (by assumption) ?_ ?_); rotate_left; (focus first | omega | (simp; done) | (simp; omega)))))⟩
  · have h1 := Lib.hid (show rgB a b = a % 1099511627776 from if_neg h)
    have h2 := Lib.hid (show rgL a b = b % 1099511627776 + 1 by unfold rgL; rw [if_neg h])
    go_enter Try.func11, Try.ntmps11
    go_wp2_with (first | (go_at_call 17; refine (sAddr_any _ _ (by omega)).mono ?_; rintro e w1 ⟨rfl, rfl⟩))
    rw [h1.out, h2.out]
    exact bodyPost_ret (v := .agg #[.int .u64 (a % 1099511627776), .int .u64 (b % 1099511627776 + 1)]) (by simp [results, Try.results11, go_sem]) rfl ⟨rfl, (by show Below _ _ _; repeat (first | (with_reducible exact Below.refl _ _) | (with_reducible assumption) | (with_reducible refine Below.drew ?_) | ((with_reducible refine Below.alloc ?_ ?_ _); rotate_left; (focus first | omega | (simp; done) | (simp; omega))) | ((with_reducible refine Below.setCell ?_ ?_ _); rotate_left; (focus first | omega | (simp; done) | (simp; omega))) | ((with_reducible refine bl_step (by assumption) ?_ ?_); rotate_left; (focus first | omega | (simp; done) | (simp; omega)))))⟩
end Go.Proofs.Ytnmljgjcdofboaa
