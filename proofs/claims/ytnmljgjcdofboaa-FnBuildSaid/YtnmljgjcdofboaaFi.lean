/- FindSucc, InList, FindAddrGreaterEqual, through the package and the thin package. -/
import Derived.Test.YtnmljgjcdofboaaFs
import Derived.Test.YtnmljgjcdofboaaLi
namespace Go.Proofs.Ytnmljgjcdofboaa
open Go.RowKit
set_option linter.unusedVariables false
set_option linter.unusedSimpArgs false


/-- An address of a list. -/
def hasL (L : List R) (x : Int) : Bool := L.any fun r => hasB r.1 r.2 x
theorem hasL_iff (L : List R) (x : Int) : hasL L x = true ↔ ∃ j, ∃ h : j < L.length, (L[j]).1 ≤ x ∧ x < (L[j]).2 := by
  simp only [hasL, List.any_eq_true, hasB_iff]
  constructor
  · rintro ⟨r, hr, h⟩
    obtain ⟨j, hj, rfl⟩ := List.getElem_of_mem hr
    exact ⟨j, hj, h⟩
  · rintro ⟨j, hj, h⟩
    exact ⟨_, List.getElem_mem hj, h⟩
/-- Only the range ahead of the first one above x can have it. -/
theorem hasL_succ {L : List R} (hT : Td L) {x : Int} {i : Nat} (hs : SuccAt L x (i + 1)) (hi : i < L.length) : hasL L x = hasB (L[i]).1 (L[i]).2 x := by
  rw [Bool.eq_iff_iff, hasL_iff, hasB_iff]
  constructor
  · rintro ⟨j, hj, h1, h2⟩
    by_cases hji : j = i
    · subst hji; exact ⟨h1, h2⟩
    · by_cases hlt : j < i
      · have := hT.up j i hj hi hlt
        have := hs.lo i hi (by omega)
        omega
      · have := hs.hi j hj (by omega)
        omega
  · intro h
    exact ⟨i, hi, h⟩
theorem hasL_zero {L : List R} {x : Int} (hs : SuccAt L x 0) : hasL L x = false := by
  rw [← Bool.not_eq_true, hasL_iff]
  rintro ⟨j, hj, h1, h2⟩
  have := hs.hi j hj (by omega)
  omega
theorem lcontains_any (base G g c : Nat) (L : List R) (tot x : Int) (w : World) (h : ArAt base w G g c L tot) (hn : L.length ≤ 65536) (hL : InB L) (hT : Td L) (hx : 0 ≤ x) (hx' : x < 4398046511104) :
    Calls Try.prog 46 #[.pointer (some ⟨G, 0, none⟩), .int .u64 x] w fun e w' => e = .returned (.bool (hasL L x)) ∧ Nx w w' := by
  go_enter Try.func46, Try.ntmps46
  go_wp2_with fail
  refine (lfindSucc_any _ G g c L tot x _ h hn hL hT hx hx').mono ?_
  rintro e w1 ⟨i, rfl, hs, n1⟩
  cases i with
  | zero =>
    have hz := Lib.hid (hasL_zero hs)
    go_wp2_with fail
    go_ret
    exact ⟨ret_bool hz.out.symm, n1⟩
  | succ i =>
    have hi : i < L.length := hs.le
    have hz := Lib.hid (hasL_succ hT hs hi)
    have hbd := hL.at hi
    obtain ⟨q0, q1, q2, q3⟩ := (h.nx n1).cells
    obtain ⟨c0, c1⟩ := (h.nx n1).at hi
    have hne : (((i + 1 : Nat) : Int) == 0) = false := by simp; omega
    generalize L[i] = r at hbd c0 c1 hz
    clear hs
    go_wp2_with (first | (go_at_call 54; refine (rcontains_any _ _ _ _ (by omega) (by omega) (by omega) (by omega) (by omega) (by omega)).mono ?_; rintro e w1 ⟨rfl, n1⟩; have hs1 := nxs n1; (try simp only [World.size_alloc, World.size_setCell, World.size_drew] at hs1); (try (refine nxk n1 (w.heap.size) ?_ ?_; (focus ((try simp only [World.size_alloc, World.size_setCell, World.size_drew]); omega)); intro hc1 hf1; have hz1 : w.heap.size < w1.heap.size := (by omega))); (try (refine nxk n1 (w.heap.size + 1) ?_ ?_; (focus ((try simp only [World.size_alloc, World.size_setCell, World.size_drew]); omega)); intro hc1 hf1; have hz1 : w.heap.size + 1 < w1.heap.size := (by omega))); (try (refine nxk n1 (w.heap.size + 2) ?_ ?_; (focus ((try simp only [World.size_alloc, World.size_setCell, World.size_drew]); omega)); intro hc1 hf1; have hz1 : w.heap.size + 2 < w1.heap.size := (by omega))); have hb1 := nx n1; clear n1))
    go_ret
    exact ⟨ret_bool hz.out.symm, bl_step hb1 n1 n1.size⟩
theorem mInList_any (A : Option Addr) (c : Nat) (L : List R) (x : Int) (w : World) (h : SlAt w A c L) (hn : L.length ≤ 65536) (hL : InB L) (hT : Td L) (hx : 0 ≤ x) (hx' : x < 4398046511104) :
    Calls Try.prog 36 #[.slice A L.length c, .int .u64 x] w fun e w' => e = .returned (.bool (hasL L x)) ∧ Nx w w' := by
  go_enter Try.func36, Try.ntmps36
  go_wp2_with fail
  refine (mins_any A c L _ h hn hL).mono ?_
  rintro e w1 ⟨G, g, c', rfl, har, n1⟩
  go_wp2_with fail
  refine (lcontains_any _ G g c' L _ x _ har hn hL hT hx hx').mono ?_
  rintro e w2 ⟨rfl, n2⟩
  go_wp2_with fail
  go_ret
  exact ⟨rfl, bl_step n2 n1 n1.size⟩
theorem iInList_any (A : Option Addr) (c : Nat) (L : List R) (x : Int) (w : World) (h : SlAt w A c L) (hn : L.length ≤ 65536) (hL : InB L) (hT : Td L) (hx : 0 ≤ x) (hx' : x < 4398046511104) :
    Calls Try.prog 26 #[.slice A L.length c, .int .u64 x] w fun e w' => e = .returned (.bool (hasL L x)) ∧ Nx w w' := by
  go_enter Try.func26, Try.ntmps26
  go_wp2_with fail
  refine (igiven_any A c L _ h hn).mono ?_
  rintro e w1 ⟨A1, c1, rfl, hs1, n1⟩
  go_wp2_with fail
  refine (mInList_any A1 c1 L x _ hs1 hn hL hT hx hx').mono ?_
  rintro e w2 ⟨rfl, n2⟩
  go_wp2_with fail
  go_ret
  exact ⟨rfl, bl_step n2 n1 n1.size⟩
end Go.Proofs.Ytnmljgjcdofboaa
