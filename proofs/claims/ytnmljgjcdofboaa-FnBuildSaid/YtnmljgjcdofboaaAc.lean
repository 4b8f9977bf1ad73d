/- The package's list with one more range. -/
import Derived.Test.YtnmljgjcdofboaaCp
import Derived.Deep.LoopGhost
import Derived.Deep.RegionLaw
import Derived.Deep.DeepCutAuto
namespace Go.Proofs.Ytnmljgjcdofboaa
open Go.RowKit
set_option linter.unusedVariables false
set_option linter.unusedSimpArgs false

theorem oequal_any (a b : Int) (w : World) :
    Calls Try.prog 52 #[.agg #[.int .u64 a], .agg #[.int .u64 b]] w fun e w' => e = .returned (.bool (a == b)) ∧ Nx w w' := by
  by_cases h : a = b
  · subst h
    go_enter Try.func52, Try.ntmps52
    go_wp2
    go_ret
    exact ⟨ret_bool (by simp), (by show Below _ _ _; repeat (first | (with_reducible exact Below.refl _ _) | (with_reducible assumption) | (with_reducible refine Below.drew ?_) | ((with_reducible refine Below.alloc ?_ ?_ _); rotate_left; (focus first | omega | (simp; done) | (simp; omega))) | ((with_reducible refine Below.setCell ?_ ?_ _); rotate_left; (focus first | omega | (simp; done) | (simp; omega))) | ((with_reducible refine bl_step (by assumption) ?_ ?_); rotate_left; (focus first | omega | (simp; done) | (simp; omega)))))⟩
  · have he : (a == b) = false := by simpa using h
    go_enter Try.func52, Try.ntmps52
    go_wp2
    go_ret
    exact ⟨ret_bool (by simp [h]), (by show Below _ _ _; repeat (first | (with_reducible exact Below.refl _ _) | (with_reducible assumption) | (with_reducible refine Below.drew ?_) | ((with_reducible refine Below.alloc ?_ ?_ _); rotate_left; (focus first | omega | (simp; done) | (simp; omega))) | ((with_reducible refine Below.setCell ?_ ?_ _); rotate_left; (focus first | omega | (simp; done) | (simp; omega))) | ((with_reducible refine bl_step (by assumption) ?_ ?_); rotate_left; (focus first | omega | (simp; done) | (simp; omega)))))⟩
/-- The range ahead ends where the new one begins; the range behind begins where it ends. -/
def dnB (L : List R) (i : Nat) (a : Int) : Bool := match i with
  | 0 => false
  | k + 1 => (L.getD k (0, 0)).2 == a
def upB (L : List R) (i : Nat) (b : Int) : Bool := if i < L.length then b == (L.getD i (0, 0)).1 else false
theorem dn_yes {L : List R} {i : Nat} {a : Int} (hi : i ≤ L.length) (h : dnB L i a = true) : ∃ k, ∃ hk : k < L.length, i = k + 1 ∧ (L[k]).2 = a := by
  cases i with
  | zero => cases h
  | succ k =>
    have hk : k < L.length := hi
    refine ⟨k, hk, rfl, ?_⟩
    have : ((L.getD k (0, 0)).2 == a) = true := h
    rw [List.getD_eq_getElem?_getD, List.getElem?_eq_getElem hk] at this
    simpa using this
theorem dn_no {L : List R} {i : Nat} {a : Int} (h : dnB L i a = false) : ∀ k (hk : k < L.length), i = k + 1 → (L[k]).2 ≠ a := by
  rintro k hk rfl
  have : ((L.getD k (0, 0)).2 == a) = false := h
  rw [List.getD_eq_getElem?_getD, List.getElem?_eq_getElem hk] at this
  simpa using this
theorem up_yes {L : List R} {i : Nat} {b : Int} (h : upB L i b = true) : ∃ hi : i < L.length, b = (L[i]).1 := by
  unfold upB at h
  by_cases hi : i < L.length
  · rw [if_pos hi, List.getD_eq_getElem?_getD, List.getElem?_eq_getElem hi] at h
    exact ⟨hi, by simpa using h⟩
  · rw [if_neg hi] at h; cases h
theorem up_no {L : List R} {i : Nat} {b : Int} (h : upB L i b = false) : ∀ (hi : i < L.length), b ≠ (L[i]).1 := by
  intro hi
  unfold upB at h
  rw [if_pos hi, List.getD_eq_getElem?_getD, List.getElem?_eq_getElem hi] at h
  simpa using h
theorem info_addrRange2 : (Try.prog.info? 67).map (·.size) = some 2 := by kernel_rfl
/-- The package's list has one more range. -/
def AddAr (base G : Nat) (L : List R) (r : R) (w : World) (e : Ending) (w' : World) : Prop := e = .returned (.tuple #[]) ∧ ∃ M g c, AddAt L r M ∧ ArAt base w' G g c M (totL M) ∧ Below base w w'
end Go.Proofs.Ytnmljgjcdofboaa
