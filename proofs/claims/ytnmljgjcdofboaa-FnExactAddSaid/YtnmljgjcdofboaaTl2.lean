/- There is a list with one more range. -/
import Derived.Test.YtnmljgjcdofboaaTl
namespace Go.Proofs.Ytnmljgjcdofboaa
open Go.RowKit
set_option linter.unusedVariables false
set_option linter.unusedSimpArgs false

theorem bk_new2 (W : World) (cs : Array Value) (T : TypeId) {n : Nat} (h : n = W.heap.size) : Bk (W.alloc (.cells cs T)) n cs T := by subst h; exact Bk.new W cs T
theorem addAt_ex {L : List R} {r : R} (hT : Td L) (hr : r.1 < r.2) (hA : ApartL L r) : ∃ M, AddAt L r M := by
  obtain ⟨i, hS⟩ := findIdx_succ L r.1 hT
  by_cases hd : ∃ k, ∃ hk : k < L.length, i = k + 1 ∧ (L[k]).2 = r.1
  · obtain ⟨k, hk, rfl, he⟩ := hd
    by_cases hu : ∃ hi : k + 1 < L.length, r.2 = (L[k + 1]).1
    · obtain ⟨hi, hu⟩ := hu
      exact ⟨_, add_both hT hr hi he hu⟩
    · exact ⟨_, add_down hT hS hA hr hk he (fun h e => hu ⟨h, e⟩)⟩
  · by_cases hu : ∃ hi : i < L.length, r.2 = (L[i]).1
    · obtain ⟨hi, hu⟩ := hu
      exact ⟨_, add_up hT hS hA hr (fun k h e he => hd ⟨k, h, e, he⟩) hi hu⟩
    · exact ⟨_, add_new hT hS hA hr (fun k h e he => hd ⟨k, h, e, he⟩) (fun h e => hu ⟨h, e⟩)⟩
end Go.Proofs.Ytnmljgjcdofboaa
