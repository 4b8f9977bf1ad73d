/- The first ranges of a list; the last range of them taken whole. -/
import Derived.Test.YtnmljgjcdofboaaRm
import Derived.Test.YtnmljgjcdofboaaCp
namespace Go.Proofs.Ytnmljgjcdofboaa
open Go.RowKit
set_option linter.unusedVariables false
set_option linter.unusedSimpArgs false

theorem SlAt.take {w : World} {A : Option Addr} {c : Nat} {L : List R} (h : SlAt w A c L) (k : Nat) : SlAt w A c (L.take k) := by
  refine ⟨Nat.le_trans (by rw [List.length_take]; omega) h.cap, h.max, ?_⟩
  rcases h.cell with rfl | ⟨g, e, hc⟩
  · exact .inl (by simp)
  · refine .inr ⟨g, e, fun j u hj => hc j u ?_⟩
    rw [← cellsL_take, List.getElem?_take] at hj
    split at hj
    · exact hj
    · cases hj
theorem td_take {L : List R} (h : Td L) (k : Nat) : Td (L.take k) := by
  have e : L = L.take k ++ L.drop k := (List.take_append_drop k L).symm
  rw [e] at h
  exact ((td_append _ _).1 h).1
theorem td_drop {L : List R} (h : Td L) (k : Nat) : Td (L.drop k) := by
  have e : L = L.take k ++ L.drop k := (List.take_append_drop k L).symm
  rw [e] at h
  exact ((td_append _ _).1 h).2.1
theorem InB.drop {L : List R} (h : InB L) (k : Nat) : InB (L.drop k) := fun r hr => h r (List.mem_of_mem_drop hr)
theorem removeTop {L : List R} {m : Nat} (hm : m < L.length) (hn : L.length ≤ 65536) (hL : InB L) (hT : Td L) (hTop : ∀ r ∈ L, 0 ≤ r.1 ∧ r.2 - r.1 ≤ 1099511627776) (A : Option Addr) (c : Nat) (w : World) (h : SlAt w A c (L.take (m + 1))) :
    Calls Try.prog 18 #[.slice A (L.take (m + 1)).length c, .int .u64 1099511627776] w fun e w' =>
      ∃ A c, e = .returned (.tuple #[.slice A (L.take m).length c, .int .u64 (totL (L.take m)), .agg #[.int .u64 (L[m]).1, .int .u64 (L[m]).2]]) ∧ SlAt w' A c (L.take m) ∧ Nx w w' := by
  have hlen : (L.take (m + 1)).length = m + 1 := by rw [List.length_take]; omega
  have hr : (L.take (m + 1))[m]? = some L[m] := by rw [List.getElem?_take, if_pos (by omega), List.getElem?_eq_getElem hm]
  have hT' := td_take hT (m + 1)
  have hat : rlAt L[m] 1099511627776 = (L[m]).1 := by unfold rlAt; rw [if_pos (hTop _ (List.getElem_mem hm)).2]
  have hB : belowL (L.take (m + 1)) (L[m]).1 = L.take m := by
    rw [below_last hT' hlen hr (Int.le_refl _) (hT.ne m hm), if_neg (by omega), List.append_nil, List.take_take, Nat.min_eq_left (by omega)]
  have := iRemoveLast_any A c m (L.take (m + 1)) 1099511627776 L[m] w h hlen hr (by omega) (hL.take _) hT' (by omega)
  unfold RetRl at this
  rw [hat, hB] at this
  exact this
theorem totalTake {L : List R} {m : Nat} (hm : m < L.length) (hn : L.length ≤ 65536) (hL : InB L) (A : Option Addr) (c : Nat) (w : World) (h : SlAt w A c L) :
    Calls Try.prog 20 #[.slice A m c] w fun e w' => e = .returned (.int .u64 (totL (L.take m))) ∧ Nx w w' := by
  have := sTotal_any A c (L.take m) w (h.take m) (by rw [List.length_take]; omega) (hL.take m)
  rwa [show (L.take m).length = m by rw [List.length_take]; omega] at this
end Go.Proofs.Ytnmljgjcdofboaa
