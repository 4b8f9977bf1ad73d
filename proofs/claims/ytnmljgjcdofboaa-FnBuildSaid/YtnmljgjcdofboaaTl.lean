/- Adding what is known to be missing: the list that comes back is named. -/
import Derived.Test.YtnmljgjcdofboaaAh
import Derived.Test.YtnmljgjcdofboaaTk
namespace Go.Proofs.Ytnmljgjcdofboaa
open Go.RowKit
set_option linter.unusedVariables false
set_option linter.unusedSimpArgs false

/-- The list N and its sum are handed back. -/
def RetN (N : List R) (w : World) (e : Ending) (w' : World) : Prop := ∃ A c, e = .returned (.tuple #[.slice A N.length c, .int .u64 (totL N)]) ∧ SlAt w' A c N ∧ Nx w w'
theorem addIs {L N : List R} {a b : Int} (hn : L.length < 65536) (hL : InB L) (hT : Td L) (ha : 0 ≤ a) (hab : a < b) (hb : b < 4398046511104) (hA : ApartL L (a, b)) (hN : Td N) (hx : ∀ x, (hasL L x || hasB a b x) = hasL N x)
    (A : Option Addr) (c : Nat) (w : World) (h : SlAt w A c L) : Calls Try.prog 14 #[.slice A L.length c, .agg #[.int .u64 a, .int .u64 b]] w (RetN N w) :=
  (iAdd_any A c L a b w h hn hL hT ha hab hb hA).mono fun e w' ⟨M, A', c', hM, he, hs, hnx⟩ => by
    obtain rfl := hM.is hN hx
    exact ⟨A', c', he, hs, hnx⟩
/-- One more range from behind. -/
theorem buildStep {L : List R} {m : Nat} (hm : m < L.length) (hn : L.length ≤ 32768) (hL : InB L) (hT : Td L) (A : Option Addr) (c : Nat) (w : World) (h : SlAt w A c (L.drop (m + 1))) :
    Calls Try.prog 14 #[.slice A (L.drop (m + 1)).length c, .agg #[.int .u64 (L[m]).1, .int .u64 (L[m]).2]] w (RetN (L.drop m) w) := by
  have hb := hL.at hm
  have hne := hT.ne m hm
  refine addIs (by rw [List.length_drop]; omega) (hL.drop _) (td_drop hT _) hb.1 hne hb.2.2.2 (fun s hs => .inr (Int.le_of_lt (drop_mem_gt hT hm s hs))) (td_drop hT m) (fun x => ?_) A c w h
  rw [List.drop_eq_getElem_cons hm, hasL_cons, Bool.or_comm]
/-- What was cut off the last range is added again. -/
theorem addBack {L : List R} {m : Nat} {r : R} {at0 : Int} (hn : L.length ≤ 32768) (hL : InB L) (hT : Td L) (hm : L.length = m + 1) (hr : L[m]? = some r) (h1 : r.1 ≤ at0) (h2 : at0 < r.2)
    (A : Option Addr) (c : Nat) (w : World) (h : SlAt w A c (belowL L at0)) : Calls Try.prog 14 #[.slice A (belowL L at0).length c, .agg #[.int .u64 at0, .int .u64 r.2]] w (RetN L w) := by
  obtain ⟨hi, e⟩ := List.getElem?_eq_some_iff.1 hr
  have hb := hL.at hi
  rw [e] at hb
  refine addIs (by have := belowL_len L at0; omega) (belowL_inB hT hL _) (belowL_td _ hT) (by omega) h2 hb.2.2.2 (fun s hs => ?_) hT (fun x => ?_) A c w h
  · obtain ⟨t, _, _, _, h3⟩ := (belowL_mem hT).1 hs
    exact .inl (by simp only; omega)
  · rw [belowL_has hT, Bool.eq_iff_iff, Bool.or_eq_true, Bool.and_eq_true, hasB_iff, decide_eq_true_iff, hasL_mem]
    constructor
    · rintro (⟨h3, _⟩ | ⟨h3, h4⟩)
      · exact h3
      · exact ⟨r, by rw [← e]; exact List.getElem_mem hi, by omega, h4⟩
    · rintro ⟨s, hs, h3, h4⟩
      by_cases hx : x < at0
      · exact .inl ⟨⟨s, hs, h3, h4⟩, hx⟩
      · refine .inr ⟨by omega, ?_⟩
        obtain ⟨j, hj, rfl⟩ := List.getElem_of_mem hs
        have h5 : (L[j]).2 ≤ (L[m]).2 := by
          by_cases hjm : j < m
          · have := hT.up j m hj hi hjm
            have := hT.ne m hi
            omega
          · have : j = m := by omega
            subst this
            exact Int.le_refl _
        rw [e] at h5
        omega
end Go.Proofs.Ytnmljgjcdofboaa
