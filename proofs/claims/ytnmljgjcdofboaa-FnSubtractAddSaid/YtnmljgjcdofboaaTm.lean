/- What was cut is added again; gaps are filled. -/
import Derived.Test.YtnmljgjcdofboaaTl
namespace Go.Proofs.Ytnmljgjcdofboaa
open Go.RowKit
set_option linter.unusedVariables false
set_option linter.unusedSimpArgs false

/-- M has what is left below x, and the first k ranges of L. -/
structure CutK (L : List R) (x : Int) (k : Nat) (M : List R) : Prop where
  td : Td M
  inb : InB M
  len : M.length ≤ L.length + k
  has : ∀ y, hasL M y = (hasL (belowL L x) y || hasL (L.take k) y)
theorem cutK_start {L : List R} (hL : InB L) (hT : Td L) (x : Int) : CutK L x 0 (belowL L x) :=
  ⟨belowL_td _ hT, belowL_inB hT hL _, by have := belowL_len L x; omega, fun y => by simp [hasL]⟩
theorem hasL_take1 (L : List R) (x : Int) (k : Nat) (hk : k < L.length) : hasL (L.take (k + 1)) x = (hasL (L.take k) x || hasB (L[k]).1 (L[k]).2 x) := by
  rw [List.take_succ_eq_append_getElem hk, hasL_append, hasL_cons, hasL_nil, Bool.or_false]
theorem CutK.skip {L M : List R} {x : Int} {k : Nat} (h : CutK L x k M) (hT : Td L) (hk : k < L.length) (hx : (L[k]).2 ≤ x) : CutK L x (k + 1) M := by
  refine ⟨h.td, h.inb, by have := h.len; omega, fun y => ?_⟩
  rw [h.has, hasL_take1 L y k hk, belowL_has hT]
  by_cases hy : hasB (L[k]).1 (L[k]).2 y = true
  · have h2 := (hasB_iff _ _ _).1 hy
    have h3 : hasL L y = true := (hasL_mem _ _).2 ⟨_, List.getElem_mem hk, h2.1, h2.2⟩
    have h4 : decide (y < x) = true := by simp; omega
    rw [hy, h3, h4]; simp
  · rw [Bool.not_eq_true] at hy
    rw [hy]; simp
theorem CutK.fin {L M : List R} {x : Int} (h : CutK L x L.length M) (hT : Td L) : M = L := by
  refine td_uniq _ _ h.td hT fun y => ?_
  rw [h.has, List.take_length, belowL_has hT]
  cases hasL L y <;> simp
theorem cutAddStep {L M : List R} {x a : Int} {k : Nat} (h : CutK L x k M) (hn : L.length ≤ 32768) (hL : InB L) (hT : Td L) (hk : k < L.length) (hx : x < (L[k]).2) (ha : (x ≤ (L[k]).1 ∧ a = (L[k]).1) ∨ ((L[k]).1 < x ∧ a = x)) (hx0 : 0 ≤ x)
    (A : Option Addr) (c : Nat) (w : World) (hs : SlAt w A c M) : Calls Try.prog 14 #[.slice A M.length c, .agg #[.int .u64 a, .int .u64 (L[k]).2]] w fun e w' =>
      ∃ M' A c, CutK L x (k + 1) M' ∧ e = .returned (.tuple #[.slice A M'.length c, .int .u64 (totL M')]) ∧ SlAt w' A c M' ∧ Nx w w' := by
  have hb := hL.at hk
  have hne := hT.ne k hk
  have hlen := h.len
  have hA : ApartL M (a, (L[k]).2) := apart_of h.td (by simp only; omega) fun y h1 h2 => by
    simp only at h1 h2
    rw [h.has, belowL_has hT, Bool.or_eq_false_iff]
    refine ⟨?_, ?_⟩
    · have : decide (y < x) = false := by simp; omega
      rw [this, Bool.and_false]
    · rw [← Bool.not_eq_true, hasL_mem]
      rintro ⟨s, hs, h3, h4⟩
      obtain ⟨j, hj, rfl⟩ := List.getElem_of_mem hs
      rw [List.length_take] at hj
      rw [List.getElem_take] at h3 h4
      have := hT.up j k (by omega) hk (by omega)
      omega
  refine (iAdd_any A c M a (L[k]).2 w hs (by omega) h.inb h.td (by omega) (by omega) hb.2.2.2 hA).mono ?_
  rintro e w' ⟨M', A', c', hM, he, hs', hnx⟩
  refine ⟨M', A', c', ⟨hM.td, hM.inB h.inb ⟨by simp only; omega, hb.2.2.2⟩, by have := hM.len; omega, fun y => ?_⟩, he, hs', hnx⟩
  rw [hM.has, h.has, hasL_take1 L y k hk, belowL_has hT]
  simp only
  by_cases hy : hasB (L[k]).1 (L[k]).2 y = true
  · have h2 := (hasB_iff _ _ _).1 hy
    have h3 : hasL L y = true := (hasL_mem _ _).2 ⟨_, List.getElem_mem hk, h2.1, h2.2⟩
    rw [hy, h3]
    by_cases hyx : y < x
    · have h4 : decide (y < x) = true := by simpa using hyx
      rw [h4]; simp
    · have h4 : hasB a (L[k]).2 y = true := (hasB_iff _ _ _).2 ⟨by omega, h2.2⟩
      rw [h4]; simp
  · have h4 : hasB a (L[k]).2 y = false := by
      rw [← Bool.not_eq_true]
      intro h5
      have h6 := (hasB_iff _ _ _).1 h5
      exact hy ((hasB_iff _ _ _).2 ⟨by omega, h6.2⟩)
    rw [Bool.not_eq_true] at hy
    rw [hy, h4]; simp
/-- The first k + 1 ranges are one. -/
def fillL (L : List R) (k : Nat) : List R := match L with
  | [] => []
  | r :: T => (r.1, ((r :: T).getD k (0, 0)).2) :: (r :: T).drop (k + 1)
theorem fill_at {L : List R} {k : Nat} (hk : k < L.length) : fillL L k = ((L[0]'(by omega)).1, (L[k]).2) :: L.drop (k + 1) := by
  match L, hk with
  | r :: T, hk =>
    show (r.1, ((r :: T).getD k (0, 0)).2) :: (r :: T).drop (k + 1) = _
    rw [List.getD_eq_getElem?_getD, List.getElem?_eq_getElem hk]; rfl
theorem fill_le {L : List R} (hT : Td L) {k : Nat} (hk : k < L.length) : (L[0]'(by omega)).1 < (L[k]).2 := by
  have h1 := hT.base_mono (i := 0) (j := k) (by omega) hk (by omega)
  have h2 := hT.ne k hk
  omega
theorem fill_td {L : List R} (hT : Td L) {k : Nat} (hk : k < L.length) : Td (fillL L k) := by
  rw [fill_at hk, td_cons]
  exact ⟨fill_le hT hk, fun s hs => drop_mem_gt hT hk s hs, td_drop hT _⟩
theorem fill_inB {L : List R} (hL : InB L) {k : Nat} (hk : k < L.length) : InB (fillL L k) := by
  rw [fill_at hk]
  intro s hs
  rcases List.mem_cons.1 hs with rfl | hs
  · have h1 := hL.at (i := 0) (by omega)
    have h2 := hL.at hk
    exact ⟨h1.1, h1.2.1, h2.2.2.1, h2.2.2.2⟩
  · exact hL s (List.mem_of_mem_drop hs)
theorem fill_zero {L : List R} (hp : 0 < L.length) : fillL L 0 = L := by
  rw [fill_at hp]
  match L, hp with
  | r :: T, _ => rfl
theorem fillStep {L : List R} {k : Nat} (hk : k + 1 < L.length) (hn : L.length ≤ 32768) (hL : InB L) (hT : Td L) (A : Option Addr) (c : Nat) (w : World) (h : SlAt w A c (fillL L k)) :
    Calls Try.prog 14 #[.slice A (fillL L k).length c, .agg #[.int .u64 (L[k]).2, .int .u64 (L[k + 1]).1]] w (RetN (fillL L (k + 1)) w) := by
  have hk0 : k < L.length := by omega
  have h1 := hL.at hk0
  have h2 := hL.at hk
  have h3 := hT.up k (k + 1) hk0 hk (by omega)
  have h4 := hT.ne (k + 1) hk
  have h5 := fill_le hT hk0
  have hlen : (fillL L k).length < 65536 := by rw [fill_at hk0, List.length_cons, List.length_drop]; omega
  refine addIs hlen (fill_inB hL hk0) (fill_td hT hk0) h1.2.2.1 h3 h2.2.1 (fun s hs => ?_) (fill_td hT hk) (fun y => ?_) A c w h
  · rw [fill_at hk0] at hs
    rcases List.mem_cons.1 hs with rfl | hs
    · exact .inl (Int.le_refl _)
    · refine .inr ?_
      obtain ⟨j, hj, rfl⟩ := List.getElem_of_mem hs
      rw [List.length_drop] at hj
      rw [List.getElem_drop]
      exact hT.base_mono hk (by omega) (by omega)
  · rw [fill_at hk0, fill_at hk, hasL_cons, hasL_cons, List.drop_eq_getElem_cons hk, hasL_cons, Bool.eq_iff_iff]
    simp only [Bool.or_eq_true, hasB_iff]
    constructor
    · rintro ((h | h | h) | h)
      · exact .inl (by omega)
      · exact .inl (by omega)
      · exact .inr h
      · exact .inl (by omega)
    · rintro (h | h)
      · by_cases ha : y < (L[k]).2
        · exact .inl (.inl (by omega))
        · by_cases hb : y < (L[k + 1]).1
          · exact .inr (by omega)
          · exact .inl (.inr (.inl (by omega)))
      · exact .inl (.inr (.inr h))
theorem fill_end {L : List R} {k : Nat} (hp : 0 < L.length) (hk : k < L.length) (he : L.length ≤ k + 1) (hL : InB L) (hT : Td L) : fillL L k = [((L[0]).1, (L[k]).2)] ∧ 0 ≤ (L[0]).1 ∧ (L[0]).1 < (L[k]).2 ∧ (L[k]).2 < 4398046511104 := by
  refine ⟨?_, (hL.at hp).1, fill_le hT hk, (hL.at hk).2.2.2⟩
  rw [fill_at hk, List.drop_eq_nil_of_le he]
theorem slAt_one (W : World) (a b : Int) (T : TypeId) {n : Nat} (h : n = W.heap.size) : SlAt (W.alloc (.cells #[.int .u64 a, .int .u64 b] T)) (some ⟨n, 0, none⟩) 1 [(a, b)] := by
  subst h
  refine ⟨Nat.le_refl _, by unfold maxLen; omega, .inr ⟨_, rfl, fun j u hj => ?_⟩⟩
  have hc := (Bk.new W #[.int .u64 a, .int .u64 b] T).cell j
  have e : (#[Value.int .u64 a, Value.int .u64 b] : Array Value)[j]? = [Value.int .u64 a, Value.int .u64 b][j]? := by simp
  rw [hc, e]
  exact hj
end Go.Proofs.Ytnmljgjcdofboaa
