/- Plain law: lists of ranges by their addresses; one more range; the list below an address; the reference's Join. -/
import Derived.Test.YtnmljgjcdofboaaSp
namespace Go.Proofs.Ytnmljgjcdofboaa
set_option linter.unusedVariables false
set_option linter.unusedSimpArgs false

/-! ### Lists of ranges by their addresses -/
theorem td_iff (L : List R) : Td L ↔ (∀ r ∈ L, r.1 < r.2) ∧ L.Pairwise (fun a b => a.2 < b.1) := by
  constructor
  · intro h
    refine ⟨fun r hr => ?_, List.pairwise_iff_getElem.2 fun i j hi hj hij => h.up i j hi hj hij⟩
    obtain ⟨i, hi, rfl⟩ := List.getElem_of_mem hr
    exact h.ne i hi
  · rintro ⟨h1, h2⟩
    exact ⟨fun i hi => h1 _ (List.getElem_mem hi), fun i j hi hj hij => List.pairwise_iff_getElem.1 h2 i j hi hj hij⟩
theorem td_nil : Td [] := (td_iff _).2 ⟨by simp, List.Pairwise.nil⟩
theorem td_cons (r : R) (L : List R) : Td (r :: L) ↔ r.1 < r.2 ∧ (∀ s ∈ L, r.2 < s.1) ∧ Td L := by
  rw [td_iff, td_iff, List.pairwise_cons]
  constructor
  · rintro ⟨h1, h2, h3⟩
    exact ⟨h1 r (List.mem_cons_self ..), h2, fun s hs => h1 s (List.mem_cons_of_mem _ hs), h3⟩
  · rintro ⟨h1, h2, h3, h4⟩
    refine ⟨fun s hs => ?_, h2, h4⟩
    rcases List.mem_cons.1 hs with rfl | hs
    · exact h1
    · exact h3 s hs
theorem td_append (A B : List R) : Td (A ++ B) ↔ Td A ∧ Td B ∧ ∀ a ∈ A, ∀ b ∈ B, a.2 < b.1 := by
  rw [td_iff, td_iff, td_iff, List.pairwise_append]
  constructor
  · rintro ⟨h1, h2, h3, h4⟩
    exact ⟨⟨fun s hs => h1 s (List.mem_append_left _ hs), h2⟩, ⟨fun s hs => h1 s (List.mem_append_right _ hs), h3⟩, h4⟩
  · rintro ⟨⟨h1, h2⟩, ⟨h3, h4⟩, h5⟩
    refine ⟨fun s hs => ?_, h2, h4, h5⟩
    rcases List.mem_append.1 hs with hs | hs
    · exact h1 s hs
    · exact h3 s hs
theorem Td.pos {L : List R} (h : Td L) {r : R} (hr : r ∈ L) : r.1 < r.2 := ((td_iff L).1 h).1 r hr
theorem hasL_mem (L : List R) (x : Int) : hasL L x = true ↔ ∃ r ∈ L, r.1 ≤ x ∧ x < r.2 := by
  simp only [hasL, List.any_eq_true, hasB_iff]
theorem hasL_cons (r : R) (L : List R) (x : Int) : hasL (r :: L) x = (hasB r.1 r.2 x || hasL L x) := rfl
theorem hasL_append (A B : List R) (x : Int) : hasL (A ++ B) x = (hasL A x || hasL B x) := by simp [hasL]
theorem hasL_nil (x : Int) : hasL [] x = false := rfl
/-- A tidy list is known by its addresses. -/
theorem td_uniq : ∀ (L M : List R), Td L → Td M → (∀ x, hasL L x = hasL M x) → L = M
  | [], [], _, _, _ => rfl
  | [], s :: M, _, hM, h => by
    have h1 := ((td_cons s M).1 hM).1
    have h2 := h s.1
    rw [hasL_nil, (hasL_mem _ _).2 ⟨s, List.mem_cons_self .., Int.le_refl _, h1⟩] at h2
    cases h2
  | r :: L, [], hL, _, h => by
    have h1 := ((td_cons r L).1 hL).1
    have h2 := h r.1
    rw [hasL_nil, (hasL_mem _ _).2 ⟨r, List.mem_cons_self .., Int.le_refl _, h1⟩] at h2
    cases h2
  | r :: L, s :: M, hL, hM, h => by
    obtain ⟨l1, l2, l3⟩ := (td_cons r L).1 hL
    obtain ⟨m1, m2, m3⟩ := (td_cons s M).1 hM
    have hP : ∀ x, (∃ t ∈ r :: L, t.1 ≤ x ∧ x < t.2) ↔ ∃ t ∈ s :: M, t.1 ≤ x ∧ x < t.2 := fun x => by
      rw [← hasL_mem, ← hasL_mem, h x]
    have k1 : s.1 ≤ r.1 := by
      obtain ⟨t, ht, h1, h2⟩ := (hP r.1).1 ⟨r, List.mem_cons_self .., Int.le_refl _, l1⟩
      rcases List.mem_cons.1 ht with rfl | ht
      · exact h1
      · have := m2 t ht; omega
    have k2 : r.1 ≤ s.1 := by
      obtain ⟨t, ht, h1, h2⟩ := (hP s.1).2 ⟨s, List.mem_cons_self .., Int.le_refl _, m1⟩
      rcases List.mem_cons.1 ht with rfl | ht
      · exact h1
      · have := l2 t ht; omega
    have k3 : ¬ r.2 < s.2 := fun hlt => by
      obtain ⟨t, ht, h1, h2⟩ := (hP r.2).2 ⟨s, List.mem_cons_self .., by omega, hlt⟩
      rcases List.mem_cons.1 ht with rfl | ht
      · omega
      · have := l2 t ht; omega
    have k4 : ¬ s.2 < r.2 := fun hlt => by
      obtain ⟨t, ht, h1, h2⟩ := (hP s.2).1 ⟨r, List.mem_cons_self .., by omega, hlt⟩
      rcases List.mem_cons.1 ht with rfl | ht
      · omega
      · have := m2 t ht; omega
    have e : r = s := Prod.ext (by omega) (by omega)
    subst e
    have h2 : L = M := by
      refine td_uniq L M l3 m3 fun x => ?_
      rw [Bool.eq_iff_iff, hasL_mem, hasL_mem]
      constructor
      · rintro ⟨t, ht, h1, h2⟩
        obtain ⟨u, hu, h3, h4⟩ := (hP x).1 ⟨t, List.mem_cons_of_mem _ ht, h1, h2⟩
        rcases List.mem_cons.1 hu with rfl | hu
        · have := l2 t ht; omega
        · exact ⟨u, hu, h3, h4⟩
      · rintro ⟨t, ht, h1, h2⟩
        obtain ⟨u, hu, h3, h4⟩ := (hP x).2 ⟨t, List.mem_cons_of_mem _ ht, h1, h2⟩
        rcases List.mem_cons.1 hu with rfl | hu
        · have := m2 t ht; omega
        · exact ⟨u, hu, h3, h4⟩
    rw [h2]
/-! ### The list below an address -/
theorem cutR_mem {x : Int} {r s : R} (h : r.1 < r.2) : s ∈ cutR x r ↔ s.1 = r.1 ∧ r.1 < x ∧ s.2 = min r.2 x := by
  unfold cutR
  obtain ⟨a, b⟩ := r
  obtain ⟨c, d⟩ := s
  simp only at h ⊢
  split
  · split
    · simp; omega
    · simp; omega
  · simp; omega
theorem belowL_mem {L : List R} (hT : Td L) {x : Int} {s : R} : s ∈ belowL L x ↔ ∃ r ∈ L, s.1 = r.1 ∧ r.1 < x ∧ s.2 = min r.2 x := by
  unfold belowL
  rw [List.mem_flatMap]
  constructor
  · rintro ⟨r, hr, hs⟩; exact ⟨r, hr, (cutR_mem (hT.pos hr)).1 hs⟩
  · rintro ⟨r, hr, hs⟩; exact ⟨r, hr, (cutR_mem (hT.pos hr)).2 hs⟩
theorem belowL_cons (r : R) (L : List R) (x : Int) : belowL (r :: L) x = cutR x r ++ belowL L x := by simp [belowL]
theorem belowL_td : ∀ {L : List R} (x : Int), Td L → Td (belowL L x)
  | [], _, h => h
  | r :: L, x, h => by
    obtain ⟨l1, l2, l3⟩ := (td_cons r L).1 h
    rw [belowL_cons, td_append]
    refine ⟨?_, belowL_td x l3, fun a ha b hb => ?_⟩
    · unfold cutR
      (repeat' split) <;> first | exact td_nil | (rw [td_cons]; exact ⟨by first | assumption | (simp; omega), by simp, td_nil⟩)
    · obtain ⟨a1, a2, a3⟩ := (cutR_mem l1).1 ha
      obtain ⟨t, ht, b1, b2, b3⟩ := (belowL_mem l3).1 hb
      have := l2 t ht
      omega
theorem belowL_has {L : List R} (hT : Td L) (x y : Int) : hasL (belowL L x) y = (hasL L y && decide (y < x)) := by
  rw [Bool.eq_iff_iff, Bool.and_eq_true, hasL_mem, hasL_mem, decide_eq_true_iff]
  constructor
  · rintro ⟨s, hs, h1, h2⟩
    obtain ⟨r, hr, e1, e2, e3⟩ := (belowL_mem hT).1 hs
    exact ⟨⟨r, hr, by omega, by omega⟩, by omega⟩
  · rintro ⟨⟨r, hr, h1, h2⟩, h3⟩
    exact ⟨(r.1, min r.2 x), (belowL_mem hT).2 ⟨r, hr, rfl, by omega, rfl⟩, h1, by simp only; omega⟩
theorem belowL_inB {L : List R} (hT : Td L) (hL : InB L) (x : Int) : InB (belowL L x) := fun s hs => by
  obtain ⟨r, hr, e1, e2, e3⟩ := (belowL_mem hT).1 hs
  have := hL r hr
  have := hT.pos hr
  omega
theorem belowL_belowL {L : List R} (hT : Td L) (x y : Int) : belowL (belowL L x) y = belowL L (min x y) := by
  refine td_uniq _ _ (belowL_td _ (belowL_td _ hT)) (belowL_td _ hT) fun z => ?_
  rw [belowL_has (belowL_td _ hT), belowL_has hT, belowL_has hT, Bool.and_assoc]
  congr 1
  rw [Bool.eq_iff_iff, Bool.and_eq_true, decide_eq_true_iff, decide_eq_true_iff, decide_eq_true_iff]
  omega
/-! ### One more range -/
/-- M has the addresses of L and those of r. -/
structure AddAt (L : List R) (r : R) (M : List R) : Prop where
  td : Td M
  has : ∀ x, hasL M x = (hasL L x || hasB r.1 r.2 x)
  tot : totL M = totL L + (r.2 - r.1)
  len : M.length ≤ L.length + 1
theorem AddAt.uniq {L M N : List R} {r : R} (h : AddAt L r M) (k : AddAt L r N) : M = N :=
  td_uniq _ _ h.td k.td fun x => by rw [h.has, k.has]
theorem AddAt.is {L M N : List R} {r : R} (h : AddAt L r M) (k : Td N) (hx : ∀ x, (hasL L x || hasB r.1 r.2 x) = hasL N x) : M = N :=
  td_uniq _ _ h.td k fun x => by rw [h.has, hx]
theorem AddAt.inB {L M : List R} {r : R} (h : AddAt L r M) (hL : InB L) (hr : 0 ≤ r.1 ∧ r.2 < 4398046511104) : InB M := fun s hs => by
  have hp := h.td.pos hs
  have key : ∀ x, s.1 ≤ x → x < s.2 → 0 ≤ x ∧ x < 4398046511103 := fun x h1 h2 => by
    have := h.has x
    rw [(hasL_mem _ _).2 ⟨s, hs, h1, h2⟩] at this
    rcases (show hasL L x = true ∨ hasB r.1 r.2 x = true by simpa [Bool.or_eq_true] using this.symm) with h3 | h3
    · obtain ⟨t, ht, h4, h5⟩ := (hasL_mem _ _).1 h3
      have := hL t ht
      omega
    · have := (hasB_iff _ _ _).1 h3
      omega
  have h1 := key s.1 (Int.le_refl _) hp
  have h2 := key (s.2 - 1) (by omega) (by omega)
  omega
theorem szI_pos {a b : Int} (h : a < b) : szI a b = b - a := if_pos h
/-- The ranges in the middle become one. -/
theorem addAt_mid {P mid S : List R} {r t : R} (hT : Td (P ++ mid ++ S)) (ht : t.1 < t.2) (hP : ∀ p ∈ P, p.2 < t.1) (hS : ∀ s ∈ S, t.2 < s.1)
    (hx : ∀ x, (hasL mid x || hasB r.1 r.2 x) = hasB t.1 t.2 x) (htot : totL mid + (r.2 - r.1) = t.2 - t.1) : AddAt (P ++ mid ++ S) r (P ++ [t] ++ S) := by
  obtain ⟨h1, h2, h3⟩ := (td_append _ _).1 hT
  obtain ⟨h4, h5, h6⟩ := (td_append _ _).1 h1
  refine ⟨?_, fun x => ?_, ?_, ?_⟩
  · rw [td_append, td_append]
    refine ⟨⟨h4, (td_cons _ _).2 ⟨ht, by simp, td_nil⟩, fun a ha b hb => ?_⟩, h2, fun a ha b hb => ?_⟩
    · obtain rfl := List.mem_singleton.1 hb
      exact hP a ha
    · rcases List.mem_append.1 ha with ha | ha
      · exact h3 a (List.mem_append_left _ ha) b hb
      · obtain rfl := List.mem_singleton.1 ha
        exact hS b hb
  · rw [hasL_append, hasL_append, hasL_append, hasL_append, hasL_cons, hasL_nil, ← hx x]
    cases hasL P x <;> cases hasL mid x <;> cases hasL S x <;> cases hasB r.1 r.2 x <;> rfl
  · rw [totL_append, totL_append, totL_append, totL_append, totL_cons, szI_pos ht, show totL [] = 0 from rfl]
    omega
  · simp only [List.length_append, List.length_cons, List.length_nil]; omega
theorem hasB_join {a b c x : Int} (h1 : a ≤ b) (h2 : b ≤ c) : (hasB a b x || hasB b c x) = hasB a c x := by
  rw [Bool.eq_iff_iff, Bool.or_eq_true, hasB_iff, hasB_iff, hasB_iff]; omega
theorem addAt_new {P S : List R} {r : R} (hT : Td (P ++ S)) (hr : r.1 < r.2) (hP : ∀ p ∈ P, p.2 < r.1) (hS : ∀ s ∈ S, r.2 < s.1) : AddAt (P ++ S) r (P ++ [r] ++ S) := by
  have := addAt_mid (P := P) (mid := []) (S := S) (r := r) (t := r) (by simpa using hT) hr hP hS (fun x => rfl) (by rw [show totL [] = 0 from rfl]; omega)
  simpa using this
theorem addAt_down {P S : List R} {p r : R} (hT : Td (P ++ [p] ++ S)) (hr : r.1 < r.2) (e : p.2 = r.1) (hS : ∀ s ∈ S, r.2 < s.1) : AddAt (P ++ [p] ++ S) r (P ++ [(p.1, r.2)] ++ S) := by
  obtain ⟨h1, h2, h3⟩ := (td_append _ _).1 hT
  obtain ⟨h4, h5, h6⟩ := (td_append _ _).1 h1
  have hp := h5.pos (List.mem_singleton.2 rfl)
  refine addAt_mid hT (by simp only; omega) (fun q hq => h6 q hq p (List.mem_singleton.2 rfl)) hS (fun x => ?_) ?_
  · rw [hasL_cons, hasL_nil, Bool.or_false, e]
    exact hasB_join (by omega) (by omega)
  · rw [totL_cons, szI_pos hp, show totL [] = 0 from rfl]; simp only; omega
theorem addAt_up {P S : List R} {s r : R} (hT : Td (P ++ [s] ++ S)) (hr : r.1 < r.2) (e : r.2 = s.1) (hP : ∀ p ∈ P, p.2 < r.1) : AddAt (P ++ [s] ++ S) r (P ++ [(r.1, s.2)] ++ S) := by
  obtain ⟨h1, h2, h3⟩ := (td_append _ _).1 hT
  obtain ⟨h4, h5, h6⟩ := (td_append _ _).1 h1
  have hp := h5.pos (List.mem_singleton.2 rfl)
  refine addAt_mid hT (by simp only; omega) hP (fun q hq => h3 s (List.mem_append_right _ (List.mem_singleton.2 rfl)) q hq) (fun x => ?_) ?_
  · rw [hasL_cons, hasL_nil, Bool.or_false, e, Bool.or_comm]
    exact hasB_join (by omega) (by omega)
  · rw [totL_cons, szI_pos hp, show totL [] = 0 from rfl]; simp only; omega
theorem addAt_both {P S : List R} {p s r : R} (hT : Td (P ++ [p, s] ++ S)) (hr : r.1 < r.2) (e : p.2 = r.1) (e2 : r.2 = s.1) : AddAt (P ++ [p, s] ++ S) r (P ++ [(p.1, s.2)] ++ S) := by
  obtain ⟨h1, h2, h3⟩ := (td_append _ _).1 hT
  obtain ⟨h4, h5, h6⟩ := (td_append _ _).1 h1
  have hp := h5.pos (List.mem_cons_self ..)
  have hs := h5.pos (r := s) (by simp)
  refine addAt_mid hT (by simp only; omega) (fun q hq => h6 q hq p (List.mem_cons_self ..)) (fun q hq => h3 s (List.mem_append_right _ (by simp)) q hq) (fun x => ?_) ?_
  · rw [hasL_cons, hasL_cons, hasL_nil, Bool.or_false, Bool.eq_iff_iff, Bool.or_eq_true, Bool.or_eq_true, hasB_iff, hasB_iff, hasB_iff, hasB_iff]; simp only; omega
  · rw [totL_cons, totL_cons, szI_pos hp, szI_pos hs, show totL [] = 0 from rfl]; simp only; omega
/-! ### Where the new range comes in -/
def ApartL (L : List R) (r : R) : Prop := ∀ s ∈ L, s.2 ≤ r.1 ∨ r.2 ≤ s.1
theorem split1 {L : List R} {i : Nat} (h : i < L.length) : L = L.take i ++ [L[i]] ++ L.drop (i + 1) := by
  rw [List.append_assoc, List.singleton_append, ← List.drop_eq_getElem_cons h, List.take_append_drop]
theorem split2 {L : List R} {k : Nat} (h : k + 1 < L.length) : L = L.take k ++ [L[k], L[k + 1]] ++ L.drop (k + 1 + 1) := by
  have h1 := split1 (L := L) (i := k) (by omega)
  rw [List.drop_eq_getElem_cons h] at h1
  simp only [List.append_assoc, List.cons_append, List.nil_append] at h1 ⊢
  exact h1
theorem pre_le {L : List R} {r : R} {i : Nat} (hS : SuccAt L r.1 i) (hA : ApartL L r) (hr : r.1 < r.2) {j : Nat} (hj : j < L.length) (hlt : j < i) : (L[j]).2 ≤ r.1 := by
  have h1 := hS.lo j hj hlt
  rcases hA _ (List.getElem_mem hj) with h | h <;> omega
theorem suf_ge {L : List R} {r : R} {i : Nat} (hT : Td L) (hS : SuccAt L r.1 i) (hA : ApartL L r) {j : Nat} (hj : j < L.length) (hle : i ≤ j) : r.2 ≤ (L[j]).1 := by
  have h1 := hS.hi j hj hle
  have h2 := hT.ne j hj
  rcases hA _ (List.getElem_mem hj) with h | h <;> omega
theorem take_lt {L : List R} {r : R} {i : Nat} (hT : Td L) (hS : SuccAt L r.1 i) (hA : ApartL L r) (hr : r.1 < r.2) (hno : ∀ k (h : k < L.length), i = k + 1 → (L[k]).2 ≠ r.1) : ∀ p ∈ L.take i, p.2 < r.1 := fun p hp => by
  obtain ⟨j, hj, rfl⟩ := List.getElem_of_mem hp
  rw [List.length_take] at hj
  rw [List.getElem_take]
  have h1 := pre_le hS hA hr (j := j) (by omega) (by omega)
  have hle := hS.le
  by_cases hji : i = j + 1
  · have := hno j (by omega) hji; omega
  · have h2 := hT.up j (j + 1) (by omega) (by omega) (by omega)
    have h3 := hS.lo (j + 1) (by omega) (by omega)
    omega
theorem drop_gt {L : List R} {r : R} {i : Nat} (hT : Td L) (hS : SuccAt L r.1 i) (hA : ApartL L r) (hno : ∀ (h : i < L.length), r.2 ≠ (L[i]).1) : ∀ s ∈ L.drop i, r.2 < s.1 := fun s hs => by
  obtain ⟨j, hj, rfl⟩ := List.getElem_of_mem hs
  rw [List.length_drop] at hj
  rw [List.getElem_drop]
  have h0 := suf_ge hT hS hA (j := i) (by omega) (Nat.le_refl _)
  have h1 := hno (by omega)
  by_cases hj0 : j = 0
  · subst hj0; simp only [Nat.add_zero]; omega
  · have h2 := hT.up i (i + j) (by omega) (by omega) (by omega)
    have h3 := hT.ne i (by omega)
    omega
theorem drop_mem_gt {L : List R} {k : Nat} (hT : Td L) (hk : k < L.length) : ∀ s ∈ L.drop (k + 1), (L[k]).2 < s.1 := fun s hs => by
  obtain ⟨j, hj, rfl⟩ := List.getElem_of_mem hs
  rw [List.length_drop] at hj
  rw [List.getElem_drop]
  exact hT.up k (k + 1 + j) hk (by omega) (by omega)
theorem add_new {L : List R} {r : R} {i : Nat} (hT : Td L) (hS : SuccAt L r.1 i) (hA : ApartL L r) (hr : r.1 < r.2) (hd : ∀ k (h : k < L.length), i = k + 1 → (L[k]).2 ≠ r.1) (hu : ∀ (h : i < L.length), r.2 ≠ (L[i]).1) :
    AddAt L r (L.take i ++ [r] ++ L.drop i) := by
  have h := addAt_new (P := L.take i) (S := L.drop i) (by rw [List.take_append_drop]; exact hT) hr (take_lt hT hS hA hr hd) (drop_gt hT hS hA hu)
  rwa [List.take_append_drop] at h
theorem add_up {L : List R} {r : R} {i : Nat} (hT : Td L) (hS : SuccAt L r.1 i) (hA : ApartL L r) (hr : r.1 < r.2) (hd : ∀ k (h : k < L.length), i = k + 1 → (L[k]).2 ≠ r.1) (hi : i < L.length) (hu : r.2 = (L[i]).1) :
    AddAt L r (L.set i (r.1, (L[i]).2)) := by
  have e := split1 hi
  have h := addAt_up (P := L.take i) (S := L.drop (i + 1)) (s := L[i]) (r := r) (by rw [← e]; exact hT) hr hu (take_lt hT hS hA hr hd)
  rw [← e] at h
  have e2 : L.set i (r.1, (L[i]).2) = L.take i ++ [(r.1, (L[i]).2)] ++ L.drop (i + 1) := by
    rw [List.set_eq_take_append_cons_drop, if_pos hi]; simp
  rw [e2]
  exact h
theorem add_down {L : List R} {r : R} {k : Nat} (hT : Td L) (hS : SuccAt L r.1 (k + 1)) (hA : ApartL L r) (hr : r.1 < r.2) (hk : k < L.length) (hd : (L[k]).2 = r.1) (hu : ∀ (h : k + 1 < L.length), r.2 ≠ (L[k + 1]).1) :
    AddAt L r (L.set k ((L[k]).1, r.2)) := by
  have e := split1 hk
  have h := addAt_down (P := L.take k) (S := L.drop (k + 1)) (p := L[k]) (r := r) (by rw [← e]; exact hT) hr hd (drop_gt hT hS hA hu)
  rw [← e] at h
  have e2 : L.set k ((L[k]).1, r.2) = L.take k ++ [((L[k]).1, r.2)] ++ L.drop (k + 1) := by
    rw [List.set_eq_take_append_cons_drop, if_pos hk]; simp
  rw [e2]
  exact h
theorem add_both {L : List R} {r : R} {k : Nat} (hT : Td L) (hr : r.1 < r.2) (hk : k + 1 < L.length) (hd : (L[k]).2 = r.1) (hu : r.2 = (L[k + 1]).1) :
    AddAt L r ((L.set k ((L[k]).1, (L[k + 1]).2)).eraseIdx (k + 1)) := by
  have e := split2 hk
  have h := addAt_both (P := L.take k) (S := L.drop (k + 1 + 1)) (p := L[k]) (s := L[k + 1]) (r := r) (by rw [← e]; exact hT) hr hd hu
  rw [← e] at h
  have e2 : (L.set k ((L[k]).1, (L[k + 1]).2)).eraseIdx (k + 1) = L.take k ++ [((L[k]).1, (L[k + 1]).2)] ++ L.drop (k + 1 + 1) := by
    rw [List.eraseIdx_eq_take_drop_succ, List.set_eq_take_append_cons_drop, if_pos (by omega)]
    have hl : (L.take k).length = k := by rw [List.length_take]; omega
    rw [List.take_append, List.drop_append, hl, List.take_take, show k + 1 - k = 1 by omega, show k + 1 + 1 - k = 2 by omega, Nat.min_eq_right (by omega), List.drop_eq_nil_of_le (show (L.take k).length ≤ k + 1 + 1 by omega)]
    simp
  rw [e2]
  exact h
/-! ### The reference's own list with one more range -/
def jstep (t s : R) : R := if s.2 = t.1 then (s.1, t.2) else if t.2 = s.1 then (t.1, s.2) else t
def joinR (L : List R) (r : R) : R := L.foldl jstep r
theorem joinR_take (L : List R) (r : R) (k : Nat) (hk : k < L.length) : joinR (L.take (k + 1)) r = jstep (joinR (L.take k) r) L[k] := by
  unfold joinR; rw [List.take_succ_eq_append_getElem hk, List.foldl_append]; rfl
structure JoinAt (A B : List R) (r t : R) : Prop where
  lo : t.1 ≤ r.1
  hi : r.2 ≤ t.2
  old : ∀ s ∈ A, s.2 < t.1 ∨ (t.1 ≤ s.1 ∧ s.2 ≤ t.2) ∨ t.2 < s.1
  next : ∀ s ∈ B, s.2 ≤ t.1 ∨ t.2 ≤ s.1
  cov : ∀ x, t.1 ≤ x → x < t.2 → (r.1 ≤ x ∧ x < r.2) ∨ ∃ s ∈ A, s.1 ≤ x ∧ x < s.2
theorem JoinAt.step {A B : List R} {r t s : R} (hT : Td (A ++ s :: B)) (hr : r.1 < r.2) (h : JoinAt A (s :: B) r t) : JoinAt (A ++ [s]) B r (jstep t s) := by
  obtain ⟨h1, h2, h3⟩ := (td_append _ _).1 hT
  obtain ⟨h4, h5, h6⟩ := (td_cons _ _).1 h2
  have ha : ∀ a ∈ A, a.1 < a.2 ∧ a.2 < s.1 := fun a ha => ⟨h1.pos ha, h3 a ha s (List.mem_cons_self ..)⟩
  have hb : ∀ b ∈ B, b.1 < b.2 ∧ s.2 < b.1 := fun b hb => ⟨h6.pos hb, h5 b hb⟩
  have hlo := h.lo
  have hhi := h.hi
  have hs := h.next s (List.mem_cons_self ..)
  unfold jstep
  by_cases e1 : s.2 = t.1
  · rw [if_pos e1]
    refine ⟨by simp only; omega, hhi, fun a hA => ?_, fun b hB => ?_, fun x hx1 hx2 => ?_⟩
    · rcases List.mem_append.1 hA with hA | hA
      · have := ha a hA; simp only; omega
      · obtain rfl := List.mem_singleton.1 hA; simp only; omega
    · have := hb b hB; have := h.next b (List.mem_cons_of_mem _ hB); simp only; omega
    · simp only at hx1 hx2
      by_cases hx : t.1 ≤ x
      · rcases h.cov x hx hx2 with h | ⟨u, hu, h⟩
        · exact .inl h
        · exact .inr ⟨u, List.mem_append_left _ hu, h⟩
      · exact .inr ⟨s, List.mem_append_right _ (List.mem_singleton.2 rfl), by omega, by omega⟩
  · rw [if_neg e1]
    by_cases e2 : t.2 = s.1
    · rw [if_pos e2]
      refine ⟨hlo, by simp only; omega, fun a hA => ?_, fun b hB => ?_, fun x hx1 hx2 => ?_⟩
      · rcases List.mem_append.1 hA with hA | hA
        · have := ha a hA; have := h.old a hA; simp only; omega
        · obtain rfl := List.mem_singleton.1 hA; simp only; omega
      · have := hb b hB; simp only; omega
      · simp only at hx1 hx2
        by_cases hx : x < t.2
        · rcases h.cov x hx1 hx with h | ⟨u, hu, h⟩
          · exact .inl h
          · exact .inr ⟨u, List.mem_append_left _ hu, h⟩
        · exact .inr ⟨s, List.mem_append_right _ (List.mem_singleton.2 rfl), by omega, by omega⟩
    · rw [if_neg e2]
      refine ⟨hlo, hhi, fun a hA => ?_, fun b hB => h.next b (List.mem_cons_of_mem _ hB), fun x hx1 hx2 => ?_⟩
      · rcases List.mem_append.1 hA with hA | hA
        · exact h.old a hA
        · obtain rfl := List.mem_singleton.1 hA; omega
      · rcases h.cov x hx1 hx2 with h | ⟨u, hu, h⟩
        · exact .inl h
        · exact .inr ⟨u, List.mem_append_left _ hu, h⟩
theorem joinR_at' : ∀ (B A : List R) (r t : R), Td (A ++ B) → r.1 < r.2 → JoinAt A B r t → JoinAt (A ++ B) [] r (joinR B t)
  | [], A, r, t, _, _, h => by rw [List.append_nil]; exact h
  | s :: B, A, r, t, hT, hr, h => by
    have e : A ++ s :: B = (A ++ [s]) ++ B := by simp
    have := joinR_at' B (A ++ [s]) r (jstep t s) (by rw [← e]; exact hT) hr (h.step hT hr)
    rw [← e] at this
    exact this
theorem joinR_at {L : List R} {r : R} (hT : Td L) (hr : r.1 < r.2) (hA : ApartL L r) : JoinAt L [] r (joinR L r) :=
  joinR_at' L [] r r hT hr ⟨Int.le_refl _, Int.le_refl _, by simp, hA, fun x h1 h2 => .inl ⟨h1, h2⟩⟩
/-- The second loop: what is gathered, and whether the new range is in. -/
def jput (t : R) (p : List R × Bool) (s : R) : List R × Bool :=
  (p.1 ++ (if p.2 = false ∧ t.1 ≤ s.1 then [t] else []) ++ (if apB s.1 s.2 t.1 t.2 then [s] else []), p.2 || decide (t.1 ≤ s.1))
def joinO (t : R) (L : List R) : List R × Bool := L.foldl (jput t) ([], false)
theorem joinO_take (t : R) (L : List R) (k : Nat) (hk : k < L.length) : joinO t (L.take (k + 1)) = jput t (joinO t (L.take k)) L[k] := by
  unfold joinO; rw [List.take_succ_eq_append_getElem hk, List.foldl_append]; rfl
theorem joinO_len (t : R) (L : List R) : (joinO t L).1.length ≤ 2 * L.length := by
  have key : ∀ (L : List R) (p : List R × Bool), (L.foldl (jput t) p).1.length ≤ p.1.length + 2 * L.length := by
    intro L
    induction L with
    | nil => intro p; simp
    | cons s L ih =>
      intro p
      have h := ih (jput t p s)
      have h2 : (jput t p s).1.length ≤ p.1.length + 2 := by
        unfold jput
        simp only [List.length_append]
        split <;> split <;> simp
      simp only [List.foldl_cons, List.length_cons]
      omega
  have := key L ([], false)
  simpa [joinO] using this
/-- The reference's list. -/
def joinL (L : List R) (r : R) : List R := (joinO (joinR L r) L).1 ++ (if (joinO (joinR L r) L).2 = false then [joinR L r] else [])
structure PutAt (t : R) (A o : List R) (d : Bool) : Prop where
  off : d = false → o = A ∧ ∀ s ∈ A, s.2 < t.1
  on : d = true → ∃ P Q, o = P ++ [t] ++ Q ∧ (P ++ Q).Sublist A ∧ (∀ p ∈ P, p.2 < t.1) ∧ (∀ q ∈ Q, t.2 < q.1) ∧ (∀ s ∈ A, s ∈ P ∨ s ∈ Q ∨ (t.1 ≤ s.1 ∧ s.2 ≤ t.2)) ∧ ∃ s ∈ A, t.1 ≤ s.1
theorem PutAt.step {A B : List R} {t s : R} {p : List R × Bool} (hT : Td (A ++ s :: B)) (ht : t.1 < t.2) (hJ : s.2 < t.1 ∨ (t.1 ≤ s.1 ∧ s.2 ≤ t.2) ∨ t.2 < s.1) (h : PutAt t A p.1 p.2) :
    PutAt t (A ++ [s]) (jput t p s).1 (jput t p s).2 := by
  obtain ⟨h1, h2, h3⟩ := (td_append _ _).1 hT
  obtain ⟨h4, h5, h6⟩ := (td_cons _ _).1 h2
  have ha : ∀ a ∈ A, a.2 < s.1 := fun a ha => h3 a ha s (List.mem_cons_self ..)
  obtain ⟨o, d⟩ := p
  simp only at h
  have hap : apB s.1 s.2 t.1 t.2 = decide (s.2 < t.1 ∨ t.2 < s.1) := by
    unfold apB
    rw [Bool.eq_iff_iff, Bool.or_eq_true, decide_eq_true_iff, decide_eq_true_iff, decide_eq_true_iff]
    omega
  unfold jput
  simp only [hap]
  cases d with
  | false =>
    obtain ⟨rfl, hlt⟩ := h.off rfl
    by_cases hs : t.1 ≤ s.1
    · have hd : (false || decide (t.1 ≤ s.1)) = true := by simpa using hs
      rw [if_pos ⟨rfl, hs⟩, hd]
      refine ⟨(fun e => by cases e), fun _ => ?_⟩
      by_cases hs2 : t.2 < s.1
      · rw [if_pos (by simp; omega)]
        refine ⟨o, [s], rfl, List.Sublist.refl _, hlt, fun q hq => by obtain rfl := List.mem_singleton.1 hq; exact hs2, fun u hu => ?_, s, by simp, hs⟩
        rcases List.mem_append.1 hu with hu | hu
        · exact .inl hu
        · exact .inr (.inl hu)
      · rw [if_neg (by simp; omega)]
        refine ⟨o, [], rfl, by simp, hlt, by simp, fun u hu => ?_, s, by simp, hs⟩
        rcases List.mem_append.1 hu with hu | hu
        · exact .inl hu
        · obtain rfl := List.mem_singleton.1 hu
          exact .inr (.inr (by omega))
    · have hd : (false || decide (t.1 ≤ s.1)) = false := by simpa using hs
      rw [if_neg (by omega), if_pos (by simp; omega), hd]
      refine ⟨fun _ => ⟨by simp, fun u hu => ?_⟩, fun e => by cases e⟩
      rcases List.mem_append.1 hu with hu | hu
      · exact hlt u hu
      · obtain rfl := List.mem_singleton.1 hu; omega
  | true =>
    obtain ⟨P, Q, rfl, hsub, hP, hQ, hall, u, hu, hut⟩ := h.on rfl
    have hus := ha u hu
    have hup := h1.pos hu
    rw [if_neg (by simp), Bool.true_or, List.append_nil]
    refine ⟨(fun e => by cases e), fun _ => ?_⟩
    by_cases hs2 : t.2 < s.1
    · rw [if_pos (by simp; omega)]
      refine ⟨P, Q ++ [s], by simp, ?_, hP, fun q hq => ?_, fun v hv => ?_, u, List.mem_append_left _ hu, hut⟩
      · rw [← List.append_assoc]; exact hsub.append (List.Sublist.refl _)
      · rcases List.mem_append.1 hq with hq | hq
        · exact hQ q hq
        · obtain rfl := List.mem_singleton.1 hq; exact hs2
      · rcases List.mem_append.1 hv with hv | hv
        · rcases hall v hv with h | h | h
          · exact .inl h
          · exact .inr (.inl (List.mem_append_left _ h))
          · exact .inr (.inr h)
        · exact .inr (.inl (List.mem_append_right _ hv))
    · rw [if_neg (by simp; omega), List.append_nil]
      refine ⟨P, Q, rfl, hsub.trans (List.sublist_append_left _ _), hP, hQ, fun v hv => ?_, u, List.mem_append_left _ hu, hut⟩
      rcases List.mem_append.1 hv with hv | hv
      · exact hall v hv
      · obtain rfl := List.mem_singleton.1 hv; exact .inr (.inr (by omega))
theorem putAt' (t : R) (ht : t.1 < t.2) : ∀ (B A : List R) (p : List R × Bool), Td (A ++ B) → (∀ s ∈ A ++ B, s.2 < t.1 ∨ (t.1 ≤ s.1 ∧ s.2 ≤ t.2) ∨ t.2 < s.1) → PutAt t A p.1 p.2 → PutAt t (A ++ B) (B.foldl (jput t) p).1 (B.foldl (jput t) p).2
  | [], A, p, _, _, h => by rw [List.append_nil]; exact h
  | s :: B, A, p, hT, hJ, h => by
    have e : A ++ s :: B = (A ++ [s]) ++ B := by simp
    have := putAt' t ht B (A ++ [s]) (jput t p s) (by rw [← e]; exact hT) (by rw [← e]; exact hJ) (h.step hT ht (hJ s (by simp)))
    rw [← e] at this
    exact this
theorem joinL_at {L : List R} {r : R} (hT : Td L) (hr : r.1 < r.2) (hA : ApartL L r) : Td (joinL L r) ∧ ∀ x, hasL (joinL L r) x = (hasL L x || hasB r.1 r.2 x) := by
  have hJ := joinR_at hT hr hA
  have hlo := hJ.lo
  have hhi := hJ.hi
  have hO := putAt' (joinR L r) (by omega) L [] ([], false) hT (by simpa using hJ.old) ⟨fun _ => ⟨rfl, by simp⟩, fun e => by cases e⟩
  rw [List.nil_append] at hO
  have key : ∃ P Q, joinL L r = P ++ [joinR L r] ++ Q ∧ (P ++ Q).Sublist L ∧ (∀ p ∈ P, p.2 < (joinR L r).1) ∧ (∀ q ∈ Q, (joinR L r).2 < q.1) ∧ (∀ s ∈ L, s ∈ P ∨ s ∈ Q ∨ ((joinR L r).1 ≤ s.1 ∧ s.2 ≤ (joinR L r).2)) := by
    unfold joinL joinO
    generalize List.foldl (jput (joinR L r)) ([], false) L = p at hO ⊢
    obtain ⟨o, d⟩ := p
    cases d with
    | false =>
      obtain ⟨h1, h2⟩ := hO.off rfl
      simp only at h1
      exact ⟨o, [], by simp, by rw [h1]; simp, by rw [h1]; exact h2, by simp, fun s hs => .inl (by rw [h1]; exact hs)⟩
    | true =>
      obtain ⟨P, Q, h1, h2, h3, h4, h5, _⟩ := hO.on rfl
      simp only at h1
      exact ⟨P, Q, by rw [h1]; simp, h2, h3, h4, h5⟩
  obtain ⟨P, Q, e, hsub, hP, hQ, hall⟩ := key
  have hPQ : Td (P ++ Q) := by
    obtain ⟨t1, t2⟩ := (td_iff _).1 hT
    exact (td_iff _).2 ⟨fun s hs => t1 s (hsub.subset hs), t2.sublist hsub⟩
  obtain ⟨k1, k2, k3⟩ := (td_append _ _).1 hPQ
  rw [e]
  refine ⟨?_, fun x => ?_⟩
  · rw [td_append, td_append]
    refine ⟨⟨k1, (td_cons _ _).2 ⟨by omega, by simp, td_nil⟩, fun a ha b hb => ?_⟩, k2, fun a ha b hb => ?_⟩
    · obtain rfl := List.mem_singleton.1 hb
      exact hP a ha
    · rcases List.mem_append.1 ha with ha | ha
      · exact k3 a ha b hb
      · obtain rfl := List.mem_singleton.1 ha
        exact hQ b hb
  · rw [Bool.eq_iff_iff, Bool.or_eq_true, hasL_mem, hasL_mem, hasB_iff]
    constructor
    · rintro ⟨s, hs, h1, h2⟩
      rcases List.mem_append.1 hs with hs | hs
      · rcases List.mem_append.1 hs with hs | hs
        · exact .inl ⟨s, hsub.subset (List.mem_append_left _ hs), h1, h2⟩
        · obtain rfl := List.mem_singleton.1 hs
          rcases hJ.cov x h1 h2 with h | h
          · exact .inr h
          · exact .inl h
      · exact .inl ⟨s, hsub.subset (List.mem_append_right _ hs), h1, h2⟩
    · rintro (⟨s, hs, h1, h2⟩ | ⟨h1, h2⟩)
      · rcases hall s hs with h | h | h
        · exact ⟨s, by simp [h], h1, h2⟩
        · exact ⟨s, by simp [h], h1, h2⟩
        · exact ⟨joinR L r, by simp, by omega, by omega⟩
      · exact ⟨joinR L r, by simp, by omega, by omega⟩
theorem AddAt.join {L M : List R} {r : R} (h : AddAt L r M) (hT : Td L) (hr : r.1 < r.2) (hA : ApartL L r) : M = joinL L r :=
  h.is (joinL_at hT hr hA).1 fun x => ((joinL_at hT hr hA).2 x).symm
/-! ### Ranges that have no address in common -/
theorem apart_of {M : List R} {r : R} (hT : Td M) (hr : r.1 < r.2) (h : ∀ x, r.1 ≤ x → x < r.2 → hasL M x = false) : ApartL M r := fun s hs => by
  have hp := hT.pos hs
  by_cases h1 : s.2 ≤ r.1
  · exact .inl h1
  · refine .inr (Decidable.byContradiction fun h2 => ?_)
    have h3 := h (max s.1 r.1) (by omega) (by omega)
    rw [(hasL_mem _ _).2 ⟨s, hs, by omega, by omega⟩] at h3
    cases h3
def meetsB (L : List R) (r : R) : Bool := L.any fun s => !apB s.1 s.2 r.1 r.2
theorem meetsB_no {L : List R} {r : R} : meetsB L r = false ↔ ApartL L r := by
  unfold meetsB ApartL apB
  rw [List.any_eq_false]
  constructor
  · intro h s hs; have := h s hs; simp at this; omega
  · intro h s hs; have := h s hs; simp; omega
theorem meetsB_take (L : List R) (r : R) (k : Nat) (hk : k < L.length) : meetsB (L.take (k + 1)) r = (meetsB (L.take k) r || !apB (L[k]).1 (L[k]).2 r.1 r.2) := by
  unfold meetsB; rw [List.take_succ_eq_append_getElem hk, List.any_append]; simp only [List.any_cons, List.any_nil, Bool.or_false]
theorem meetsB_mono (L : List R) (r : R) (k : Nat) (hk : k < L.length) (h : apB (L[k]).1 (L[k]).2 r.1 r.2 = false) : meetsB L r = true := by
  unfold meetsB
  rw [List.any_eq_true]
  exact ⟨_, List.getElem_mem hk, by rw [h]; rfl⟩
theorem AddAt.apart {L M : List R} {r s : R} (h : AddAt L r M) (hs : s.1 < s.2) (hA : ApartL L s) (hrs : r.2 ≤ s.1 ∨ s.2 ≤ r.1) : ApartL M s :=
  apart_of h.td hs fun x h1 h2 => by
    rw [h.has, Bool.or_eq_false_iff]
    refine ⟨?_, ?_⟩
    · rw [← Bool.not_eq_true, hasL_mem]
      rintro ⟨t, ht, h3, h4⟩
      have := hA t ht
      omega
    · rw [← Bool.not_eq_true, hasB_iff]; omega
/-! ### The cut at a place -/
theorem belowL_app (L M : List R) (x : Int) : belowL (L ++ M) x = belowL L x ++ belowL M x := by simp [belowL]
theorem belowL_id : ∀ (L : List R) (x : Int), (∀ r ∈ L, r.1 < r.2 ∧ r.2 ≤ x) → belowL L x = L
  | [], _, _ => rfl
  | r :: L, x, h => by
    have h1 := belowL_id L x (fun s hs => h s (List.mem_cons_of_mem _ hs))
    have h2 := h r (List.mem_cons_self ..)
    rw [belowL_cons, h1]
    unfold cutR
    rw [if_neg (by omega), if_pos h2.1]
    rfl
theorem belowL_none : ∀ (L : List R) (x : Int), (∀ r ∈ L, r.1 < r.2 ∧ x ≤ r.1) → belowL L x = []
  | [], _, _ => rfl
  | r :: L, x, h => by
    have h1 := belowL_none L x (fun s hs => h s (List.mem_cons_of_mem _ hs))
    have h2 := h r (List.mem_cons_self ..)
    rw [belowL_cons, h1]
    unfold cutR
    rw [if_pos (by omega), if_neg (by omega)]
    rfl
theorem cut_zero {L : List R} {x : Int} (hT : Td L) (hS : SuccAt L x 0) : belowL L x = [] := belowL_none _ _ fun r hr => by
  obtain ⟨j, hj, rfl⟩ := List.getElem_of_mem hr
  have := hS.hi j hj (by omega)
  exact ⟨hT.ne j hj, by omega⟩
theorem cut_succ {L : List R} {x : Int} {k : Nat} (hT : Td L) (hS : SuccAt L x (k + 1)) (hk : k < L.length) : belowL L x = L.take k ++ cutR x L[k] := by
  have h1 : belowL (L.take k) x = L.take k := belowL_id _ _ fun r hr => by
    obtain ⟨j, hj, rfl⟩ := List.getElem_of_mem hr
    rw [List.length_take] at hj
    rw [List.getElem_take]
    have := hT.up j k (by omega) hk (by omega)
    have := hS.lo k hk (by omega)
    exact ⟨hT.ne j (by omega), by omega⟩
  have h2 : belowL (L.drop (k + 1)) x = [] := belowL_none _ _ fun r hr => by
    obtain ⟨j, hj, rfl⟩ := List.getElem_of_mem hr
    rw [List.length_drop] at hj
    rw [List.getElem_drop]
    have := hS.hi (k + 1 + j) (by omega) (by omega)
    exact ⟨hT.ne _ (by omega), by omega⟩
  have e : belowL L x = belowL (L.take k ++ [L[k]] ++ L.drop (k + 1)) x := by rw [← split1 hk]
  rw [e, belowL_app, belowL_app, h1, h2, belowL_cons]
  simp [belowL]
theorem tot_split {L : List R} {k : Nat} (hk : k < L.length) : totL L = totL (L.take k) + szI (L[k]).1 (L[k]).2 + totL (L.drop (k + 1)) := by
  have e : totL L = totL (L.take k ++ [L[k]] ++ L.drop (k + 1)) := by rw [← split1 hk]
  rw [e, totL_append, totL_append, totL_cons, show totL [] = 0 from rfl]
  omega
theorem set_last {L : List R} {k : Nat} (hk : k < L.length) (s : R) : (L.set k s).take (k + 1) = L.take k ++ [s] := by
  rw [List.set_eq_take_append_cons_drop, if_pos hk, List.take_append, List.length_take, Nat.min_eq_left (by omega), show k + 1 - k = 1 by omega, List.take_of_length_le (by rw [List.length_take]; omega)]
  rfl
/-- The three ways of the cut. -/
theorem cut_hit {L : List R} {x : Int} {k : Nat} (hT : Td L) (hS : SuccAt L x (k + 1)) (hk : k < L.length) (h1 : (L[k]).1 < x) (h2 : x < (L[k]).2) :
    belowL L x = (L.set k ((L[k]).1, x)).take (k + 1) ∧ totL (belowL L x) = totL (L.take k) + (x - (L[k]).1) := by
  have e : belowL L x = L.take k ++ [((L[k]).1, x)] := by
    rw [cut_succ hT hS hk]; unfold cutR; rw [if_pos h2, if_pos h1]
  rw [set_last hk, e, totL_append, totL_cons, show totL [] = 0 from rfl, szI_pos h1]
  exact ⟨rfl, by omega⟩
theorem cut_base {L : List R} {x : Int} {k : Nat} (hT : Td L) (hS : SuccAt L x (k + 1)) (hk : k < L.length) (h1 : (L[k]).1 = x) : belowL L x = L.take k := by
  have h2 := hT.ne k hk
  rw [cut_succ hT hS hk]; unfold cutR; rw [if_pos (by omega), if_neg (by omega), List.append_nil]
theorem cut_gap {L : List R} {x : Int} {k : Nat} (hT : Td L) (hS : SuccAt L x (k + 1)) (hk : k < L.length) (h2 : (L[k]).2 ≤ x) : belowL L x = L.take (k + 1) ∧ totL (belowL L x) = totL (L.take k) + ((L[k]).2 - (L[k]).1) := by
  have h3 := hT.ne k hk
  have e : belowL L x = L.take k ++ [L[k]] := by
    rw [cut_succ hT hS hk]; unfold cutR; rw [if_neg (by omega), if_pos h3]
  rw [List.take_succ_eq_append_getElem hk, e, totL_append, totL_cons, show totL [] = 0 from rfl, szI_pos h3]
  exact ⟨rfl, by omega⟩
end Go.Proofs.Ytnmljgjcdofboaa
