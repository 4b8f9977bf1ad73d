/- Lists of ranges in memory, and the loops that copy them. -/
import Derived.Test.YtnmljgjcdofboaaRh
import Derived.Laws.CopyOwn
import Derived.Deep.AppendLies
namespace Go.Proofs.Ytnmljgjcdofboaa
open Go.RowKit
set_option linter.unusedVariables false
set_option linter.unusedSimpArgs false

/-- A range: its base and its limit. -/
abbrev R := Int × Int
/-- The cells of a list of ranges. -/
def cellsL (L : List R) : List Value := L.flatMap fun r => [.int .u64 r.1, .int .u64 r.2]
theorem cellsL_nil : cellsL [] = [] := rfl
theorem cellsL_cons (r : R) (L : List R) : cellsL (r :: L) = .int .u64 r.1 :: .int .u64 r.2 :: cellsL L := rfl
theorem cellsL_append (L M : List R) : cellsL (L ++ M) = cellsL L ++ cellsL M := by simp [cellsL]
theorem cellsL_length (L : List R) : (cellsL L).length = L.length * 2 := by
  induction L with
  | nil => rfl
  | cons r L ih => rw [cellsL_cons, List.length_cons, List.length_cons, List.length_cons, ih]; omega
theorem cellsL_at : ∀ (L : List R) (i : Nat) (r : R), L[i]? = some r → (cellsL L)[i * 2]? = some (.int .u64 r.1) ∧ (cellsL L)[i * 2 + 1]? = some (.int .u64 r.2)
  | r :: L, 0, s, h => by
    simp only [List.getElem?_cons_zero, Option.some.injEq] at h
    subst h
    rw [cellsL_cons]
    exact ⟨rfl, rfl⟩
  | r :: L, i + 1, s, h => by
    have := cellsL_at L i s (by simpa using h)
    rw [cellsL_cons, show (i + 1) * 2 = i * 2 + 1 + 1 by omega]
    simpa using this
  | [], i, s, h => by simp at h
theorem cellsL_one (L : List R) : ∀ u ∈ cellsL L, u.oneCell' = true := by
  intro u hu
  simp only [cellsL, List.mem_flatMap] at hu
  obtain ⟨r, _, hu⟩ := hu
  simp only [List.mem_cons, List.not_mem_nil, or_false] at hu
  rcases hu with rfl | rfl <;> rfl

/-- The slice with address A, of length L.length and capacity c, holds the list L. -/
structure SlAt (w : World) (A : Option Addr) (c : Nat) (L : List R) : Prop where
  cap : L.length ≤ c
  max : c ≤ maxLen
  cell : L = [] ∨ ∃ g, A = some ⟨g, 0, none⟩ ∧ ∀ j u, (cellsL L)[j]? = some u → w.cell? ⟨g, j, none⟩ = some u
theorem SlAt.keep {w w1 : World} {A : Option Addr} {c : Nat} {L : List R} {B : Nat} (h : SlAt w A c L) (n : ∀ b o, b < w.heap.size → w1.cell? ⟨b, o, none⟩ = w.cell? ⟨b, o, none⟩) : SlAt w1 A c L :=
  ⟨h.cap, h.max, h.cell.imp id fun ⟨g, e, hc⟩ => ⟨g, e, fun j u hu => (n _ _ (World.block_lt_of_cell? w _ (hc j u hu))).trans (hc j u hu)⟩⟩
theorem SlAt.nx {w w1 : World} {A : Option Addr} {c : Nat} {L : List R} (h : SlAt w A c L) (n : Nx w w1) : SlAt w1 A c L :=
  h.keep (B := 0) fun b o hb => Below.cell n (p := ⟨b, o, none⟩) hb
theorem SlAt.drew {w : World} {A : Option Addr} {c : Nat} {L : List R} (h : SlAt w A c L) : SlAt w.drew A c L := ⟨h.cap, h.max, h.cell⟩
theorem SlAt.alloc {w : World} {A : Option Addr} {c : Nat} {L : List R} (h : SlAt w A c L) (o : Obj) : SlAt (w.alloc o) A c L :=
  h.keep (B := 0) fun b o hb => World.cell?_alloc_lt w _ _ hb
theorem SlAt.below {w w1 : World} {A : Option Addr} {c : Nat} {L : List R} {B : Nat} (h : SlAt w A c L) (n : Below B w w1) (hB : w.heap.size ≤ B) : SlAt w1 A c L :=
  h.keep (B := 0) fun b o hb => Below.cell n (p := ⟨b, o, none⟩) (Nat.lt_of_lt_of_le hb hB)
theorem SlAt.at {w : World} {A : Option Addr} {c : Nat} {L : List R} (h : SlAt w A c L) {i : Nat} (hi : i < L.length) :
    ∃ g, A = some ⟨g, 0, none⟩ ∧ g < w.heap.size ∧ w.cell? ⟨g, i * 2, none⟩ = some (.int .u64 (L[i]).1) ∧ w.cell? ⟨g, i * 2 + 1, none⟩ = some (.int .u64 (L[i]).2) := by
  rcases h.cell with rfl | ⟨g, e, hc⟩
  · simp at hi
  · obtain ⟨h1, h2⟩ := cellsL_at L i L[i] (List.getElem?_eq_getElem hi)
    exact ⟨g, e, World.block_lt_of_cell? w _ (hc _ _ h1), hc _ _ h1, hc _ _ h2⟩
/-- What the call itself has gathered. -/
theorem SlAt.of_own {w : World} {base : Nat} {e : TypeId} {v : Value} {L : List R} (h : w.ownsRow base e 2 v L.length (cellsL L)) : ∃ A c, v = .slice A L.length c ∧ SlAt w A c L := by
  rcases h.2 with ⟨rfl, h0⟩ | ⟨g, cap, cur, rfl, hb, hg, hn, hm, hs, ht⟩
  · have : L = [] := List.eq_nil_of_length_eq_zero h0
    subst this
    exact ⟨none, 0, rfl, ⟨Nat.le_refl _, Nat.zero_le _, .inl rfl⟩⟩
  · refine ⟨_, cap, rfl, ⟨hn, hm, .inr ⟨g, rfl, fun j u hu => ?_⟩⟩⟩
    have hc := h.cells (g := g) rfl j u hu
    have hadd : (⟨g, 0, none⟩ : Addr).add j = ⟨g, j, none⟩ := by unfold Addr.add; split <;> simp_all
    rwa [hadd] at hc

/-- A result that is a list of ranges. -/
def RetL (L : List R) (w : World) (e : Ending) (w' : World) : Prop := ∃ A c, e = .returned (.slice A L.length c) ∧ SlAt w' A c L ∧ Nx w w'
/-- The same, in a block that was not there. -/
def RetLF (L : List R) (w : World) (e : Ending) (w' : World) : Prop := ∃ A c, e = .returned (.slice A L.length c) ∧ SlAt w' A c L ∧ Nx w w' ∧ ∀ a, A = some a → w.heap.size ≤ a.block
theorem RetLF.retL {L : List R} {w w' : World} {e : Ending} (h : RetLF L w e w') : RetL L w e w' := by
  obtain ⟨A, c, h1, h2, h3, _⟩ := h
  exact ⟨A, c, h1, h2, h3⟩
theorem SlAt.of_own' {w : World} {base : Nat} {e : TypeId} {v : Value} {L : List R} (h : w.ownsRow base e 2 v L.length (cellsL L)) : ∃ A c, v = .slice A L.length c ∧ SlAt w A c L ∧ ∀ a, A = some a → base ≤ a.block := by
  obtain ⟨A, c, rfl, hs⟩ := SlAt.of_own h
  refine ⟨A, c, rfl, hs, fun a ha => ?_⟩
  subst ha
  exact (h.lt a.block rfl).1
theorem SlAt.set {w : World} {A : Option Addr} {c : Nat} {L : List R} (h : SlAt w A c L) (p : Addr) (v : Value) (hne : ∀ a, A = some a → a.block ≠ p.block) : SlAt (w.setCell p v) A c L :=
  ⟨h.cap, h.max, h.cell.imp id fun ⟨g, e, hc⟩ => ⟨g, e, fun j u hu => (World.cell?_setCell_other w p ⟨g, j, none⟩ v (fun e' => hne ⟨g, 0, none⟩ e (show g = p.block from (congrArg Addr.block e').symm))).trans (hc j u hu)⟩⟩
theorem retLF {L : List R} {w w' : World} {t : TypeId} {v : Value} (h : w'.ownsRow w.heap.size t 2 v L.length (cellsL L)) (n : Nx w w') : RetLF L w (.returned v) w' := by
  obtain ⟨A, c, rfl, hs, hf⟩ := SlAt.of_own' h
  exact ⟨A, c, rfl, hs, n, hf⟩
theorem retL {L : List R} {w w' : World} {base : Nat} {t : TypeId} {v : Value} (h : w'.ownsRow base t 2 v L.length (cellsL L)) (n : Nx w w') : RetL L w (.returned v) w' := by
  obtain ⟨A, c, rfl, hs⟩ := SlAt.of_own h
  exact ⟨A, c, rfl, hs, n⟩

theorem info_mRange : (Try.prog.info? 52).map (fun i => (i.zero, i.size, i.bytes)) = some (some (.agg #[.int .u64 0, .int .u64 0]), 2, 16) := by kernel_rfl
theorem info_iRange : (Try.prog.info? 24).map (fun i => (i.zero, i.size, i.bytes)) = some (some (.agg #[.int .u64 0, .int .u64 0]), 2, 16) := by kernel_rfl
theorem info_addrRange : (Try.prog.info? 67).map (fun i => (i.zero, i.size, i.bytes)) = some (some (.agg #[.int .u64 0, .int .u64 0]), 2, 16) := by kernel_rfl

/-- One more element has been gathered: what the round does to the relation. -/
theorem own_snoc {w1 : World} {base : Nat} {t : TypeId} {v' : Value} {L : List R} {k : Nat} (hk : k < L.length)
    (h : w1.ownsRow base t 2 v' (k + 1) (cellsL (L.take k) ++ [.int .u64 (L[k]).1, .int .u64 (L[k]).2])) :
    w1.ownsRow base t 2 v' (L.take (k + 1)).length (cellsL (L.take (k + 1))) := by
  have e : L.take (k + 1) = L.take k ++ [L[k]] := by rw [List.take_succ_eq_append_getElem hk]
  have e2 : (L.take (k + 1)).length = k + 1 := by rw [List.length_take]; omega
  rw [e2, e, cellsL_append]
  exact h

theorem pair_new (w : World) (a b : Value) (t : TypeId) {n : Nat} (h : n = w.heap.size) : ∀ j u, [a, b][j]? = some u → (w.alloc (.cells #[a, b] t)).cell? ((⟨n, 0, none⟩ : Addr).add j) = some u := by
  subst h
  exact World.news_of_block (cs := #[a, b]) (heap_alloc_new w _)
theorem igiven_any (A : Option Addr) (c : Nat) (L : List R) (w : World) (h : SlAt w A c L) (hn : L.length ≤ 65536) :
    Calls Try.prog 32 #[.slice A L.length c] w (RetL L w) := by
  obtain ⟨i0, hi, hz0, hz1, hz2⟩ := info_parts info_mRange
  go_enter Try.func32, Try.ntmps32
  go_wp2
  go_loopw [3, 8] (fun v i wr => ∃ k : Nat, k ≤ L.length ∧ i = .int .i64 k ∧ wr.ownsRow w.heap.size 52 2 v (L.take k).length (cellsL (L.take k)) ∧ Below w.heap.size w wr) (fun _ i _ => L.length - (intOf i).toNat)
  case atStart => exact ⟨0, Nat.zero_le _, rfl, World.ownsRow_nil _ _ _ _, Below.refl _ _⟩
  case round =>
    obtain ⟨k, hk, rfl, hown, hb⟩ := hrel
    by_cases hlt : k < L.length
    · obtain ⟨g, rfl, hg, hc0, hc1⟩ := (h.below hb (Nat.le_refl _)).at hlt
      have hsz := hb.size
      have hkl : (L.take k).length = k := by rw [List.length_take]; omega
      have hkm : (L.take k).length ≤ 65536 := by omega
      clear hkl
      go_wp2_with (first | (at_builtin; refine wpList_append_own _ rfl _ _ 54 rfl w.heap.size 52 i0 (.agg #[.int .u64 0, .int .u64 0]) 2 16 Try.underlying54 hi hz0 hz1 hz2 rfl (by decide) _ _ _ rfl ((hown.alloc _).alloc _) ⟨wr.heap.size + 1, 0, none⟩ 1 1 [.int .u64 (L[k]).1, .int .u64 (L[k]).2] rfl rfl ?c1 ?c2 ?c3 ?c4 ?c5 ?_))
      case c1 => exact pair_new _ _ _ _ (by simp)
      case c2 => intro u hu; simp only [List.mem_cons, List.not_mem_nil, or_false] at hu; rcases hu with rfl | rfl <;> rfl
      case c3 => unfold maxLen; omega
      case c4 => omega
      case c5 => simp; omega
      · intro v' w1 hown' hgrow _
        have hb1 : Below w.heap.size w w1 := ((hb.alloc hsz _).alloc (by simp; omega) _).grown hgrow (by simp; omega) (fun g' e => (hown.lt g' e).1)
        have hown2 := own_snoc hlt hown'
        clear hown' hgrow hown hb
        go_wp2
        go_roundw
        case rel => exact ⟨k + 1, by omega, by go_num, hown2, hb1⟩
        case measure => simp [intOf]; omega
    · have hkl : k = L.length := by omega
      subst hkl
      rw [List.take_length] at hown
      go_wp2
      go_ret
      exact retL hown hb
theorem itold_new (A : Option Addr) (c : Nat) (L : List R) (w : World) (h : SlAt w A c L) (hn : L.length ≤ 65536) :
    Calls Try.prog 33 #[.slice A L.length c] w (RetLF L w) := by
  obtain ⟨i0, hi, hz0, hz1, hz2⟩ := info_parts info_iRange
  go_enter Try.func33, Try.ntmps33
  go_wp2
  go_loopw [3, 8] (fun v i wr => ∃ k : Nat, k ≤ L.length ∧ i = .int .i64 k ∧ wr.ownsRow w.heap.size 24 2 v (L.take k).length (cellsL (L.take k)) ∧ Below w.heap.size w wr) (fun _ i _ => L.length - (intOf i).toNat)
  case atStart => exact ⟨0, Nat.zero_le _, rfl, World.ownsRow_nil _ _ _ _, Below.refl _ _⟩
  case round =>
    obtain ⟨k, hk, rfl, hown, hb⟩ := hrel
    by_cases hlt : k < L.length
    · obtain ⟨g, rfl, hg, hc0, hc1⟩ := (h.below hb (Nat.le_refl _)).at hlt
      have hsz := hb.size
      have hkl : (L.take k).length = k := by rw [List.length_take]; omega
      have hkm : (L.take k).length ≤ 65536 := by omega
      clear hkl
      go_wp2_with (first | (at_builtin; refine wpList_append_own _ rfl _ _ 28 rfl w.heap.size 24 i0 (.agg #[.int .u64 0, .int .u64 0]) 2 16 Try.underlying28 hi hz0 hz1 hz2 rfl (by decide) _ _ _ rfl ((hown.alloc _).alloc _) ⟨wr.heap.size + 1, 0, none⟩ 1 1 [.int .u64 (L[k]).1, .int .u64 (L[k]).2] rfl rfl ?c1 ?c2 ?c3 ?c4 ?c5 ?_))
      case c1 => exact pair_new _ _ _ _ (by simp)
      case c2 => intro u hu; simp only [List.mem_cons, List.not_mem_nil, or_false] at hu; rcases hu with rfl | rfl <;> rfl
      case c3 => unfold maxLen; omega
      case c4 => omega
      case c5 => simp; omega
      · intro v' w1 hown' hgrow _
        have hb1 : Below w.heap.size w w1 := ((hb.alloc hsz _).alloc (by simp; omega) _).grown hgrow (by simp; omega) (fun g' e => (hown.lt g' e).1)
        have hown2 := own_snoc hlt hown'
        clear hown' hgrow hown hb
        go_wp2
        go_roundw
        case rel => exact ⟨k + 1, by omega, by go_num, hown2, hb1⟩
        case measure => simp [intOf]; omega
    · have hkl : k = L.length := by omega
      subst hkl
      rw [List.take_length] at hown
      go_wp2
      go_ret
      exact retLF hown hb
theorem itold_any (A : Option Addr) (c : Nat) (L : List R) (w : World) (h : SlAt w A c L) (hn : L.length ≤ 65536) :
    Calls Try.prog 33 #[.slice A L.length c] w (RetL L w) := (itold_new A c L w h hn).mono fun _ _ h => h.retL
end Go.Proofs.Ytnmljgjcdofboaa
