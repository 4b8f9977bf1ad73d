/- spec.List: the list that numbers tell. -/
import Derived.Test.YtnmljgjcdofboaaOu
import Derived.ProofKit
import Derived.OpenShut
namespace Go.Proofs.Ytnmljgjcdofboaa
open Go.RowKit
set_option linter.unusedVariables false
set_option linter.unusedSimpArgs false

/-- What the walk is told of a slice of integers that came in: it is nil; or it leads to a row of 'cap' cells, the numbers 'zs' (the first 'len' are its elements, the rest its spare room), each fitting its kind. -/
def IsRow (k : IntKind) (w : World) (a : Option Addr) (len cap : Nat) (zs : List Int) : Prop :=
  (a = none ∧ len = 0 ∧ cap = 0 ∧ zs = []) ∨
  ∃ x, a = some x ∧ len ≤ cap ∧ cap ≤ maxLen ∧ zs.length = cap ∧ (∀ i, i < zs.length → w.cell? (x.add i) = some (.int k (zs.getD i 0))) ∧ ∀ n ∈ zs, (Lit.int k n).wf = true

/-- The end of the k-th range. -/
def atK (z : List Int) : Nat → Int
  | 0 => 0
  | k + 1 => atK z k + 1 + z.getD (2 * k) 0 + 1 + z.getD (2 * k + 1) 0
/-- The first k ranges of the list that the numbers z tell. -/
def genL (z : List Int) (k : Nat) : List R := (List.range k).map fun j => (atK z j + 1 + z.getD (2 * j) 0, atK z (j + 1))
theorem genL_length (z : List Int) (k : Nat) : (genL z k).length = k := by simp [genL]
theorem genL_succ (z : List Int) (k : Nat) : genL z (k + 1) = genL z k ++ [(atK z k + 1 + z.getD (2 * k) 0, atK z (k + 1))] := by
  simp [genL, List.range_succ]
theorem genL_at (z : List Int) (k i : Nat) (h : i < (genL z k).length) : (genL z k)[i] = (atK z i + 1 + z.getD (2 * i) 0, atK z (i + 1)) := by
  simp [genL]
/-- The numbers fit 16 bits. -/
def Z16 (z : List Int) : Prop := ∀ i, 0 ≤ z.getD i 0 ∧ z.getD i 0 ≤ 65535
theorem atK_bd {z : List Int} (h : Z16 z) : ∀ k, 0 ≤ atK z k ∧ atK z k ≤ k * 131072
  | 0 => by simp [atK]
  | k + 1 => by
    have h1 := atK_bd h k
    have h2 := h (2 * k)
    have h3 := h (2 * k + 1)
    simp only [atK]
    omega
theorem atK_mono {z : List Int} (h : Z16 z) (i : Nat) : ∀ d, atK z i ≤ atK z (i + d)
  | 0 => Int.le_refl _
  | d + 1 => by
    have h1 := atK_mono h i d
    have h2 := h (2 * (i + d))
    have h3 := h (2 * (i + d) + 1)
    rw [show i + (d + 1) = (i + d) + 1 by omega]
    simp only [atK]
    omega
theorem genL_td {z : List Int} (h : Z16 z) (k : Nat) : (∀ i (hi : i < (genL z k).length), ((genL z k)[i]).1 < ((genL z k)[i]).2) ∧ (∀ i j (hi : i < (genL z k).length) (hj : j < (genL z k).length), i < j → ((genL z k)[i]).2 < ((genL z k)[j]).1) := by
  refine ⟨fun i hi => ?_, fun i j hi hj hij => ?_⟩
  · rw [genL_at]
    have h2 := h (2 * i)
    have h3 := h (2 * i + 1)
    simp only [atK]
    omega
  · rw [genL_at, genL_at]
    have h1 := atK_mono h (i + 1) (j - (i + 1))
    rw [show i + 1 + (j - (i + 1)) = j by omega] at h1
    have h2 := h (2 * j)
    simp only
    omega
theorem genL_inB {z : List Int} (h : Z16 z) (k : Nat) (hk : k ≤ 32768) : ∀ r ∈ genL z k, 1 ≤ r.1 ∧ r.1 ≤ 4294967296 ∧ 1 ≤ r.2 ∧ r.2 ≤ 4294967296 := by
  intro r hr
  obtain ⟨i, hi, rfl⟩ := List.getElem_of_mem hr
  rw [genL_at]
  rw [genL_length] at hi
  have h1 := atK_bd h i
  have h4 := atK_bd h (i + 1)
  have h2 := h (2 * i)
  have h3 := h (2 * i + 1)
  simp only [atK] at h4 ⊢
  omega

set_option maxRecDepth 100000 in
set_option maxHeartbeats 2000000 in
theorem sList_some (b off len cap : Nat) (z : List Int) (w : World) (hl : len ≤ cap) (hm : cap ≤ maxLen) (hz : z.length = cap) (hc : ∀ i, i < z.length → w.cell? ⟨b, off + i, none⟩ = some (.int .u16 (z.getD i 0))) (h16 : Z16 z) :
    Calls Try.prog 16 #[.slice (some ⟨b, off, none⟩) len cap] w (RetL (genL z (min len 65536 / 2)) w) := by
  unfold maxLen at hm
  obtain ⟨i0, hi, hz0, hz1, hz2⟩ := info_parts info_iRange
  by_cases h6 : len ≤ 65536
  · go_enter Try.func16, Try.ntmps16
    go_wp2
    go_loopg [3, 4, 5] len (fun gn v a iv wr => ∃ k i : Nat, Hid (i = 2 * k) ∧ i ≤ len ∧ len - i ≤ gn ∧ iv = .int .i64 i ∧ a = .int .u64 (atK z k) ∧ wr.ownsRow w.heap.size 24 2 v k (cellsL (genL z k)) ∧ Below w.heap.size w wr)
    case atStart => exact ⟨0, 0, rfl, by omega, by omega, rfl, rfl, World.ownsRow_nil _ _ _ _, Below.refl _ _⟩
    case round =>
      obtain ⟨k, i, hik, hin, hgk, rfl, rfl, hown, hb⟩ := hrel
      by_cases hlt : i + 1 < len
      · have hki := hik.out
        have hat := atK_bd h16 k
        have hz0' := h16 i
        have hz1' := h16 (i + 1)
        have hbl := World.block_lt_of_cell? w _ (hc i (by omega))
        have hc0 := (Below.cell hb (p := ⟨b, off + i, none⟩) hbl).trans (hc i (by omega))
        have hc1 := (Below.cell hb (p := ⟨b, off + (i + 1), none⟩) hbl).trans (hc (i + 1) (by omega))
        have hstep : atK z (k + 1) = atK z k + 1 + z.getD i 0 + 1 + z.getD (i + 1) 0 := by rw [hki]; rfl
        have hgen : genL z (k + 1) = genL z k ++ [(atK z k + 1 + z.getD i 0, atK z (k + 1))] := by rw [hki]; exact genL_succ z k
        have hkb : k ≤ 32768 := by omega
        have hab : 0 ≤ atK z k ∧ atK z k ≤ 4294967296 := by omega
        clear hki hat
        generalize hZ0 : z.getD i 0 = z0 at hz0' hc0 hstep hgen
        generalize hZ1 : z.getD (i + 1) 0 = z1 at hz1' hc1 hstep
        generalize hA : atK z k = a0 at hstep hgen hab ⊢
        rw [hstep] at hgen
        have HS := Lib.hid (And.intro hstep hgen)
        clear hstep hgen hZ0 hZ1 hA
        have hsz := hb.size
        go_wp2_with (first | (at_builtin; refine wpList_append_own _ rfl _ _ 28 rfl w.heap.size 24 i0 (.agg #[.int .u64 0, .int .u64 0]) 2 16 Try.underlying28 hi hz0 hz1 hz2 rfl (by decide) _ _ _ rfl (hown.alloc _) ⟨wr.heap.size, 0, none⟩ 1 1 [.int .u64 (a0 + 1 + z0), .int .u64 (a0 + 1 + z0 + 1 + z1)] rfl rfl (pair_new _ _ _ _ rfl) (cellsL_one [(a0 + 1 + z0, a0 + 1 + z0 + 1 + z1)]) ?c3 ?c4 ?c5 ?_))
        case c3 => unfold maxLen; omega
        case c4 => omega
        case c5 => first | omega | (simp; omega)
        · intro v' w2 hown' hgrow _
          have hb2 : Below w.heap.size w w2 := (hb.alloc hsz _).grown hgrow (by simp; omega) (fun g' e => (hown.lt g' e).1)
          have hown2 : w2.ownsRow w.heap.size 24 2 v' (k + 1) (cellsL (genL z (k + 1))) := by rw [HS.out.2, cellsL_append]; exact hown'
          clear hown' hgrow hown hb
          go_wp2
          go_roundg (len - (i + 2))
          case measure => omega
          case rel => exact ⟨k + 1, i + 2, by have := hik.out; show i + 2 = 2 * (k + 1); omega, by omega, by omega, by go_num, by rw [HS.out.1], hown2, hb2⟩
      · have hki := hik.out
        have hke : k = min len 65536 / 2 := by omega
        clear hki
        have hlen : (genL z k).length = k := genL_length z k
        go_wp2
        go_ret
        rw [← hke]
        exact retL (by rw [hlen]; exact hown) hb
  · have h7 : 65536 < len := by omega
    go_enter Try.func16, Try.ntmps16
    go_wp2
    generalize hN : (65536 : Nat) = N
    have hN1 : N ≤ len := by omega
    have hN2 : N ≤ 65536 := by omega
    have hN3 : N = min len 65536 := by omega
    have HN := Lib.hid hN3
    clear hN hN3 h7
    go_loopg [3, 4, 5] N (fun gn v a iv wr => ∃ k i : Nat, Hid (i = 2 * k) ∧ i ≤ N ∧ N - i ≤ gn ∧ iv = .int .i64 i ∧ a = .int .u64 (atK z k) ∧ wr.ownsRow w.heap.size 24 2 v k (cellsL (genL z k)) ∧ Below w.heap.size w wr)
    case atStart => exact ⟨0, 0, rfl, by omega, by omega, rfl, rfl, World.ownsRow_nil _ _ _ _, Below.refl _ _⟩
    case round =>
      obtain ⟨k, i, hik, hin, hgk, rfl, rfl, hown, hb⟩ := hrel
      by_cases hlt : i + 1 < N
      · have hki := hik.out
        have hat := atK_bd h16 k
        have hz0' := h16 i
        have hz1' := h16 (i + 1)
        have hbl := World.block_lt_of_cell? w _ (hc i (by omega))
        have hc0 := (Below.cell hb (p := ⟨b, off + i, none⟩) hbl).trans (hc i (by omega))
        have hc1 := (Below.cell hb (p := ⟨b, off + (i + 1), none⟩) hbl).trans (hc (i + 1) (by omega))
        have hstep : atK z (k + 1) = atK z k + 1 + z.getD i 0 + 1 + z.getD (i + 1) 0 := by rw [hki]; rfl
        have hgen : genL z (k + 1) = genL z k ++ [(atK z k + 1 + z.getD i 0, atK z (k + 1))] := by rw [hki]; exact genL_succ z k
        have hkb : k ≤ 32768 := by omega
        have hab : 0 ≤ atK z k ∧ atK z k ≤ 4294967296 := by omega
        clear hki hat
        generalize hZ0 : z.getD i 0 = z0 at hz0' hc0 hstep hgen
        generalize hZ1 : z.getD (i + 1) 0 = z1 at hz1' hc1 hstep
        generalize hA : atK z k = a0 at hstep hgen hab ⊢
        rw [hstep] at hgen
        have HS := Lib.hid (And.intro hstep hgen)
        clear hstep hgen hZ0 hZ1 hA
        have hsz := hb.size
        go_wp2_with (first | (at_builtin; refine wpList_append_own _ rfl _ _ 28 rfl w.heap.size 24 i0 (.agg #[.int .u64 0, .int .u64 0]) 2 16 Try.underlying28 hi hz0 hz1 hz2 rfl (by decide) _ _ _ rfl (hown.alloc _) ⟨wr.heap.size, 0, none⟩ 1 1 [.int .u64 (a0 + 1 + z0), .int .u64 (a0 + 1 + z0 + 1 + z1)] rfl rfl (pair_new _ _ _ _ rfl) (cellsL_one [(a0 + 1 + z0, a0 + 1 + z0 + 1 + z1)]) ?c3 ?c4 ?c5 ?_))
        case c3 => unfold maxLen; omega
        case c4 => omega
        case c5 => first | omega | (simp; omega)
        · intro v' w2 hown' hgrow _
          have hb2 : Below w.heap.size w w2 := (hb.alloc hsz _).grown hgrow (by simp; omega) (fun g' e => (hown.lt g' e).1)
          have hown2 : w2.ownsRow w.heap.size 24 2 v' (k + 1) (cellsL (genL z (k + 1))) := by rw [HS.out.2, cellsL_append]; exact hown'
          clear hown' hgrow hown hb
          go_wp2
          go_roundg (N - (i + 2))
          case measure => omega
          case rel => exact ⟨k + 1, i + 2, by have := hik.out; show i + 2 = 2 * (k + 1); omega, by omega, by omega, by go_num, by rw [HS.out.1], hown2, hb2⟩
      · have hki := hik.out
        have hke : k = min len 65536 / 2 := by rw [← HN.out]; omega
        clear hki
        have hlen : (genL z k).length = k := genL_length z k
        go_wp2
        go_ret
        rw [← hke]
        exact retL (by rw [hlen]; exact hown) hb

theorem sList_empty (A : Option Addr) (cap : Nat) (z : List Int) (w : World) :
    Calls Try.prog 16 #[.slice A 0 cap] w (RetL (genL z (min 0 65536 / 2)) w) := by
  have e : genL z (min 0 65536 / 2) = [] := rfl
  rw [e]
  go_enter Try.func16, Try.ntmps16
  go_wp2
  go_loopg [3, 5] 0 (fun gn v iv wr => v = .slice none 0 0 ∧ iv = .int .i64 0 ∧ Below w.heap.size w wr)
  case atStart => exact ⟨rfl, rfl, Below.refl _ _⟩
  case round =>
    obtain ⟨rfl, rfl, hb⟩ := hrel
    go_wp2
    go_ret
    exact ⟨none, 0, rfl, ⟨Nat.le_refl _, Nat.zero_le _, .inl rfl⟩, hb⟩
theorem z16_of {z : List Int} (h : ∀ n ∈ z, (Lit.int .u16 n).wf = true) : Z16 z := fun i => by
  by_cases hi : i < z.length
  · have hm : z.getD i 0 ∈ z := by rw [List.getD_eq_getElem?_getD, List.getElem?_eq_getElem hi]; exact List.getElem_mem hi
    have := h _ hm
    simp [Lit.wf, IntKind.min, IntKind.max, IntKind.signed, IntKind.bits] at this
    rw [List.getD_eq_getElem?_getD]
    omega
  · have : z.getD i 0 = 0 := by rw [List.getD_eq_getElem?_getD, List.getElem?_eq_none (by omega)]; rfl
    rw [this]
    omega
theorem IsRow.z16 {w : World} {a : Option Addr} {len cap : Nat} {z : List Int} (h : IsRow .u16 w a len cap z) : Z16 z := by
  rcases h with ⟨_, _, _, rfl⟩ | ⟨x, _, _, _, _, _, hw⟩
  · exact z16_of (by simp)
  · exact z16_of hw
theorem sList_any (a : Option Addr) (len cap : Nat) (z : List Int) (w : World) (h : IsRow .u16 w a len cap z) :
    Calls Try.prog 16 #[.slice a len cap] w (RetL (genL z (min len 65536 / 2)) w) := by
  by_cases h0 : len = 0
  · subst h0
    exact sList_empty a cap z w
  · have h16 := h.z16
    rcases h with ⟨_, hl, _⟩ | ⟨x, rfl, hl, hm, hz, hc, _⟩
    · omega
    · obtain ⟨b, off, spot⟩ := x
      have hspot : spot = none := by simpa [Addr.add] using World.cell?_spot (hc 0 (by omega))
      subst hspot
      refine sList_some b off len cap z w hl hm hz (fun i hi => ?_) h16
      have := hc i hi
      have hadd : (⟨b, off, none⟩ : Addr).add i = ⟨b, off + i, none⟩ := by unfold Addr.add; split <;> simp_all
      rwa [hadd] at this
/-- The list that the law speaks of: how many ranges, and its bounds. -/
theorem genL_td' {z : List Int} (h : Z16 z) (k : Nat) : Td (genL z k) := ⟨(genL_td h k).1, (genL_td h k).2⟩
theorem genL_InB {z : List Int} (h : Z16 z) (k : Nat) (hk : k ≤ 32768) : InB (genL z k) := fun r hr => by have := genL_inB h k hk r hr; omega
end Go.Proofs.Ytnmljgjcdofboaa
