/- The package's list told again as a slice. -/
import Derived.Test.YtnmljgjcdofboaaIn
import Derived.Deep.QuietTactic
import Derived.BigQuiet
namespace Go.Proofs.Ytnmljgjcdofboaa
open Go.RowKit
set_option linter.unusedVariables false
set_option linter.unusedSimpArgs false

/-- A list of ranges and a number are handed back. -/
def RetLT (L : List R) (tot : Int) (w : World) (e : Ending) (w' : World) : Prop := ∃ A c, e = .returned (.tuple #[.slice A L.length c, .int .u64 tot]) ∧ SlAt w' A c L ∧ Nx w w' ∧ ∀ a, A = some a → w.heap.size ≤ a.block
theorem retLT {L : List R} {tot : Int} {w w' w2 : World} {t : TypeId} {v : Value} (h : w'.ownsRow w.heap.size t 2 v L.length (cellsL L)) (n : Nx w w2) (hk : ∀ A c, SlAt w' A c L → SlAt w2 A c L) : RetLT L tot w (.returned (.tuple #[v, .int .u64 tot])) w2 := by
  obtain ⟨A, c, rfl, hs, hf⟩ := SlAt.of_own' h
  exact ⟨A, c, rfl, hk _ _ hs, n, hf⟩

theorem Below.drewN' {B : Nat} {w w' : World} (h : Below B w w') (n : Nat) : Below B w (w'.drewN n) := ⟨h.os, h.tape, h.output, h.size, h.block⟩
theorem SlAt.drewN {w : World} {A : Option Addr} {c : Nat} {L : List R} (h : SlAt w A c L) (n : Nat) : SlAt (w.drewN n) A c L := ⟨h.cap, h.max, h.cell⟩

set_option maxHeartbeats 1000000 in
theorem mouts_any (base G g c : Nat) (L : List R) (tot : Int) (w : World) (h : ArAt base w G g c L tot) (hn : L.length ≤ 65536) :
    Calls Try.prog 43 #[.pointer (some ⟨G, 0, none⟩)] w (RetLT L tot w) := by
  obtain ⟨i0, hi, hz0, hz1, hz2⟩ := info_parts info_mRange
  obtain ⟨q0, q1, q2, q3⟩ := h.cells
  go_enter Try.func43, Try.ntmps43
  go_wp2
  go_loopw [4, 12] (fun v i wr => ∃ k : Nat, k ≤ L.length ∧ i = .int .i64 k ∧ wr.ownsRow w.heap.size 52 2 v (L.take k).length (cellsL (L.take k)) ∧ Below w.heap.size w wr) (fun _ i _ => L.length - (intOf i).toNat)
  case atStart => exact ⟨0, Nat.zero_le _, rfl, World.ownsRow_nil _ _ _ _, Below.refl _ _⟩
  case round =>
    obtain ⟨k, hk, rfl, hown, hb⟩ := hrel
    by_cases hlt : k < L.length
    · obtain ⟨hc0, hc1⟩ := (h.nx hb).at hlt
      have hsz := hb.size
      have hkm : (L.take k).length ≤ 65536 := by rw [List.length_take]; omega
      go_wp2_with fail
      refine (mout_any _ _ _).mono ?_
      rintro e w1 ⟨rfl, n1⟩
      have hown1 := own_nx (hown.alloc _) n1
      have hb1 := bl_step n1 (hb.alloc hsz _) (by simp; omega)
      have hs1 := hb1.size
      clear n1 hown hb
      go_wp2_with (first | (at_builtin; refine wpList_append_own _ rfl _ _ 54 rfl w.heap.size 52 i0 (.agg #[.int .u64 0, .int .u64 0]) 2 16 Try.underlying54 hi hz0 hz1 hz2 rfl (by decide) _ _ _ rfl (hown1.alloc _) ⟨w1.heap.size, 0, none⟩ 1 1 [.int .u64 (L[k]).1, .int .u64 (L[k]).2] rfl rfl ?c1 ?c2 ?c3 ?c4 ?c5 ?_))
      case c1 => exact pair_new _ _ _ _ rfl
      case c2 => exact cellsL_one [L[k]]
      case c3 => unfold maxLen; omega
      case c4 => omega
      case c5 => simp; omega
      · intro v' w2 hown' hgrow _
        have hb2 : Below w.heap.size w w2 := (hb1.alloc hs1 _).grown hgrow (by simp; omega) (fun g' e => (hown1.lt g' e).1)
        have hown2 := own_snoc hlt hown'
        clear hown' hgrow hown1 hb1
        go_wp2
        go_roundw
        case rel => exact ⟨k + 1, by omega, by go_num, hown2, hb2⟩
        case measure => simp [intOf]; omega
    · have hkl : k = L.length := by omega
      subst hkl
      rw [List.take_length] at hown
      obtain ⟨y0, y1, y2, y3⟩ := (h.nx hb).cells
      go_wp2
      go_quiet (fail)
      go_wp2
      go_ret2
      exact retLT hown (Below.drewN' hb _) (fun _ _ hs => hs.drewN _)
end Go.Proofs.Ytnmljgjcdofboaa
