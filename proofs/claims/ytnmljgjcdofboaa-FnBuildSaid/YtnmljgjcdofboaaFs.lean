/- findSucc: the binary search, and what it finds in a tidy list. -/
import Derived.Test.YtnmljgjcdofboaaOu
namespace Go.Proofs.Ytnmljgjcdofboaa
open Go.RowKit
set_option linter.unusedVariables false
set_option linter.unusedSimpArgs false

/-- Number i is that of the first range whose base is above x. -/
structure SuccAt (L : List R) (x : Int) (i : Nat) : Prop where
  le : i ≤ L.length
  lo : ∀ j (h : j < L.length), j < i → (L[j]).1 ≤ x
  hi : ∀ j (h : j < L.length), i ≤ j → x < (L[j]).1
theorem Td.base_mono {L : List R} (h : Td L) {i j : Nat} (hi : i < L.length) (hj : j < L.length) (hij : i ≤ j) : (L[i]).1 ≤ (L[j]).1 := by
  rcases Nat.lt_or_eq_of_le hij with hlt | rfl
  · have := h.ne i hi; have := h.up i j hi hj hlt; omega
  · exact Int.le_refl _
theorem succ_hit {L : List R} (h : Td L) {x : Int} {m : Nat} (hm : m < L.length) (hx : (L[m]).1 ≤ x) (hx' : x < (L[m]).2) : SuccAt L x (m + 1) :=
  ⟨hm, fun j hj hlt => Int.le_trans (h.base_mono hj hm (by omega)) hx, fun j hj hle => by have := h.up m j hm hj (by omega); omega⟩
theorem hasB_iff (b l x : Int) : hasB b l x = true ↔ b ≤ x ∧ x < l := by simp [hasB]
theorem hasB_not (b l x : Int) : hasB b l x = false ↔ ¬ (b ≤ x ∧ x < l) := by rw [← Bool.not_eq_true, hasB_iff]
theorem succ_unique {L : List R} {x : Int} {i j : Nat} (h : SuccAt L x i) (k : SuccAt L x j) : i = j := by
  have key : ∀ {i j : Nat}, SuccAt L x i → SuccAt L x j → ¬ i < j := fun {i j} h k hlt => by
    have hi : i < L.length := by have := k.le; omega
    have := h.hi i hi (Nat.le_refl _)
    have := k.lo i hi hlt
    omega
  have := key h k
  have := key k h
  omega
/-- A number is handed back, that of the first range above x. -/
def RetSucc (L : List R) (x : Int) (w : World) (e : Ending) (w' : World) : Prop := ∃ i : Nat, e = .returned (.int .i64 i) ∧ SuccAt L x i ∧ Nx w w'

set_option maxHeartbeats 2000000 in
theorem lfindSucc_any (base G g c : Nat) (L : List R) (tot x : Int) (w : World) (h : ArAt base w G g c L tot) (hn : L.length ≤ 65536) (hL : InB L) (hT : Td L) (hx : 0 ≤ x) (hx' : x < 4398046511104) :
    Calls Try.prog 51 #[.pointer (some ⟨G, 0, none⟩), .int .u64 x] w (RetSucc L x w) := by
  obtain ⟨q0, q1, q2, q3⟩ := h.cells
  go_enter Try.func51, Try.ntmps51
  go_wp2
  obtain ⟨y0, y1, y2, y3⟩ := (h.alloc (.cells #[.int .u64 x] 65)).cells
  go_quiet (fail)
  go_wp2
  have hU : Nx w ((w.alloc (.cells #[.int .u64 x] 65)).drewN nq) := Below.drewN' ((Below.refl _ _).alloc (Nat.le_refl _) _) _
  have hX : ((w.alloc (.cells #[.int .u64 x] 65)).drewN nq).cell? ⟨w.heap.size, 0, none⟩ = some (.int .u64 x) := by simp
  generalize (w.alloc (.cells #[.int .u64 x] 65)).drewN nq = U at hU hX ⊢
  have hA := h.nx hU
  clear y0 y1 y2 y3 q0 q1 q2 q3 h
  go_loopg [6, 7] L.length (fun gn b t wr => ∃ bot top : Nat, bot ≤ top ∧ top ≤ L.length ∧ top - bot ≤ gn ∧ b = .int .i64 bot ∧ t = .int .i64 top ∧ (∀ j (h : j < L.length), j < bot → (L[j]).1 ≤ x) ∧ (∀ j (h : j < L.length), top ≤ j → x < (L[j]).1) ∧ Nx U wr)
  case atStart => exact ⟨0, L.length, by omega, by omega, by omega, rfl, rfl, fun _ _ h => by omega, fun _ _ h => by omega, Below.refl _ _⟩
  case round =>
    obtain ⟨bot, top, hbt, htl, hgk, rfl, rfl, hlo, hhi, hb⟩ := hrel
    by_cases h8 : 8 < top - bot
    · have h8' : (8 : Int) < (top : Int) - (bot : Int) := by omega
      obtain ⟨m, hm⟩ : ∃ m : Nat, ((bot : Int) + (top : Int)) / 2 = (m : Int) := ⟨(bot + top) / 2, by omega⟩
      have hm1 : bot ≤ m := by omega
      have hm2 : m < top := by omega
      have hml : m < L.length := by omega
      have hmi : (0 : Int) ≤ (m : Int) ∧ (m : Int) < (L.length : Int) := by omega
      obtain ⟨hc0, hc1⟩ := (hA.nx hb).at hml
      have hbd := hL.at hml
      have hG := ((hA.nx hb).cells).1
      have hX2 := (Below.cell hb (p := ⟨w.heap.size, 0, none⟩) (World.block_lt_of_cell? U _ hX)).trans hX
      have hS1 := Lib.hid (fun hx1 hx2 => succ_hit (x := x) hT hml hx1 hx2)
      have hS2 := Lib.hid (fun (hx1 : x < (L[m]).1) (j : Nat) (hj : j < L.length) (hle : m ≤ j) => Int.lt_of_lt_of_le hx1 (hT.base_mono hml hj hle))
      have hS3 := Lib.hid (fun (hx1 : (L[m]).1 ≤ x) (j : Nat) (hj : j < L.length) (hle : j < m + 1) => Int.le_trans (hT.base_mono hj hml (by omega)) hx1)
      have HLO := Lib.hid hlo
      have HHI := Lib.hid hhi
      clear hlo hhi
      generalize L[m] = r at hc0 hc1 hbd hS1 hS2 hS3
      have k : Hd U [(G, 0, .slice (some ⟨g, 0, none⟩) L.length c), (g, m * 2, .int .u64 r.1), (g, m * 2 + 1, .int .u64 r.2), (w.heap.size, 0, .int .u64 x)] wr := ⟨hb, by
        intro c hc
        simp only [List.mem_cons, List.not_mem_nil, or_false] at hc
        rcases hc with rfl | rfl | rfl | rfl
        · exact hG
        · exact hc0
        · exact hc1
        · exact hX2⟩
      by_cases hc : hasB r.1 r.2 x = true
      · go_upto_region 5 with fail
        first | (go_region_held3 (fun w' => w'.cell? ⟨G, 0, none⟩ = some (.slice (some ⟨g, 0, none⟩) L.length c) ∧ w'.cell? ⟨g, m * 2, none⟩ = some (.int .u64 r.1) ∧ w'.cell? ⟨g, m * 2 + 1, none⟩ = some (.int .u64 r.2) ∧ w'.cell? ⟨w.heap.size, 0, none⟩ = some (.int .u64 x) ∧ Hd U [(G, 0, .slice (some ⟨g, 0, none⟩) L.length c), (g, m * 2, .int .u64 r.1), (g, m * 2 + 1, .int .u64 r.2), (w.heap.size, 0, .int .u64 x)] w') (first | (go_split_ands; have k := Hd.nx (w := U) (cs := [(G, 0, .slice (some ⟨g, 0, none⟩) L.length c), (g, m * 2, .int .u64 r.1), (g, m * 2 + 1, .int .u64 r.2), (w.heap.size, 0, .int .u64 x)]) (by assumption) (by assumption); exact ⟨k.at (G) (0) (.slice (some ⟨g, 0, none⟩) L.length c) (by simp), k.at (g) (m * 2) (.int .u64 r.1) (by simp), k.at (g) (m * 2 + 1) (.int .u64 r.2) (by simp), k.at (w.heap.size) (0) (.int .u64 x) (by simp), k⟩) | (have k := Hd.drew (w := U) (cs := [(G, 0, .slice (some ⟨g, 0, none⟩) L.length c), (g, m * 2, .int .u64 r.1), (g, m * 2 + 1, .int .u64 r.2), (w.heap.size, 0, .int .u64 x)]) (by assumption); exact ⟨k.at (G) (0) (.slice (some ⟨g, 0, none⟩) L.length c) (by simp), k.at (g) (m * 2) (.int .u64 r.1) (by simp), k.at (g) (m * 2 + 1) (.int .u64 r.2) (by simp), k.at (w.heap.size) (0) (.int .u64 x) (by simp), k⟩))
            (first | (go_at_call 49; refine (oaddr_any _ _).mono ?_; rintro e wh ⟨rfl, nh⟩) | (go_at_call 54; refine (rcontains_any _ _ _ _ (by omega) (by omega) (by omega) (by omega) (by omega) (by omega)).mono ?_; rintro e wh ⟨rfl, nh⟩)))
        rename_i hH
        obtain ⟨kc0, kc1, kc2, kc3, k⟩ := hH
        go_wp2
        go_ret
        have hc2 := (hasB_iff _ _ _).1 hc
        exact ⟨m + 1, by simp, hS1.out hc2.1 hc2.2, bl_step k.below hU hU.size⟩
      · have hc : hasB r.1 r.2 x = false := by simpa using hc
        go_upto_region 5 with fail
        first | (go_region_held3 (fun w' => w'.cell? ⟨G, 0, none⟩ = some (.slice (some ⟨g, 0, none⟩) L.length c) ∧ w'.cell? ⟨g, m * 2, none⟩ = some (.int .u64 r.1) ∧ w'.cell? ⟨g, m * 2 + 1, none⟩ = some (.int .u64 r.2) ∧ w'.cell? ⟨w.heap.size, 0, none⟩ = some (.int .u64 x) ∧ Hd U [(G, 0, .slice (some ⟨g, 0, none⟩) L.length c), (g, m * 2, .int .u64 r.1), (g, m * 2 + 1, .int .u64 r.2), (w.heap.size, 0, .int .u64 x)] w') (first | (go_split_ands; have k := Hd.nx (w := U) (cs := [(G, 0, .slice (some ⟨g, 0, none⟩) L.length c), (g, m * 2, .int .u64 r.1), (g, m * 2 + 1, .int .u64 r.2), (w.heap.size, 0, .int .u64 x)]) (by assumption) (by assumption); exact ⟨k.at (G) (0) (.slice (some ⟨g, 0, none⟩) L.length c) (by simp), k.at (g) (m * 2) (.int .u64 r.1) (by simp), k.at (g) (m * 2 + 1) (.int .u64 r.2) (by simp), k.at (w.heap.size) (0) (.int .u64 x) (by simp), k⟩) | (have k := Hd.drew (w := U) (cs := [(G, 0, .slice (some ⟨g, 0, none⟩) L.length c), (g, m * 2, .int .u64 r.1), (g, m * 2 + 1, .int .u64 r.2), (w.heap.size, 0, .int .u64 x)]) (by assumption); exact ⟨k.at (G) (0) (.slice (some ⟨g, 0, none⟩) L.length c) (by simp), k.at (g) (m * 2) (.int .u64 r.1) (by simp), k.at (g) (m * 2 + 1) (.int .u64 r.2) (by simp), k.at (w.heap.size) (0) (.int .u64 x) (by simp), k⟩))
            (first | (go_at_call 49; refine (oaddr_any _ _).mono ?_; rintro e wh ⟨rfl, nh⟩) | (go_at_call 54; refine (rcontains_any _ _ _ _ (by omega) (by omega) (by omega) (by omega) (by omega) (by omega)).mono ?_; rintro e wh ⟨rfl, nh⟩)))
        rename_i hH
        obtain ⟨kc0, kc1, kc2, kc3, k⟩ := hH
        by_cases hl : x < r.1
        · have hd : decide (x < r.1) = true := by simpa using hl
          go_upto_region 7 with fail
          first | (go_region_held3 (fun w' => w'.cell? ⟨G, 0, none⟩ = some (.slice (some ⟨g, 0, none⟩) L.length c) ∧ w'.cell? ⟨g, m * 2, none⟩ = some (.int .u64 r.1) ∧ w'.cell? ⟨g, m * 2 + 1, none⟩ = some (.int .u64 r.2) ∧ w'.cell? ⟨w.heap.size, 0, none⟩ = some (.int .u64 x) ∧ Hd U [(G, 0, .slice (some ⟨g, 0, none⟩) L.length c), (g, m * 2, .int .u64 r.1), (g, m * 2 + 1, .int .u64 r.2), (w.heap.size, 0, .int .u64 x)] w') (first | (go_split_ands; have k := Hd.nx (w := U) (cs := [(G, 0, .slice (some ⟨g, 0, none⟩) L.length c), (g, m * 2, .int .u64 r.1), (g, m * 2 + 1, .int .u64 r.2), (w.heap.size, 0, .int .u64 x)]) (by assumption) (by assumption); exact ⟨k.at (G) (0) (.slice (some ⟨g, 0, none⟩) L.length c) (by simp), k.at (g) (m * 2) (.int .u64 r.1) (by simp), k.at (g) (m * 2 + 1) (.int .u64 r.2) (by simp), k.at (w.heap.size) (0) (.int .u64 x) (by simp), k⟩) | (have k := Hd.drew (w := U) (cs := [(G, 0, .slice (some ⟨g, 0, none⟩) L.length c), (g, m * 2, .int .u64 r.1), (g, m * 2 + 1, .int .u64 r.2), (w.heap.size, 0, .int .u64 x)]) (by assumption); exact ⟨k.at (G) (0) (.slice (some ⟨g, 0, none⟩) L.length c) (by simp), k.at (g) (m * 2) (.int .u64 r.1) (by simp), k.at (g) (m * 2 + 1) (.int .u64 r.2) (by simp), k.at (w.heap.size) (0) (.int .u64 x) (by simp), k⟩))
              (first | (go_at_call 47; refine (olessThan_any _ _ _ (by omega) (by omega) (by omega) (by omega)).mono ?_; rintro e wh ⟨rfl, nh⟩)))
          rename_i hH
          obtain ⟨kc0, kc1, kc2, kc3, k⟩ := hH
          go_wp2
          go_roundg (m - bot)
          case measure => omega
          case rel => exact ⟨bot, m, by omega, by omega, by omega, rfl, rfl, HLO.out, hS2.out hl, k.below⟩
        · have hd : decide (x < r.1) = false := by simpa using hl
          go_upto_region 7 with fail
          first | (go_region_held3 (fun w' => w'.cell? ⟨G, 0, none⟩ = some (.slice (some ⟨g, 0, none⟩) L.length c) ∧ w'.cell? ⟨g, m * 2, none⟩ = some (.int .u64 r.1) ∧ w'.cell? ⟨g, m * 2 + 1, none⟩ = some (.int .u64 r.2) ∧ w'.cell? ⟨w.heap.size, 0, none⟩ = some (.int .u64 x) ∧ Hd U [(G, 0, .slice (some ⟨g, 0, none⟩) L.length c), (g, m * 2, .int .u64 r.1), (g, m * 2 + 1, .int .u64 r.2), (w.heap.size, 0, .int .u64 x)] w') (first | (go_split_ands; have k := Hd.nx (w := U) (cs := [(G, 0, .slice (some ⟨g, 0, none⟩) L.length c), (g, m * 2, .int .u64 r.1), (g, m * 2 + 1, .int .u64 r.2), (w.heap.size, 0, .int .u64 x)]) (by assumption) (by assumption); exact ⟨k.at (G) (0) (.slice (some ⟨g, 0, none⟩) L.length c) (by simp), k.at (g) (m * 2) (.int .u64 r.1) (by simp), k.at (g) (m * 2 + 1) (.int .u64 r.2) (by simp), k.at (w.heap.size) (0) (.int .u64 x) (by simp), k⟩) | (have k := Hd.drew (w := U) (cs := [(G, 0, .slice (some ⟨g, 0, none⟩) L.length c), (g, m * 2, .int .u64 r.1), (g, m * 2 + 1, .int .u64 r.2), (w.heap.size, 0, .int .u64 x)]) (by assumption); exact ⟨k.at (G) (0) (.slice (some ⟨g, 0, none⟩) L.length c) (by simp), k.at (g) (m * 2) (.int .u64 r.1) (by simp), k.at (g) (m * 2 + 1) (.int .u64 r.2) (by simp), k.at (w.heap.size) (0) (.int .u64 x) (by simp), k⟩))
              (first | (go_at_call 47; refine (olessThan_any _ _ _ (by omega) (by omega) (by omega) (by omega)).mono ?_; rintro e wh ⟨rfl, nh⟩)))
          rename_i hH
          obtain ⟨kc0, kc1, kc2, kc3, k⟩ := hH
          go_wp2
          go_roundg (top - (m + 1))
          case measure => omega
          case rel => exact ⟨m + 1, top, by omega, by omega, by omega, by go_num, rfl, hS3.out (by omega), HHI.out, k.below⟩
    · have hd8 : decide ((8 : Int) < (top : Int) - (bot : Int)) = false := by simp; omega
      have HHI := Lib.hid hhi
      clear hhi
      obtain ⟨wo, rfl⟩ : ∃ wo : World, wo = wr := ⟨_, rfl⟩
      go_wp2_with fail
      go_loopg [9] (top - bot) (fun gn v wr => ∃ i : Nat, bot ≤ i ∧ i ≤ top ∧ top - i ≤ gn ∧ v = .int .i64 i ∧ (∀ j (h : j < L.length), j < i → (L[j]).1 ≤ x) ∧ Nx U wr)
      case atStart => exact ⟨bot, by omega, by omega, by omega, rfl, hlo, hb⟩
      case round =>
        obtain ⟨m, hm1, hm2, hm3, rfl, hlo2, hb2⟩ := hrel
        clear hlo hb
        by_cases hlt : m < top
        · have hml : m < L.length := by omega
          have hmi : (0 : Int) ≤ (m : Int) ∧ (m : Int) < (L.length : Int) := by omega
          obtain ⟨hc0, hc1⟩ := (hA.nx hb2).at hml
          have hbd := hL.at hml
          have hG := ((hA.nx hb2).cells).1
          have hX2 := (Below.cell hb2 (p := ⟨w.heap.size, 0, none⟩) (World.block_lt_of_cell? U _ hX)).trans hX
          have hS2 := Lib.hid (fun (hx1 : x < (L[m]).1) (j : Nat) (hj : j < L.length) (hle : m ≤ j) => Int.lt_of_lt_of_le hx1 (hT.base_mono hml hj hle))
          have hS3 := Lib.hid (fun (hx1 : (L[m]).1 ≤ x) (j : Nat) (hj : j < L.length) (hle : j < m + 1) => Int.le_trans (hT.base_mono hj hml (by omega)) hx1)
          have HLO := Lib.hid hlo2
          clear hlo2
          generalize L[m] = r at hc0 hc1 hbd hS2 hS3
          have k : Hd U [(G, 0, .slice (some ⟨g, 0, none⟩) L.length c), (g, m * 2, .int .u64 r.1), (w.heap.size, 0, .int .u64 x)] wr := ⟨hb2, by
            intro c hc
            simp only [List.mem_cons, List.not_mem_nil, or_false] at hc
            rcases hc with rfl | rfl | rfl
            · exact hG
            · exact hc0
            · exact hX2⟩
          by_cases hl : x < r.1
          · have hd : decide (x < r.1) = true := by simpa using hl
            go_upto_region 13 with fail
            first | (go_region_held3 (fun w' => w'.cell? ⟨G, 0, none⟩ = some (.slice (some ⟨g, 0, none⟩) L.length c) ∧ w'.cell? ⟨g, m * 2, none⟩ = some (.int .u64 r.1) ∧ w'.cell? ⟨w.heap.size, 0, none⟩ = some (.int .u64 x) ∧ Hd U [(G, 0, .slice (some ⟨g, 0, none⟩) L.length c), (g, m * 2, .int .u64 r.1), (w.heap.size, 0, .int .u64 x)] w') (first | (go_split_ands; have k := Hd.nx (w := U) (cs := [(G, 0, .slice (some ⟨g, 0, none⟩) L.length c), (g, m * 2, .int .u64 r.1), (w.heap.size, 0, .int .u64 x)]) (by assumption) (by assumption); exact ⟨k.at (G) (0) (.slice (some ⟨g, 0, none⟩) L.length c) (by simp), k.at (g) (m * 2) (.int .u64 r.1) (by simp), k.at (w.heap.size) (0) (.int .u64 x) (by simp), k⟩) | (have k := Hd.drew (w := U) (cs := [(G, 0, .slice (some ⟨g, 0, none⟩) L.length c), (g, m * 2, .int .u64 r.1), (w.heap.size, 0, .int .u64 x)]) (by assumption); exact ⟨k.at (G) (0) (.slice (some ⟨g, 0, none⟩) L.length c) (by simp), k.at (g) (m * 2) (.int .u64 r.1) (by simp), k.at (w.heap.size) (0) (.int .u64 x) (by simp), k⟩))
                (first | (go_at_call 47; refine (olessThan_any _ _ _ (by omega) (by omega) (by omega) (by omega)).mono ?_; rintro e wh ⟨rfl, nh⟩)))
            rename_i hH
            obtain ⟨kc0, kc1, kc2, k⟩ := hH
            go_wp2
            go_ret
            exact ⟨m, rfl, ⟨by omega, HLO.out, hS2.out hl⟩, bl_step k.below hU hU.size⟩
          · have hd : decide (x < r.1) = false := by simpa using hl
            go_upto_region 13 with fail
            first | (go_region_held3 (fun w' => w'.cell? ⟨G, 0, none⟩ = some (.slice (some ⟨g, 0, none⟩) L.length c) ∧ w'.cell? ⟨g, m * 2, none⟩ = some (.int .u64 r.1) ∧ w'.cell? ⟨w.heap.size, 0, none⟩ = some (.int .u64 x) ∧ Hd U [(G, 0, .slice (some ⟨g, 0, none⟩) L.length c), (g, m * 2, .int .u64 r.1), (w.heap.size, 0, .int .u64 x)] w') (first | (go_split_ands; have k := Hd.nx (w := U) (cs := [(G, 0, .slice (some ⟨g, 0, none⟩) L.length c), (g, m * 2, .int .u64 r.1), (w.heap.size, 0, .int .u64 x)]) (by assumption) (by assumption); exact ⟨k.at (G) (0) (.slice (some ⟨g, 0, none⟩) L.length c) (by simp), k.at (g) (m * 2) (.int .u64 r.1) (by simp), k.at (w.heap.size) (0) (.int .u64 x) (by simp), k⟩) | (have k := Hd.drew (w := U) (cs := [(G, 0, .slice (some ⟨g, 0, none⟩) L.length c), (g, m * 2, .int .u64 r.1), (w.heap.size, 0, .int .u64 x)]) (by assumption); exact ⟨k.at (G) (0) (.slice (some ⟨g, 0, none⟩) L.length c) (by simp), k.at (g) (m * 2) (.int .u64 r.1) (by simp), k.at (w.heap.size) (0) (.int .u64 x) (by simp), k⟩))
                (first | (go_at_call 47; refine (olessThan_any _ _ _ (by omega) (by omega) (by omega) (by omega)).mono ?_; rintro e wh ⟨rfl, nh⟩)))
            rename_i hH
            obtain ⟨kc0, kc1, kc2, k⟩ := hH
            go_wp2
            go_roundg (top - (m + 1))
            case measure => omega
            case rel => exact ⟨m + 1, by omega, by omega, by omega, by go_num, hS3.out (by omega), k.below⟩
        · obtain rfl : m = top := by omega
          go_wp2
          go_ret
          exact ⟨m, rfl, ⟨htl, hlo2, HHI.out⟩, bl_step hb2 hU hU.size⟩
end Go.Proofs.Ytnmljgjcdofboaa
