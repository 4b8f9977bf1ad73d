/- Taking bytes from the front and from the end of a range; a range without another one. -/
import Derived.Test.YtjhchjocaafakaaRh
namespace Go.Proofs.Ytjhchjocaafakaa
open Go.RowKit
set_option linter.unusedVariables false

theorem and_mask (x j : Nat) (hx : x < 2 ^ 64) (hj : j ≤ 64) : x &&& (2 ^ 64 - 1 - (2 ^ j - 1)) = x / 2 ^ j * 2 ^ j := by
  have hp : 2 ^ j ≤ 2 ^ 64 := Nat.pow_le_pow_right (by omega) hj
  have h1 : 1 ≤ 2 ^ j := Nat.one_le_two_pow
  have e : 2 ^ 64 - 1 - (2 ^ j - 1) = 2 ^ 64 - ((2 ^ j - 1) + 1) := by omega
  rw [e]
  apply Nat.eq_of_testBit_eq
  intro i
  rw [Nat.testBit_and, Nat.testBit_two_pow_sub_succ (by omega), Nat.testBit_two_pow_sub_one, Nat.testBit_mul_two_pow, Nat.testBit_div_two_pow]
  by_cases h : j ≤ i
  · have e2 : j + (i - j) = i := by omega
    have e3 : i - j + j = i := by omega
    by_cases h2 : i < 64
    · have h3 : ¬ i < j := by omega
      simp [h, h2, h3, e2, e3]
    · have : x.testBit i = false := Nat.testBit_lt_two_pow (Nat.lt_of_lt_of_le hx (Nat.pow_le_pow_right (by omega) (by omega)))
      simp [h, e2, e3, this]
  · have h3 : i < j := by omega
    simp [h, h3]
/-- A power of 2 up to 128. -/
def P2 (a : Int) : Prop := ∃ j : Nat, j ≤ 7 ∧ a = ((2 ^ j : Nat) : Int)
theorem p2_bd {a : Int} (h : P2 a) : 1 ≤ a ∧ a ≤ 128 := by
  obtain ⟨j, hj, rfl⟩ := h
  have h1 : 1 ≤ 2 ^ j := Nat.one_le_two_pow
  have h2 : 2 ^ j ≤ 2 ^ 7 := Nat.pow_le_pow_right (by omega) hj
  omega
/-- What the laws make of their last number. -/
theorem p2_of (k : Int) (h : 0 ≤ k) : ∃ al : Int, IntKind.u64.wrap (2 ^ (k % 8).toNat) = al ∧ al % 256 = al ∧ P2 al := by
  have hk : (k % 8).toNat ≤ 7 := by omega
  generalize (k % 8).toNat = j at hk
  have h1 : 1 ≤ 2 ^ j := Nat.one_le_two_pow
  have h2 : 2 ^ j ≤ 2 ^ 7 := Nat.pow_le_pow_right (by omega) hk
  have e : (2 : Int) ^ j = ((2 ^ j : Nat) : Int) := by simp
  refine ⟨((2 ^ j : Nat) : Int), ?_, by omega, ⟨j, hk, rfl⟩⟩
  rw [e]
  exact IntWalk.u64_in _ (by omega)
/-- The greatest multiple that is not above. -/
def dnI (n a : Int) : Int := n / a * a
theorem dnI_bd {n a : Int} (hn : 0 ≤ n) (ha : 1 ≤ a) : 0 ≤ dnI n a ∧ dnI n a ≤ n ∧ n < dnI n a + a := by
  unfold dnI
  have h1 := Int.ediv_mul_le n (show a ≠ 0 by omega)
  have h2 := Int.lt_ediv_add_one_mul_self n (show 0 < a by omega)
  have h3 : 0 ≤ n / a := Int.ediv_nonneg hn (by omega)
  have h4 : 0 ≤ n / a * a := Int.mul_nonneg h3 (by omega)
  have h5 : (n / a + 1) * a = n / a * a + a := by rw [Int.add_mul, Int.one_mul]
  omega
theorem dnI_dvd (n a : Int) : dnI n a % a = 0 := by unfold dnI; exact Int.mul_emod_left _ _
theorem andNot_eq {n a : Int} (hn : 0 ≤ n) (hn' : n < 18446744073709551616) (ha : P2 a) : bits .andNot .u64 n (a - 1) = dnI n a := by
  obtain ⟨j, hj, rfl⟩ := ha
  have h1 : 1 ≤ 2 ^ j := Nat.one_le_two_pow
  have h2 : 2 ^ j ≤ 2 ^ 7 := Nat.pow_le_pow_right (by omega) hj
  rw [u64_andNot n _ hn hn' (by omega) (by omega)]
  have e1 : (((2 ^ j : Nat) : Int) - 1).toNat = 2 ^ j - 1 := by omega
  rw [e1]
  have := and_mask n.toNat j (by omega) (by omega)
  have e2 : (18446744073709551615 : Nat) - (2 ^ j - 1) = 2 ^ 64 - 1 - (2 ^ j - 1) := rfl
  rw [e2, this]
  unfold dnI
  rw [Int.natCast_mul, Int.natCast_ediv, Int.toNat_of_nonneg hn]
theorem malignDown_any (n a : Int) (w : World) (hn : 0 ≤ n) (hn' : n < 18446744073709551616) (ha : P2 a) :
    Calls Try.prog 47 #[.int .u64 n, .int .u64 a] w fun e w' => e = .returned (.int .u64 (dnI n a)) ∧ w = w' := by
  have hb := p2_bd ha
  have he := andNot_eq hn hn' ha
  go_enter Try.func47, Try.ntmps47
  go_wp2
  go_ret
  exact ⟨rfl, rfl⟩
theorem malignUp_any (n a : Int) (w : World) (hn : 0 ≤ n) (hn' : n < 4398046511104) (ha : P2 a) :
    Calls Try.prog 48 #[.int .u64 n, .int .u64 a] w fun e w' => e = .returned (.int .u64 (dnI (n + a - 1) a)) ∧ w = w' := by
  have hb := p2_bd ha
  have he := andNot_eq (n := n + a - 1) (by omega) (by omega) ha
  go_enter Try.func48, Try.ntmps48
  go_wp2
  go_ret
  exact ⟨rfl, rfl⟩
theorem sUp_any (n a : Int) (w : World) (hn : 0 ≤ n) (hn' : n < 4398046511104) (ha : P2 a) :
    Calls Try.prog 22 #[.int .u64 n, .int .u64 a] w fun e w' => e = .returned (.int .u64 (dnI (n + a - 1) a)) ∧ w = w' := by
  have hb := p2_bd ha
  have hd := dnI_bd (n := n + a - 1) (a := a) (by omega) hb.1
  have he : dnI (n + a - 1) a = (n + a - 1) / a * a := rfl
  rw [he] at hd ⊢
  clear he
  go_enter Try.func22, Try.ntmps22
  go_wp2
  go_ret
  exact ⟨rfl, rfl⟩
theorem sUp_nx (n a : Int) (w : World) (hn : 0 ≤ n) (hn' : n < 4398046511104) (ha : P2 a) :
    Calls Try.prog 22 #[.int .u64 n, .int .u64 a] w fun e w' => e = .returned (.int .u64 (dnI (n + a - 1) a)) ∧ Nx w w' :=
  (sUp_any n a w hn hn' ha).mono fun _ _ ⟨h, e⟩ => ⟨h, by subst e; exact Below.refl _ _⟩
/-- There is room. -/
theorem ptakeFromFront_yes (g : Nat) (b l n al : Int) (w : World) (h0 : w.cell? ⟨g, 0, none⟩ = some (.int .u64 b)) (h1 : w.cell? ⟨g, 1, none⟩ = some (.int .u64 l)) (hf0 : w.frozen? ⟨g, 0, none⟩ = false) (hf1 : w.frozen? ⟨g, 1, none⟩ = false) (hg : g < w.heap.size)
    (hb : 0 ≤ b) (hb' : b < 1099511627777) (hl : 0 ≤ l) (hl' : l < 1099511627777) (hn : 0 ≤ n) (hn' : n < 1099511627777) (hal : P2 al) (hroom : dnI (b + al - 1) al + n ≤ l) :
    Calls Try.prog 41 #[.pointer (some ⟨g, 0, none⟩), .int .u64 n, .int .u8 al] w fun e w' => e = .returned (.tuple #[.int .u64 (dnI (b + al - 1) al), .bool true]) ∧ ((w.setCell ⟨g, 0, none⟩ (.int .u64 (dnI (b + al - 1) al + n))).alloc (.cells #[.int .u64 b] 49)).alloc (.cells #[.int .u64 l] 49) = w' := by
  have hb2 := p2_bd hal
  have hd := dnI_bd (n := b + al - 1) (a := al) (by omega) hb2.1
  generalize hA : dnI (b + al - 1) al = at0 at hd hroom ⊢
  go_enter Try.func41, Try.ntmps41
  go_wp2_with (first | (go_at_call 45; refine (oaddr_at _ _).mono ?_; rintro e w1 ⟨rfl, rfl⟩) | (go_at_call 48; refine (malignUp_any _ _ _ (by omega) (by omega) hal).mono ?_; rintro e w1 ⟨rfl, rfl⟩; rw [hA]))
  go_ret2
  exact ⟨rfl, rfl⟩
theorem ptakeFromFront_no (g : Nat) (b l n al : Int) (w : World) (h0 : w.cell? ⟨g, 0, none⟩ = some (.int .u64 b)) (h1 : w.cell? ⟨g, 1, none⟩ = some (.int .u64 l)) (hg : g < w.heap.size)
    (hb : 0 ≤ b) (hb' : b < 1099511627777) (hl : 0 ≤ l) (hl' : l < 1099511627777) (hn : 0 ≤ n) (hn' : n < 1099511627777) (hal : P2 al) (hroom : ¬ dnI (b + al - 1) al + n ≤ l) :
    Calls Try.prog 41 #[.pointer (some ⟨g, 0, none⟩), .int .u64 n, .int .u8 al] w fun e w' => e = .returned (.tuple #[.int .u64 0, .bool false]) ∧ (w.alloc (.cells #[.int .u64 b] 49)).alloc (.cells #[.int .u64 l] 49) = w' := by
  have hb2 := p2_bd hal
  have hd := dnI_bd (n := b + al - 1) (a := al) (by omega) hb2.1
  generalize hA : dnI (b + al - 1) al = at0 at hd hroom ⊢
  go_enter Try.func41, Try.ntmps41
  go_wp2_with (first | (go_at_call 45; refine (oaddr_at _ _).mono ?_; rintro e w1 ⟨rfl, rfl⟩) | (go_at_call 48; refine (malignUp_any _ _ _ (by omega) (by omega) hal).mono ?_; rintro e w1 ⟨rfl, rfl⟩; rw [hA]))
  go_ret2
  exact ⟨rfl, rfl⟩
theorem mTakeFromFront_yes (b l n al : Int) (w : World) (hb : 0 ≤ b) (hb' : b < 1099511627777) (hl : 0 ≤ l) (hl' : l < 1099511627777) (hn : 0 ≤ n) (hn' : n < 1099511627777) (hal : P2 al) (hroom : dnI (b + al - 1) al + n ≤ l) :
    Calls Try.prog 31 #[.agg #[.int .u64 b, .int .u64 l], .int .u64 n, .int .u8 al] w fun e w' => e = .returned (.tuple #[.agg #[.int .u64 (dnI (b + al - 1) al + n), .int .u64 l], .int .u64 (dnI (b + al - 1) al), .bool true]) ∧ Nx w w' := by
  go_enter Try.func31, Try.ntmps31
  go_wp2_with fail
  refine (min_any _ _ _).mono ?_
  rintro e w1 ⟨rfl, n1⟩
  have hs1 := nxs n1; (try simp only [World.size_alloc, World.size_setCell, World.size_drew] at hs1); (try (refine nxk n1 (w.heap.size) ?_ ?_; (focus ((try simp only [World.size_alloc, World.size_setCell, World.size_drew]); omega)); intro hc1 hf1; have hz1 : w.heap.size < w1.heap.size := (by omega))); (try (refine nxk n1 (w.heap.size + 1) ?_ ?_; (focus ((try simp only [World.size_alloc, World.size_setCell, World.size_drew]); omega)); intro hc1 hf1; have hz1 : w.heap.size + 1 < w1.heap.size := (by omega))); have hb1 := nx n1; clear n1
  go_wp2_with fail
  refine (ptakeFromFront_yes w1.heap.size b l n al _ (by simp) (by simp) (by simp) (by simp) (by simp) (by omega) (by omega) (by omega) (by omega) (by omega) (by omega) hal hroom).mono ?_
  rintro e w2 ⟨rfl, rfl⟩
  go_wp2_with fail
  refine (mout_any _ _ _).mono ?_
  rintro e w3 ⟨rfl, n3⟩
  have hs3 := nxs n3; (try simp only [World.size_alloc, World.size_setCell, World.size_drew] at hs3); (try (refine nxk n3 (w.heap.size + 1) ?_ ?_; (focus ((try simp only [World.size_alloc, World.size_setCell, World.size_drew]); omega)); intro hc3 hf3; have hz3 : w.heap.size + 1 < w3.heap.size := (by omega))); have hyA3 := hc3 0; have hyB3 := hc3 1; clear hc3; (try simp [go_sem, *] at hyA3); (try simp [go_sem, *] at hyB3); have hb3 := nx n3; clear n3
  go_wp2_with fail
  exact bodyPost_ret (v := .tuple #[.agg #[.int .u64 ((dnI (b + al - 1) al) + n), .int .u64 l], .int .u64 (dnI (b + al - 1) al), .bool true]) (by simp [results, Try.results31, go_sem, *]) rfl ⟨rfl, (by show Below _ _ _; repeat (first | (with_reducible exact Below.refl _ _) | (with_reducible assumption) | (with_reducible refine Below.drew ?_) | ((with_reducible refine Below.alloc ?_ ?_ _); rotate_left; (focus first | omega | (simp; done) | (simp; omega))) | ((with_reducible refine Below.setCell ?_ ?_ _); rotate_left; (focus first | omega | (simp; done) | (simp; omega))) | ((with_reducible refine bl_step (by assumption) ?_ ?_); rotate_left; (focus first | omega | (simp; done) | (simp; omega)))))⟩
theorem mTakeFromFront_no (b l n al : Int) (w : World) (hb : 0 ≤ b) (hb' : b < 1099511627777) (hl : 0 ≤ l) (hl' : l < 1099511627777) (hn : 0 ≤ n) (hn' : n < 1099511627777) (hal : P2 al) (hroom : ¬ dnI (b + al - 1) al + n ≤ l) :
    Calls Try.prog 31 #[.agg #[.int .u64 b, .int .u64 l], .int .u64 n, .int .u8 al] w fun e w' => e = .returned (.tuple #[.agg #[.int .u64 b, .int .u64 l], .int .u64 0, .bool false]) ∧ Nx w w' := by
  go_enter Try.func31, Try.ntmps31
  go_wp2_with fail
  refine (min_any _ _ _).mono ?_
  rintro e w1 ⟨rfl, n1⟩
  have hs1 := nxs n1; (try simp only [World.size_alloc, World.size_setCell, World.size_drew] at hs1); (try (refine nxk n1 (w.heap.size) ?_ ?_; (focus ((try simp only [World.size_alloc, World.size_setCell, World.size_drew]); omega)); intro hc1 hf1; have hz1 : w.heap.size < w1.heap.size := (by omega))); (try (refine nxk n1 (w.heap.size + 1) ?_ ?_; (focus ((try simp only [World.size_alloc, World.size_setCell, World.size_drew]); omega)); intro hc1 hf1; have hz1 : w.heap.size + 1 < w1.heap.size := (by omega))); have hb1 := nx n1; clear n1
  go_wp2_with fail
  refine (ptakeFromFront_no w1.heap.size b l n al _ (by simp) (by simp) (by simp) (by omega) (by omega) (by omega) (by omega) (by omega) (by omega) hal (by omega)).mono ?_
  rintro e w2 ⟨rfl, rfl⟩
  go_wp2_with fail
  refine (mout_any _ _ _).mono ?_
  rintro e w3 ⟨rfl, n3⟩
  have hs3 := nxs n3; (try simp only [World.size_alloc, World.size_setCell, World.size_drew] at hs3); (try (refine nxk n3 (w.heap.size + 1) ?_ ?_; (focus ((try simp only [World.size_alloc, World.size_setCell, World.size_drew]); omega)); intro hc3 hf3; have hz3 : w.heap.size + 1 < w3.heap.size := (by omega))); have hyA3 := hc3 0; have hyB3 := hc3 1; clear hc3; (try simp [go_sem, *] at hyA3); (try simp [go_sem, *] at hyB3); have hb3 := nx n3; clear n3
  go_wp2_with fail
  exact bodyPost_ret (v := .tuple #[.agg #[.int .u64 b, .int .u64 l], .int .u64 0, .bool false]) (by simp [results, Try.results31, go_sem, *]) rfl ⟨rfl, (by show Below _ _ _; repeat (first | (with_reducible exact Below.refl _ _) | (with_reducible assumption) | (with_reducible refine Below.drew ?_) | ((with_reducible refine Below.alloc ?_ ?_ _); rotate_left; (focus first | omega | (simp; done) | (simp; omega))) | ((with_reducible refine Below.setCell ?_ ?_ _); rotate_left; (focus first | omega | (simp; done) | (simp; omega))) | ((with_reducible refine bl_step (by assumption) ?_ ?_); rotate_left; (focus first | omega | (simp; done) | (simp; omega)))))⟩
/-- There is room. -/
theorem ptakeFromBack_yes (g : Nat) (b l n al : Int) (w : World) (h0 : w.cell? ⟨g, 0, none⟩ = some (.int .u64 b)) (h1 : w.cell? ⟨g, 1, none⟩ = some (.int .u64 l)) (hf0 : w.frozen? ⟨g, 0, none⟩ = false) (hf1 : w.frozen? ⟨g, 1, none⟩ = false) (hg : g < w.heap.size)
    (hb : 0 ≤ b) (hb' : b < 1099511627777) (hl : 0 ≤ l) (hl' : l < 1099511627777) (hn : 0 ≤ n) (hn' : n < 1099511627777) (hal : P2 al) (hnl : n ≤ l) (hroom : b ≤ dnI (l - n) al) :
    Calls Try.prog 40 #[.pointer (some ⟨g, 0, none⟩), .int .u64 n, .int .u8 al] w fun e w' => e = .returned (.tuple #[.int .u64 (dnI (l - n) al), .bool true]) ∧ ((w.setCell ⟨g, 1, none⟩ (.int .u64 (dnI (l - n) al))).alloc (.cells #[.int .u64 l] 49)).alloc (.cells #[.int .u64 b] 49) = w' := by
  have hb2 := p2_bd hal
  have hd := dnI_bd (n := l - n) (a := al) (by omega) hb2.1
  generalize hA : dnI (l - n) al = at0 at hd hroom ⊢
  go_enter Try.func40, Try.ntmps40
  go_wp2_with (first | (go_at_call 45; refine (oaddr_at _ _).mono ?_; rintro e w1 ⟨rfl, rfl⟩) | (go_at_call 47; refine (malignDown_any _ _ _ (by omega) (by omega) hal).mono ?_; rintro e w1 ⟨rfl, rfl⟩; rw [hA]))
  go_ret2
  exact ⟨rfl, rfl⟩
theorem ptakeFromBack_no (g : Nat) (b l n al : Int) (w : World) (h0 : w.cell? ⟨g, 0, none⟩ = some (.int .u64 b)) (h1 : w.cell? ⟨g, 1, none⟩ = some (.int .u64 l)) (hg : g < w.heap.size)
    (hb : 0 ≤ b) (hb' : b < 1099511627777) (hl : 0 ≤ l) (hl' : l < 1099511627777) (hn : 0 ≤ n) (hn' : n < 1099511627777) (hal : P2 al) (hnl : n ≤ l) (hroom : ¬ b ≤ dnI (l - n) al) :
    Calls Try.prog 40 #[.pointer (some ⟨g, 0, none⟩), .int .u64 n, .int .u8 al] w fun e w' => e = .returned (.tuple #[.int .u64 0, .bool false]) ∧ (w.alloc (.cells #[.int .u64 l] 49)).alloc (.cells #[.int .u64 b] 49) = w' := by
  have hb2 := p2_bd hal
  have hd := dnI_bd (n := l - n) (a := al) (by omega) hb2.1
  generalize hA : dnI (l - n) al = at0 at hd hroom ⊢
  go_enter Try.func40, Try.ntmps40
  go_wp2_with (first | (go_at_call 45; refine (oaddr_at _ _).mono ?_; rintro e w1 ⟨rfl, rfl⟩) | (go_at_call 47; refine (malignDown_any _ _ _ (by omega) (by omega) hal).mono ?_; rintro e w1 ⟨rfl, rfl⟩; rw [hA]))
  go_ret2
  exact ⟨rfl, rfl⟩
theorem mTakeFromBack_yes (b l n al : Int) (w : World) (hb : 0 ≤ b) (hb' : b < 1099511627777) (hl : 0 ≤ l) (hl' : l < 1099511627777) (hn : 0 ≤ n) (hn' : n < 1099511627777) (hal : P2 al) (hnl : n ≤ l) (hroom : b ≤ dnI (l - n) al) :
    Calls Try.prog 30 #[.agg #[.int .u64 b, .int .u64 l], .int .u64 n, .int .u8 al] w fun e w' => e = .returned (.tuple #[.agg #[.int .u64 b, .int .u64 (dnI (l - n) al)], .int .u64 (dnI (l - n) al), .bool true]) ∧ Nx w w' := by
  go_enter Try.func30, Try.ntmps30
  go_wp2_with fail
  refine (min_any _ _ _).mono ?_
  rintro e w1 ⟨rfl, n1⟩
  have hs1 := nxs n1; (try simp only [World.size_alloc, World.size_setCell, World.size_drew] at hs1); (try (refine nxk n1 (w.heap.size) ?_ ?_; (focus ((try simp only [World.size_alloc, World.size_setCell, World.size_drew]); omega)); intro hc1 hf1; have hz1 : w.heap.size < w1.heap.size := (by omega))); (try (refine nxk n1 (w.heap.size + 1) ?_ ?_; (focus ((try simp only [World.size_alloc, World.size_setCell, World.size_drew]); omega)); intro hc1 hf1; have hz1 : w.heap.size + 1 < w1.heap.size := (by omega))); have hb1 := nx n1; clear n1
  go_wp2_with fail
  refine (ptakeFromBack_yes w1.heap.size b l n al _ (by simp) (by simp) (by simp) (by simp) (by simp) (by omega) (by omega) (by omega) (by omega) (by omega) (by omega) hal (by omega) hroom).mono ?_
  rintro e w2 ⟨rfl, rfl⟩
  go_wp2_with fail
  refine (mout_any _ _ _).mono ?_
  rintro e w3 ⟨rfl, n3⟩
  have hs3 := nxs n3; (try simp only [World.size_alloc, World.size_setCell, World.size_drew] at hs3); (try (refine nxk n3 (w.heap.size + 1) ?_ ?_; (focus ((try simp only [World.size_alloc, World.size_setCell, World.size_drew]); omega)); intro hc3 hf3; have hz3 : w.heap.size + 1 < w3.heap.size := (by omega))); have hyA3 := hc3 0; have hyB3 := hc3 1; clear hc3; (try simp [go_sem, *] at hyA3); (try simp [go_sem, *] at hyB3); have hb3 := nx n3; clear n3
  go_wp2_with fail
  exact bodyPost_ret (v := .tuple #[.agg #[.int .u64 b, .int .u64 ((dnI (l - n) al))], .int .u64 (dnI (l - n) al), .bool true]) (by simp [results, Try.results30, go_sem, *]) rfl ⟨rfl, (by show Below _ _ _; repeat (first | (with_reducible exact Below.refl _ _) | (with_reducible assumption) | (with_reducible refine Below.drew ?_) | ((with_reducible refine Below.alloc ?_ ?_ _); rotate_left; (focus first | omega | (simp; done) | (simp; omega))) | ((with_reducible refine Below.setCell ?_ ?_ _); rotate_left; (focus first | omega | (simp; done) | (simp; omega))) | ((with_reducible refine bl_step (by assumption) ?_ ?_); rotate_left; (focus first | omega | (simp; done) | (simp; omega)))))⟩
theorem mTakeFromBack_no (b l n al : Int) (w : World) (hb : 0 ≤ b) (hb' : b < 1099511627777) (hl : 0 ≤ l) (hl' : l < 1099511627777) (hn : 0 ≤ n) (hn' : n < 1099511627777) (hal : P2 al) (hnl : n ≤ l) (hroom : ¬ b ≤ dnI (l - n) al) :
    Calls Try.prog 30 #[.agg #[.int .u64 b, .int .u64 l], .int .u64 n, .int .u8 al] w fun e w' => e = .returned (.tuple #[.agg #[.int .u64 b, .int .u64 l], .int .u64 0, .bool false]) ∧ Nx w w' := by
  go_enter Try.func30, Try.ntmps30
  go_wp2_with fail
  refine (min_any _ _ _).mono ?_
  rintro e w1 ⟨rfl, n1⟩
  have hs1 := nxs n1; (try simp only [World.size_alloc, World.size_setCell, World.size_drew] at hs1); (try (refine nxk n1 (w.heap.size) ?_ ?_; (focus ((try simp only [World.size_alloc, World.size_setCell, World.size_drew]); omega)); intro hc1 hf1; have hz1 : w.heap.size < w1.heap.size := (by omega))); (try (refine nxk n1 (w.heap.size + 1) ?_ ?_; (focus ((try simp only [World.size_alloc, World.size_setCell, World.size_drew]); omega)); intro hc1 hf1; have hz1 : w.heap.size + 1 < w1.heap.size := (by omega))); have hb1 := nx n1; clear n1
  go_wp2_with fail
  refine (ptakeFromBack_no w1.heap.size b l n al _ (by simp) (by simp) (by simp) (by omega) (by omega) (by omega) (by omega) (by omega) (by omega) hal (by omega) (by omega)).mono ?_
  rintro e w2 ⟨rfl, rfl⟩
  go_wp2_with fail
  refine (mout_any _ _ _).mono ?_
  rintro e w3 ⟨rfl, n3⟩
  have hs3 := nxs n3; (try simp only [World.size_alloc, World.size_setCell, World.size_drew] at hs3); (try (refine nxk n3 (w.heap.size + 1) ?_ ?_; (focus ((try simp only [World.size_alloc, World.size_setCell, World.size_drew]); omega)); intro hc3 hf3; have hz3 : w.heap.size + 1 < w3.heap.size := (by omega))); have hyA3 := hc3 0; have hyB3 := hc3 1; clear hc3; (try simp [go_sem, *] at hyA3); (try simp [go_sem, *] at hyB3); have hb3 := nx n3; clear n3
  go_wp2_with fail
  exact bodyPost_ret (v := .tuple #[.agg #[.int .u64 b, .int .u64 l], .int .u64 0, .bool false]) (by simp [results, Try.results30, go_sem, *]) rfl ⟨rfl, (by show Below _ _ _; repeat (first | (with_reducible exact Below.refl _ _) | (with_reducible assumption) | (with_reducible refine Below.drew ?_) | ((with_reducible refine Below.alloc ?_ ?_ _); rotate_left; (focus first | omega | (simp; done) | (simp; omega))) | ((with_reducible refine Below.setCell ?_ ?_ _); rotate_left; (focus first | omega | (simp; done) | (simp; omega))) | ((with_reducible refine bl_step (by assumption) ?_ ?_); rotate_left; (focus first | omega | (simp; done) | (simp; omega)))))⟩
theorem iTakeFromFront_yes (b l n al : Int) (w : World) (hb : 0 ≤ b) (hb' : b < 1099511627777) (hl : 0 ≤ l) (hl' : l < 1099511627777) (hn : 0 ≤ n) (hn' : n < 1099511627777) (hal : P2 al) (hroom : dnI (b + al - 1) al + n ≤ l) :
    Calls Try.prog 21 #[.agg #[.int .u64 b, .int .u64 l], .int .u64 n, .int .u8 al] w fun e w' => e = .returned (.tuple #[.agg #[.int .u64 (dnI (b + al - 1) al + n), .int .u64 l], .int .u64 (dnI (b + al - 1) al), .bool true]) ∧ Nx w w' := by
  have hm := fun W => mTakeFromFront_yes b l n al W hb hb' hl hl' hn hn' hal hroom
  go_enter Try.func21, Try.ntmps21
  go_wp2_with fail
  refine (hm _).mono ?_
  rintro e w1 ⟨rfl, n1⟩
  have hs1 := nxs n1; (try simp only [World.size_alloc, World.size_setCell, World.size_drew] at hs1); (try (refine nxk n1 (w.heap.size + 1) ?_ ?_; (focus ((try simp only [World.size_alloc, World.size_setCell, World.size_drew]); omega)); intro hc1 hf1; have hz1 : w.heap.size + 1 < w1.heap.size := (by omega))); have hyA1 := hc1 0; have hyB1 := hc1 1; clear hc1; (try simp [go_sem, *] at hyA1); (try simp [go_sem, *] at hyB1); have hb1 := nx n1; clear n1
  clear hm
  go_wp2_with fail
  exact bodyPost_ret (v := .tuple #[.agg #[.int .u64 (dnI (b + al - 1) al + n), .int .u64 l], .int .u64 (dnI (b + al - 1) al), .bool true]) (by simp [results, Try.results21, go_sem, *]) rfl ⟨rfl, (by show Below _ _ _; repeat (first | (with_reducible exact Below.refl _ _) | (with_reducible assumption) | (with_reducible refine Below.drew ?_) | ((with_reducible refine Below.alloc ?_ ?_ _); rotate_left; (focus first | omega | (simp; done) | (simp; omega))) | ((with_reducible refine Below.setCell ?_ ?_ _); rotate_left; (focus first | omega | (simp; done) | (simp; omega))) | ((with_reducible refine bl_step (by assumption) ?_ ?_); rotate_left; (focus first | omega | (simp; done) | (simp; omega)))))⟩
theorem iTakeFromFront_no (b l n al : Int) (w : World) (hb : 0 ≤ b) (hb' : b < 1099511627777) (hl : 0 ≤ l) (hl' : l < 1099511627777) (hn : 0 ≤ n) (hn' : n < 1099511627777) (hal : P2 al) (hroom : ¬ dnI (b + al - 1) al + n ≤ l) :
    Calls Try.prog 21 #[.agg #[.int .u64 b, .int .u64 l], .int .u64 n, .int .u8 al] w fun e w' => e = .returned (.tuple #[.agg #[.int .u64 b, .int .u64 l], .int .u64 0, .bool false]) ∧ Nx w w' := by
  have hm := fun W => mTakeFromFront_no b l n al W hb hb' hl hl' hn hn' hal hroom
  go_enter Try.func21, Try.ntmps21
  go_wp2_with fail
  refine (hm _).mono ?_
  rintro e w1 ⟨rfl, n1⟩
  have hs1 := nxs n1; (try simp only [World.size_alloc, World.size_setCell, World.size_drew] at hs1); (try (refine nxk n1 (w.heap.size + 1) ?_ ?_; (focus ((try simp only [World.size_alloc, World.size_setCell, World.size_drew]); omega)); intro hc1 hf1; have hz1 : w.heap.size + 1 < w1.heap.size := (by omega))); have hyA1 := hc1 0; have hyB1 := hc1 1; clear hc1; (try simp [go_sem, *] at hyA1); (try simp [go_sem, *] at hyB1); have hb1 := nx n1; clear n1
  clear hm
  go_wp2_with fail
  exact bodyPost_ret (v := .tuple #[.agg #[.int .u64 b, .int .u64 l], .int .u64 0, .bool false]) (by simp [results, Try.results21, go_sem, *]) rfl ⟨rfl, (by show Below _ _ _; repeat (first | (with_reducible exact Below.refl _ _) | (with_reducible assumption) | (with_reducible refine Below.drew ?_) | ((with_reducible refine Below.alloc ?_ ?_ _); rotate_left; (focus first | omega | (simp; done) | (simp; omega))) | ((with_reducible refine Below.setCell ?_ ?_ _); rotate_left; (focus first | omega | (simp; done) | (simp; omega))) | ((with_reducible refine bl_step (by assumption) ?_ ?_); rotate_left; (focus first | omega | (simp; done) | (simp; omega)))))⟩
theorem iTakeFromBack_yes (b l n al : Int) (w : World) (hb : 0 ≤ b) (hb' : b < 1099511627777) (hl : 0 ≤ l) (hl' : l < 1099511627777) (hn : 0 ≤ n) (hn' : n < 1099511627777) (hal : P2 al) (hnl : n ≤ l) (hroom : b ≤ dnI (l - n) al) :
    Calls Try.prog 20 #[.agg #[.int .u64 b, .int .u64 l], .int .u64 n, .int .u8 al] w fun e w' => e = .returned (.tuple #[.agg #[.int .u64 b, .int .u64 (dnI (l - n) al)], .int .u64 (dnI (l - n) al), .bool true]) ∧ Nx w w' := by
  have hm := fun W => mTakeFromBack_yes b l n al W hb hb' hl hl' hn hn' hal hnl hroom
  go_enter Try.func20, Try.ntmps20
  go_wp2_with fail
  refine (hm _).mono ?_
  rintro e w1 ⟨rfl, n1⟩
  have hs1 := nxs n1; (try simp only [World.size_alloc, World.size_setCell, World.size_drew] at hs1); (try (refine nxk n1 (w.heap.size + 1) ?_ ?_; (focus ((try simp only [World.size_alloc, World.size_setCell, World.size_drew]); omega)); intro hc1 hf1; have hz1 : w.heap.size + 1 < w1.heap.size := (by omega))); have hyA1 := hc1 0; have hyB1 := hc1 1; clear hc1; (try simp [go_sem, *] at hyA1); (try simp [go_sem, *] at hyB1); have hb1 := nx n1; clear n1
  clear hm
  go_wp2_with fail
  exact bodyPost_ret (v := .tuple #[.agg #[.int .u64 b, .int .u64 (dnI (l - n) al)], .int .u64 (dnI (l - n) al), .bool true]) (by simp [results, Try.results20, go_sem, *]) rfl ⟨rfl, (by show Below _ _ _; repeat (first | (with_reducible exact Below.refl _ _) | (with_reducible assumption) | (with_reducible refine Below.drew ?_) | ((with_reducible refine Below.alloc ?_ ?_ _); rotate_left; (focus first | omega | (simp; done) | (simp; omega))) | ((with_reducible refine Below.setCell ?_ ?_ _); rotate_left; (focus first | omega | (simp; done) | (simp; omega))) | ((with_reducible refine bl_step (by assumption) ?_ ?_); rotate_left; (focus first | omega | (simp; done) | (simp; omega)))))⟩
theorem iTakeFromBack_no (b l n al : Int) (w : World) (hb : 0 ≤ b) (hb' : b < 1099511627777) (hl : 0 ≤ l) (hl' : l < 1099511627777) (hn : 0 ≤ n) (hn' : n < 1099511627777) (hal : P2 al) (hnl : n ≤ l) (hroom : ¬ b ≤ dnI (l - n) al) :
    Calls Try.prog 20 #[.agg #[.int .u64 b, .int .u64 l], .int .u64 n, .int .u8 al] w fun e w' => e = .returned (.tuple #[.agg #[.int .u64 b, .int .u64 l], .int .u64 0, .bool false]) ∧ Nx w w' := by
  have hm := fun W => mTakeFromBack_no b l n al W hb hb' hl hl' hn hn' hal hnl hroom
  go_enter Try.func20, Try.ntmps20
  go_wp2_with fail
  refine (hm _).mono ?_
  rintro e w1 ⟨rfl, n1⟩
  have hs1 := nxs n1; (try simp only [World.size_alloc, World.size_setCell, World.size_drew] at hs1); (try (refine nxk n1 (w.heap.size + 1) ?_ ?_; (focus ((try simp only [World.size_alloc, World.size_setCell, World.size_drew]); omega)); intro hc1 hf1; have hz1 : w.heap.size + 1 < w1.heap.size := (by omega))); have hyA1 := hc1 0; have hyB1 := hc1 1; clear hc1; (try simp [go_sem, *] at hyA1); (try simp [go_sem, *] at hyB1); have hb1 := nx n1; clear n1
  clear hm
  go_wp2_with fail
  exact bodyPost_ret (v := .tuple #[.agg #[.int .u64 b, .int .u64 l], .int .u64 0, .bool false]) (by simp [results, Try.results20, go_sem, *]) rfl ⟨rfl, (by show Below _ _ _; repeat (first | (with_reducible exact Below.refl _ _) | (with_reducible assumption) | (with_reducible refine Below.drew ?_) | ((with_reducible refine Below.alloc ?_ ?_ _); rotate_left; (focus first | omega | (simp; done) | (simp; omega))) | ((with_reducible refine Below.setCell ?_ ?_ _); rotate_left; (focus first | omega | (simp; done) | (simp; omega))) | ((with_reducible refine bl_step (by assumption) ?_ ?_); rotate_left; (focus first | omega | (simp; done) | (simp; omega)))))⟩
end Go.Proofs.Ytjhchjocaafakaa
