/- FindSucc, InList, FindAddrGreaterEqual, through the package and the thin package. -/
import Derived.Test.YtppdgbjalnbboaaFs
import Derived.Test.YtppdgbjalnbboaaLi
namespace Go.Proofs.Ytppdgbjalnbboaa
open Go.RowKit
set_option linter.unusedVariables false

theorem mFindSucc_any (A : Option Addr) (c : Nat) (L : List R) (x : Int) (w : World) (h : SlAt w A c L) (hn : L.length ≤ 65536) (hL : InB L) (hT : Td L) (hx : 0 ≤ x) (hx' : x < 4398046511104) :
    Calls Try.prog 26 #[.slice A L.length c, .int .u64 x] w (RetSucc L x w) := by
  go_enter Try.func26, Try.ntmps26
  go_wp2_with fail
  refine (mins_any A c L _ h hn hL).mono ?_
  rintro e w1 ⟨G, g, c', rfl, har, n1⟩
  go_wp2_with fail
  refine (lfindSucc_any _ G g c' L _ x _ har hn hL hT hx hx').mono ?_
  rintro e w2 ⟨i, rfl, hs, n2⟩
  go_wp2_with fail
  go_ret
  exact ⟨i, rfl, hs, bl_step n2 n1 n1.size⟩
theorem iFindSucc_any (A : Option Addr) (c : Nat) (L : List R) (x : Int) (w : World) (h : SlAt w A c L) (hn : L.length ≤ 65536) (hL : InB L) (hT : Td L) (hx : 0 ≤ x) (hx' : x < 4398046511104) :
    Calls Try.prog 18 #[.slice A L.length c, .int .u64 x] w (RetSucc L x w) := by
  go_enter Try.func18, Try.ntmps18
  go_wp2_with fail
  refine (igiven_any A c L _ h hn).mono ?_
  rintro e w1 ⟨A1, c1, rfl, hs1, n1⟩
  go_wp2_with fail
  refine (mFindSucc_any A1 c1 L x _ hs1 hn hL hT hx hx').mono ?_
  rintro e w2 ⟨i, rfl, hs, n2⟩
  go_wp2_with fail
  go_ret
  exact ⟨i, rfl, hs, bl_step n2 n1 n1.size⟩

/-- An address of a list. -/
def hasL (L : List R) (x : Int) : Bool := L.any fun r => hasB r.1 r.2 x
theorem hasL_iff (L : List R) (x : Int) : hasL L x = true ↔ ∃ j, ∃ h : j < L.length, (L[j]).1 ≤ x ∧ x < (L[j]).2 := by
  simp only [hasL, List.any_eq_true, hasB_iff]
  constructor
  · rintro ⟨r, hr, h⟩
    obtain ⟨j, hj, rfl⟩ := List.getElem_of_mem hr
    exact ⟨j, hj, h⟩
  · rintro ⟨j, hj, h⟩
    exact ⟨_, List.getElem_mem hj, h⟩
/-- Only the range ahead of the first one above x can have it. -/
theorem hasL_succ {L : List R} (hT : Td L) {x : Int} {i : Nat} (hs : SuccAt L x (i + 1)) (hi : i < L.length) : hasL L x = hasB (L[i]).1 (L[i]).2 x := by
  rw [Bool.eq_iff_iff, hasL_iff, hasB_iff]
  constructor
  · rintro ⟨j, hj, h1, h2⟩
    by_cases hji : j = i
    · subst hji; exact ⟨h1, h2⟩
    · by_cases hlt : j < i
      · have := hT.up j i hj hi hlt
        have := hs.lo i hi (by omega)
        omega
      · have := hs.hi j hj (by omega)
        omega
  · intro h
    exact ⟨i, hi, h⟩
theorem hasL_zero {L : List R} {x : Int} (hs : SuccAt L x 0) : hasL L x = false := by
  rw [← Bool.not_eq_true, hasL_iff]
  rintro ⟨j, hj, h1, h2⟩
  have := hs.hi j hj (by omega)
  omega
theorem lcontains_any (base G g c : Nat) (L : List R) (tot x : Int) (w : World) (h : ArAt base w G g c L tot) (hn : L.length ≤ 65536) (hL : InB L) (hT : Td L) (hx : 0 ≤ x) (hx' : x < 4398046511104) :
    Calls Try.prog 36 #[.pointer (some ⟨G, 0, none⟩), .int .u64 x] w fun e w' => e = .returned (.bool (hasL L x)) ∧ Nx w w' := by
  go_enter Try.func36, Try.ntmps36
  go_wp2_with fail
  refine (lfindSucc_any _ G g c L tot x _ h hn hL hT hx hx').mono ?_
  rintro e w1 ⟨i, rfl, hs, n1⟩
  cases i with
  | zero =>
    have hz := Lib.hid (hasL_zero hs)
    go_wp2_with fail
    go_ret
    exact ⟨ret_bool hz.out.symm, n1⟩
  | succ i =>
    have hi : i < L.length := hs.le
    have hz := Lib.hid (hasL_succ hT hs hi)
    have hbd := hL.at hi
    obtain ⟨q0, q1, q2, q3⟩ := (h.nx n1).cells
    obtain ⟨c0, c1⟩ := (h.nx n1).at hi
    have hne : (((i + 1 : Nat) : Int) == 0) = false := by simp; omega
    generalize L[i] = r at hbd c0 c1 hz
    clear hs
    go_wp2_with (first | (go_at_call 43; refine (rcontains_any _ _ _ _ (by omega) (by omega) (by omega) (by omega) (by omega) (by omega)).mono ?_; rintro e w1 ⟨rfl, n1⟩; have hs1 := nxs n1; (try simp only [World.size_alloc, World.size_setCell, World.size_drew] at hs1); (try (refine nxk n1 (w.heap.size) ?_ ?_; (focus ((try simp only [World.size_alloc, World.size_setCell, World.size_drew]); omega)); intro hc1 hf1; have hz1 : w.heap.size < w1.heap.size := (by omega))); (try (refine nxk n1 (w.heap.size + 1) ?_ ?_; (focus ((try simp only [World.size_alloc, World.size_setCell, World.size_drew]); omega)); intro hc1 hf1; have hz1 : w.heap.size + 1 < w1.heap.size := (by omega))); (try (refine nxk n1 (w.heap.size + 2) ?_ ?_; (focus ((try simp only [World.size_alloc, World.size_setCell, World.size_drew]); omega)); intro hc1 hf1; have hz1 : w.heap.size + 2 < w1.heap.size := (by omega))); have hb1 := nx n1; clear n1))
    go_ret
    exact ⟨ret_bool hz.out.symm, bl_step hb1 n1 n1.size⟩
theorem mInList_any (A : Option Addr) (c : Nat) (L : List R) (x : Int) (w : World) (h : SlAt w A c L) (hn : L.length ≤ 65536) (hL : InB L) (hT : Td L) (hx : 0 ≤ x) (hx' : x < 4398046511104) :
    Calls Try.prog 27 #[.slice A L.length c, .int .u64 x] w fun e w' => e = .returned (.bool (hasL L x)) ∧ Nx w w' := by
  go_enter Try.func27, Try.ntmps27
  go_wp2_with fail
  refine (mins_any A c L _ h hn hL).mono ?_
  rintro e w1 ⟨G, g, c', rfl, har, n1⟩
  go_wp2_with fail
  refine (lcontains_any _ G g c' L _ x _ har hn hL hT hx hx').mono ?_
  rintro e w2 ⟨rfl, n2⟩
  go_wp2_with fail
  go_ret
  exact ⟨rfl, bl_step n2 n1 n1.size⟩
theorem iInList_any (A : Option Addr) (c : Nat) (L : List R) (x : Int) (w : World) (h : SlAt w A c L) (hn : L.length ≤ 65536) (hL : InB L) (hT : Td L) (hx : 0 ≤ x) (hx' : x < 4398046511104) :
    Calls Try.prog 19 #[.slice A L.length c, .int .u64 x] w fun e w' => e = .returned (.bool (hasL L x)) ∧ Nx w w' := by
  go_enter Try.func19, Try.ntmps19
  go_wp2_with fail
  refine (igiven_any A c L _ h hn).mono ?_
  rintro e w1 ⟨A1, c1, rfl, hs1, n1⟩
  go_wp2_with fail
  refine (mInList_any A1 c1 L x _ hs1 hn hL hT hx hx').mono ?_
  rintro e w2 ⟨rfl, n2⟩
  go_wp2_with fail
  go_ret
  exact ⟨rfl, bl_step n2 n1 n1.size⟩
/-- Number j is that of the first range that ends above x. -/
structure GeAt (L : List R) (x : Int) (j : Nat) : Prop where
  le : j ≤ L.length
  lo : ∀ i (h : i < L.length), i < j → (L[i]).2 ≤ x
  hi : ∀ i (h : i < L.length), j ≤ i → x < (L[i]).2
theorem ge_unique {L : List R} {x : Int} {i j : Nat} (h : GeAt L x i) (k : GeAt L x j) : i = j := by
  have key : ∀ {i j : Nat}, GeAt L x i → GeAt L x j → ¬ i < j := fun {i j} h k hlt => by
    have hi : i < L.length := by have := k.le; omega
    have := h.hi i hi (Nat.le_refl _)
    have := k.lo i hi hlt
    omega
  have := key h k
  have := key k h
  omega
theorem Td.lim_mono {L : List R} (h : Td L) {i j : Nat} (hi : i < L.length) (hj : j < L.length) (hij : i ≤ j) : (L[i]).2 ≤ (L[j]).2 := by
  rcases Nat.lt_or_eq_of_le hij with hlt | rfl
  · have := h.ne j hj; have := h.up i j hi hj hlt; omega
  · exact Int.le_refl _
/-- What is found. -/
def fgV (L : List R) (x : Int) (j : Nat) : Int := if h : j < L.length then (if x < (L[j]).1 then (L[j]).1 else x) else 0
def RetFge (L : List R) (x : Int) (w : World) (e : Ending) (w' : World) : Prop := ∃ j, GeAt L x j ∧ e = .returned (.tuple #[.int .u64 (fgV L x j), .bool (decide (j < L.length))]) ∧ Nx w w'
theorem fge_zero {L : List R} (hT : Td L) {x : Int} (hs : SuccAt L x 0) (hp : 0 < L.length) : GeAt L x 0 ∧ fgV L x 0 = (L[0]).1 := by
  have h0 := hs.hi 0 hp (Nat.le_refl _)
  refine ⟨⟨by omega, fun i hi h => by omega, fun i hi _ => ?_⟩, ?_⟩
  · have := hs.hi i hi (by omega); have := hT.ne i hi; omega
  · unfold fgV; rw [dif_pos hp, if_pos h0]
theorem fge_hit {L : List R} (hT : Td L) {x : Int} {k : Nat} (hs : SuccAt L x (k + 1)) (hk : k < L.length) (hx : x < (L[k]).2) : GeAt L x k ∧ fgV L x k = x := by
  have h0 := hs.lo k hk (by omega)
  refine ⟨⟨by omega, fun i hi h => ?_, fun i hi h => ?_⟩, ?_⟩
  · have := hT.up i k hi hk h; omega
  · have := hT.lim_mono hk hi h; omega
  · unfold fgV; rw [dif_pos hk, if_neg (by omega)]
theorem fge_next {L : List R} (hT : Td L) {x : Int} {k : Nat} (hs : SuccAt L x (k + 1)) (hk : k < L.length) (hx : (L[k]).2 ≤ x) : GeAt L x (k + 1) ∧ (∀ h : k + 1 < L.length, fgV L x (k + 1) = (L[k + 1]).1) ∧ (¬ k + 1 < L.length → fgV L x (k + 1) = 0) := by
  refine ⟨⟨hs.le, fun i hi h => ?_, fun i hi h => ?_⟩, fun h => ?_, fun h => ?_⟩
  · have := hT.lim_mono hi hk (by omega); omega
  · have := hs.hi i hi h; have := hT.ne i hi; omega
  · have := hs.hi (k + 1) h (Nat.le_refl _); unfold fgV; rw [dif_pos h, if_pos this]
  · unfold fgV; rw [dif_neg h]
set_option maxHeartbeats 1000000 in
theorem lfindAddrGreaterEqual_any (base G g c : Nat) (L : List R) (tot x : Int) (w : World) (h : ArAt base w G g c L tot) (hn : L.length ≤ 65536) (hp : 0 < L.length) (hL : InB L) (hT : Td L) (hx : 0 ≤ x) (hx' : x < 4398046511104) :
    Calls Try.prog 37 #[.pointer (some ⟨G, 0, none⟩), .int .u64 x] w (RetFge L x w) := by
  go_enter Try.func37, Try.ntmps37
  go_wp2_with fail
  refine (lfindSucc_any _ G g c L tot x _ h hn hL hT hx hx').mono ?_
  rintro e w1 ⟨i, rfl, hs, n1⟩
  obtain ⟨q0, q1, q2, q3⟩ := (h.nx n1).cells
  have hpi : (0 : Int) < (L.length : Int) := by omega
  cases i with
  | zero =>
    have hz := Lib.hid (fge_zero hT hs hp)
    obtain ⟨c0, c1⟩ := (h.nx n1).at hp
    rw [Nat.zero_mul] at c0
    have hd : decide (0 < L.length) = true := by simpa using hp
    generalize L[0] = r at hz c0
    clear hs
    go_wp2_with fail
    refine (oaddr_any _ _).mono ?_
    rintro e w2 ⟨rfl, n2⟩
    go_wp2_with fail
    go_ret2
    exact ⟨0, hz.out.1, by rw [hz.out.2, hd]; rfl, bl_step n2 n1 n1.size⟩
  | succ k =>
    have hk : k < L.length := hs.le
    have hbd := hL.at hk
    obtain ⟨c0, c1⟩ := (h.nx n1).at hk
    have hne : (((k + 1 : Nat) : Int) == 0) = false := by rw [beq_eq_false_iff_ne]; omega
    have hlo := hs.lo k hk (by omega)
    by_cases hc : x < (L[k]).2
    · have hz := Lib.hid (fge_hit hT hs hk hc)
      have hB : hasB (L[k]).1 (L[k]).2 x = true := (hasB_iff _ _ _).2 ⟨hlo, hc⟩
      have hd : decide (k < L.length) = true := by simpa using hk
      clear hs
      generalize L[k] = r at hbd c0 c1 hB
      clear hlo hc
      go_wp2_with fail
      refine (rcontains_any _ _ _ _ hbd.1 hbd.2.1 hbd.2.2.1 hbd.2.2.2 hx hx').mono ?_
      rintro e w2 ⟨rfl, n2⟩
      rw [hB]
      go_wp2_with fail
      go_ret2
      exact ⟨k, hz.out.1, by rw [hz.out.2, hd]; rfl, bl_step n2 n1 n1.size⟩
    · have hz := Lib.hid (fge_next hT hs hk (by omega))
      have hB : hasB (L[k]).1 (L[k]).2 x = false := (hasB_not _ _ _).2 (by omega)
      by_cases hlt : k + 1 < L.length
      · have hd : decide (k + 1 < L.length) = true := by simpa using hlt
        have hlti : ((k : Int) + 1) < (L.length : Int) := by omega
        have hzv := Lib.hid (hz.out.2.1 hlt)
        clear hs
        generalize L[k] = r at hbd c0 c1 hB
        clear hlo hc
        go_wp2_with fail
        refine (rcontains_any _ _ _ _ hbd.1 hbd.2.1 hbd.2.2.1 hbd.2.2.2 hx hx').mono ?_
        rintro e w2 ⟨rfl, n2⟩
        rw [hB]
        obtain ⟨y0, y1, y2, y3⟩ := ((h.nx n1).nx n2).cells
        obtain ⟨d0, d1⟩ := ((h.nx n1).nx n2).at hlt
        generalize L[k + 1] = s at d0 d1 hzv
        go_wp2_with fail
        refine (oaddr_any _ _).mono ?_
        rintro e w3 ⟨rfl, n3⟩
        go_wp2_with fail
        go_ret2
        exact ⟨k + 1, hz.out.1, by rw [hzv.out, hd]; rfl, bl_step n3 (bl_step n2 n1 n1.size) (Nat.le_trans n1.size n2.size)⟩
      · have hd : decide (k + 1 < L.length) = false := by simpa using hlt
        have hlti : ¬ ((k : Int) + 1) < (L.length : Int) := by omega
        have hzv := Lib.hid (hz.out.2.2 hlt)
        clear hs
        generalize L[k] = r at hbd c0 c1 hB
        clear hlo hc
        go_wp2_with fail
        refine (rcontains_any _ _ _ _ hbd.1 hbd.2.1 hbd.2.2.1 hbd.2.2.2 hx hx').mono ?_
        rintro e w2 ⟨rfl, n2⟩
        rw [hB]
        obtain ⟨y0, y1, y2, y3⟩ := ((h.nx n1).nx n2).cells
        go_wp2_with fail
        go_ret2
        exact ⟨k + 1, hz.out.1, by rw [hzv.out, hd]; rfl, bl_step n2 n1 n1.size⟩
theorem mFindAddrGreaterEqual_any (A : Option Addr) (c : Nat) (L : List R) (x : Int) (w : World) (h : SlAt w A c L) (hn : L.length ≤ 65536) (hp : 0 < L.length) (hL : InB L) (hT : Td L) (hx : 0 ≤ x) (hx' : x < 4398046511104) :
    Calls Try.prog 29 #[.slice A L.length c, .int .u64 x] w (RetFge L x w) := by
  go_enter Try.func29, Try.ntmps29
  go_wp2_with fail
  refine (mins_any A c L _ h hn hL).mono ?_
  rintro e w1 ⟨G, g, c', rfl, har, n1⟩
  go_wp2_with fail
  refine (lfindAddrGreaterEqual_any _ G g c' L _ x _ har hn hp hL hT hx hx').mono ?_
  rintro e w2 ⟨j, hj, rfl, n2⟩
  go_wp2_with fail
  go_ret2
  exact ⟨j, hj, rfl, bl_step n2 n1 n1.size⟩
theorem iFindAddrGreaterEqual_any (A : Option Addr) (c : Nat) (L : List R) (x : Int) (w : World) (h : SlAt w A c L) (hn : L.length ≤ 65536) (hp : 0 < L.length) (hL : InB L) (hT : Td L) (hx : 0 ≤ x) (hx' : x < 4398046511104) :
    Calls Try.prog 21 #[.slice A L.length c, .int .u64 x] w (RetFge L x w) := by
  go_enter Try.func21, Try.ntmps21
  go_wp2_with fail
  refine (igiven_any A c L _ h hn).mono ?_
  rintro e w1 ⟨A1, c1, rfl, hs1, n1⟩
  go_wp2_with fail
  refine (mFindAddrGreaterEqual_any A1 c1 L x _ hs1 hn hp hL hT hx hx').mono ?_
  rintro e w2 ⟨j, hj, rfl, n2⟩
  go_wp2_with fail
  go_ret2
  exact ⟨j, hj, rfl, bl_step n2 n1 n1.size⟩
end Go.Proofs.Ytppdgbjalnbboaa
