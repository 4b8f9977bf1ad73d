/- The reference's functions on lists. -/
import Derived.Test.YtnmljgjcdofboaaFi
import Derived.Deep.QuietTactic
import Derived.BigQuiet
import Derived.Deep.DeepCutAuto
namespace Go.Proofs.Ytnmljgjcdofboaa
open Go.RowKit
set_option linter.unusedVariables false
set_option linter.unusedSimpArgs false

theorem hasL_take (L : List R) (x : Int) (k : Nat) (hk : k < L.length) : hasL (L.take (k + 1)) x = (hasL (L.take k) x || hasB (L[k]).1 (L[k]).2 x) := by
  unfold hasL; rw [List.take_succ_eq_append_getElem hk, List.any_append]; simp only [List.any_cons, List.any_nil, Bool.or_false]
theorem hasL_mono (L : List R) (x : Int) (k : Nat) (hk : k < L.length) (h : hasB (L[k]).1 (L[k]).2 x = true) : hasL L x = true := by
  simp only [hasL, List.any_eq_true]
  exact ⟨_, List.getElem_mem hk, h⟩
set_option maxHeartbeats 1000000 in
theorem sIn_any (A : Option Addr) (c : Nat) (L : List R) (x : Int) (w : World) (h : SlAt w A c L) (hn : L.length ≤ 65536) :
    Calls Try.prog 27 #[.slice A L.length c, .int .u64 x] w fun e w' => e = .returned (.bool (hasL L x)) ∧ Nx w w' := by
  go_enter Try.func27, Try.ntmps27
  go_wp2
  go_loopg [5] L.length (fun gn v wr => ∃ k : Nat, k ≤ L.length ∧ L.length - k ≤ gn ∧ v = .int .i64 k ∧ Hid (hasL (L.take k) x = false) ∧ Nx w wr)
  case atStart => exact ⟨0, by omega, by omega, rfl, rfl, Below.refl _ _⟩
  case round =>
    obtain ⟨k, hk, hg, rfl, hno, hb⟩ := hrel
    by_cases hlt : k < L.length
    · obtain ⟨g, rfl, hgs, hc0, hc1⟩ := (h.nx hb).at hlt
      have ht := Lib.hid (hasL_take L x k hlt)
      have hm := Lib.hid (hasL_mono L x k hlt)
      generalize L[k] = r at hc0 hc1 ht hm
      go_wp2_with fail
      refine (sHas_any _ _ _ _).mono ?_
      rintro e w1 ⟨rfl, n1⟩
      have hb1 := bl_step n1 hb hb.size
      by_cases hh : hasB r.1 r.2 x = true
      · go_wp2
        go_ret
        exact ⟨ret_bool (hm.out hh).symm, hb1⟩
      · have hh : hasB r.1 r.2 x = false := by simpa using hh
        go_wp2
        go_roundg (L.length - (k + 1))
        case measure => omega
        case rel => exact ⟨k + 1, by omega, by omega, by go_num, by show hasL (L.take (k + 1)) x = false; rw [ht.out, hno.out, hh]; rfl, hb1⟩
    · have hkl : k = L.length := by omega
      have hno2 : hasL L x = false := by have := hno.out; rw [hkl, List.take_length] at this; exact this
      have H2 := Lib.hid hno2
      clear hno hno2 hkl
      go_wp2
      go_ret
      exact ⟨ret_bool H2.out.symm, hb⟩
set_option maxHeartbeats 1000000 in
theorem sTotal_any (A : Option Addr) (c : Nat) (L : List R) (w : World) (h : SlAt w A c L) (hn : L.length ≤ 65536) (hL : InB L) :
    Calls Try.prog 20 #[.slice A L.length c] w fun e w' => e = .returned (.int .u64 (totL L)) ∧ Nx w w' := by
  go_enter Try.func20, Try.ntmps20
  go_wp2
  go_loopg [3, 4] L.length (fun gn s v wr => ∃ k : Nat, k ≤ L.length ∧ L.length - k ≤ gn ∧ v = .int .i64 k ∧ s = .int .u64 (totL (L.take k)) ∧ Nx w wr)
  case atStart => exact ⟨0, by omega, by omega, rfl, rfl, Below.refl _ _⟩
  case round =>
    obtain ⟨k, hk, hg, rfl, rfl, hb⟩ := hrel
    by_cases hlt : k < L.length
    · obtain ⟨g, rfl, hgs, hc0, hc1⟩ := (h.nx hb).at hlt
      have hbd := hL.at hlt
      have ht := totL_take L k hlt
      have hTb := totL_bd _ (hL.take k)
      have hTk : (L.take k).length ≤ 65536 := by rw [List.length_take]; omega
      have hS := szI_bd (L[k]).1 (L[k]).2 (by omega) (by omega) (by omega)
      have hT0 : 0 ≤ totL (L.take k) ∧ totL (L.take k) ≤ 288230376151711744 := by omega
      clear hTb hTk
      generalize L[k] = r at hc0 hc1 ht hbd hS
      generalize totL (L.take k) = s0 at ht hT0 ⊢
      have HT := Lib.hid ht
      clear ht
      go_wp2_with fail
      refine (sSize_any _ _ _ (by omega) (by omega) (by omega) (by omega)).mono ?_
      rintro e w1 ⟨rfl, n1⟩
      have hb1 := bl_step n1 hb hb.size
      go_wp2
      go_roundg (L.length - (k + 1))
      case measure => omega
      case rel => exact ⟨k + 1, by omega, by omega, by go_num, by rw [HT.out], hb1⟩
    · have hkl : k = L.length := by omega
      subst hkl
      rw [List.take_length]
      go_wp2
      go_ret
      exact ⟨rfl, hb⟩
def sameB (L M : List R) : Bool := decide (L = M)
theorem same_len {L M : List R} (h : L.length ≠ M.length) : sameB L M = false := by
  unfold sameB; simp only [decide_eq_false_iff_not]; intro e; exact h (by rw [e])
theorem same_ne {L M : List R} {k : Nat} (h1 : k < L.length) (h2 : k < M.length) (h : L[k] ≠ M[k]) : sameB L M = false := by
  unfold sameB; simp only [decide_eq_false_iff_not]; intro e; subst e; exact h rfl
theorem same_yes {L M : List R} (h : L.length = M.length) (hk : ∀ j (h1 : j < L.length) (h2 : j < M.length), L[j] = M[j]) : sameB L M = true := by
  unfold sameB; simp only [decide_eq_true_eq]; exact List.ext_getElem h hk
set_option maxHeartbeats 1000000 in
theorem sSame_any (A A2 : Option Addr) (c c2 : Nat) (L M : List R) (w : World) (h : SlAt w A c L) (h2 : SlAt w A2 c2 M) (hn : L.length ≤ 65536) (hn2 : M.length ≤ 65536) :
    Calls Try.prog 15 #[.slice A L.length c, .slice A2 M.length c2] w fun e w' => e = .returned (.bool (sameB L M)) ∧ Nx w w' := by
  by_cases hlen : L.length = M.length
  · have hne : ((L.length : Int) != (M.length : Int)) = false := by rw [hlen]; simp
    have HL := Lib.hid hlen
    clear hlen
    go_enter Try.func15, Try.ntmps15
    go_wp2
    go_loopg [5] L.length (fun gn v wr => ∃ k : Nat, k ≤ L.length ∧ L.length - k ≤ gn ∧ v = .int .i64 k ∧ Hid (∀ j (h1 : j < L.length) (h2 : j < M.length), j < k → L[j] = M[j]) ∧ Nx w wr)
    case atStart => exact ⟨0, by omega, by omega, rfl, fun _ _ _ h => by omega, Below.refl _ _⟩
    case round =>
      obtain ⟨k, hk, hg, rfl, hs, hb⟩ := hrel
      by_cases hlt : k < L.length
      · have hlt2 : k < M.length := by have := HL.out; omega
        obtain ⟨g, rfl, hgs, hc0, hc1⟩ := (h.nx hb).at hlt
        obtain ⟨g2, rfl, hgs2, hd0, hd1⟩ := (h2.nx hb).at hlt2
        have hno := Lib.hid (fun hh => same_ne hlt hlt2 hh)
        have hyes := Lib.hid (show L[k] = M[k] → ∀ j (h1 : j < L.length) (h2 : j < M.length), j < k + 1 → L[j] = M[j] from fun he j h1 h2 hj => by
          by_cases hjk : j < k
          · exact hs.out j h1 h2 hjk
          · obtain rfl : j = k := by omega
            exact he)
        have hki : (0 : Int) ≤ (k : Int) ∧ (k : Int) < (L.length : Int) ∧ (k : Int) < (M.length : Int) := by omega
        generalize L[k] = r at hc0 hc1 hno hyes
        generalize M[k] = s at hd0 hd1 hno hyes
        by_cases e1 : r.1 = s.1
        · have E1 := Lib.hid e1
          have f1 : (r.1 == s.1) = true := by rw [e1]; simp
          clear e1
          by_cases e2 : r.2 = s.2
          · have E2 := Lib.hid e2
            have f2 : (r.2 == s.2) = true := by rw [e2]; simp
            clear e2
            go_upto_region 6 with fail
            go_quiet (fail)
            go_wp2
            go_roundg (L.length - (k + 1))
            case measure => omega
            case rel => exact ⟨k + 1, by omega, by omega, by go_num, hyes.out (Prod.ext E1.out E2.out), Below.drewN' hb _⟩
          · have E2 := Lib.hid e2
            have f2 : (r.2 == s.2) = false := by simpa using e2
            clear e2
            go_upto_region 6 with fail
            go_quiet (fail)
            go_wp2
            go_ret
            exact ⟨ret_bool (hno.out (fun e => E2.out (by rw [e]))).symm, Below.drewN' hb _⟩
        · have E1 := Lib.hid e1
          have f1 : (r.1 == s.1) = false := by simpa using e1
          clear e1
          go_upto_region 6 with fail
          go_quiet (fail)
          go_wp2
          go_ret
          exact ⟨ret_bool (hno.out (fun e => E1.out (by rw [e]))).symm, Below.drewN' hb _⟩
      · have hy := Lib.hid (same_yes HL.out (fun j h1 h2 => hs.out j h1 h2 (by omega)))
        go_wp2
        go_ret
        exact ⟨ret_bool hy.out.symm, hb⟩
  · have hne : ((L.length : Int) != (M.length : Int)) = true := by simp; omega
    have hy := Lib.hid (same_len hlen)
    clear hlen
    go_enter Try.func15, Try.ntmps15
    go_wp2
    go_ret
    exact ⟨ret_bool hy.out.symm, Below.refl _ _⟩
/-- What is left of a range below x. -/
def cutR (x : Int) (r : R) : List R := if x < r.2 then (if r.1 < x then [(r.1, x)] else []) else (if r.1 < r.2 then [(r.1, r.2)] else [])
def belowL (L : List R) (x : Int) : List R := L.flatMap (cutR x)
theorem belowL_take (L : List R) (x : Int) (k : Nat) (hk : k < L.length) : belowL (L.take (k + 1)) x = belowL (L.take k) x ++ cutR x L[k] := by
  unfold belowL; rw [List.take_succ_eq_append_getElem hk, List.flatMap_append]; simp only [List.flatMap_cons, List.flatMap_nil, List.append_nil]
theorem belowL_len : ∀ (L : List R) (x : Int), (belowL L x).length ≤ L.length
  | [], _ => by simp [belowL]
  | r :: L, x => by
    have h1 := belowL_len L x
    have h2 : (cutR x r).length ≤ 1 := by unfold cutR; (repeat' split) <;> simp
    unfold belowL at h1 ⊢
    rw [List.flatMap_cons, List.length_append, List.length_cons]
    omega
end Go.Proofs.Ytnmljgjcdofboaa
