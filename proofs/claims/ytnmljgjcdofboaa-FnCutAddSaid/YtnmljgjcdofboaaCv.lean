/- CutFrom, through the package and the thin package. -/
import Derived.Test.YtnmljgjcdofboaaCu
namespace Go.Proofs.Ytnmljgjcdofboaa
open Go.RowKit
set_option linter.unusedVariables false
set_option linter.unusedSimpArgs false

/-- A list and the sum of its sizes are handed back. -/
def RetLS (L : List R) (w : World) (e : Ending) (w' : World) : Prop := ∃ A c, e = .returned (.tuple #[.slice A L.length c, .int .u64 (totL L)]) ∧ SlAt w' A c L ∧ Nx w w'
set_option maxHeartbeats 1000000 in
theorem mCutFrom_any (A : Option Addr) (c : Nat) (L : List R) (x : Int) (w : World) (h : SlAt w A c L) (hn : L.length ≤ 65536) (hL : InB L) (hT : Td L) (hx : 0 ≤ x) (hx' : x < 4398046511104) :
    Calls Try.prog 35 #[.slice A L.length c, .int .u64 x] w (RetLS (belowL L x) w) := by
  have hlen : (belowL L x).length ≤ 65536 := Nat.le_trans (belowL_len _ _) hn
  have CR := Lib.hid (fun base G g c w h => lremoveGreaterEqual_any base G g c L x w h hn hL hT hx hx')
  have CO := Lib.hid (fun base G g c w h => mouts_any base G g c (belowL L x) (totL (belowL L x)) w h hlen)
  unfold CutAr at CR
  unfold RetLS
  generalize belowL L x = B at CR CO ⊢
  generalize totL B = tB at CR CO ⊢
  go_enter Try.func35, Try.ntmps35
  go_wp2_with fail
  refine (mins_any A c L _ h hn hL).mono ?_
  rintro e w1 ⟨G, g, c', rfl, har, n1⟩
  go_wp2_with fail
  refine (CR.out _ _ _ _ _ har).mono ?_
  rintro e w2 ⟨rfl, har2, n2⟩
  have hsz := Below.size n1
  go_wp2_with fail
  refine (CO.out _ _ _ _ _ har2).mono ?_
  rintro e w3 ⟨A3, c3, rfl, hs3, n3, hf3⟩
  clear hf3
  have hsz2 := n2.size
  go_wp2
  go_ret2
  exact ⟨A3, c3, rfl, hs3, bl_step n3 (bl_step n2 n1 (by first | omega | exact Nat.le_refl _)) (by omega)⟩
set_option maxHeartbeats 1000000 in
theorem iCutFrom_any (A : Option Addr) (c : Nat) (L : List R) (x : Int) (w : World) (h : SlAt w A c L) (hn : L.length ≤ 65536) (hL : InB L) (hT : Td L) (hx : 0 ≤ x) (hx' : x < 4398046511104) :
    Calls Try.prog 21 #[.slice A L.length c, .int .u64 x] w (RetLS (belowL L x) w) := by
  have hlen : (belowL L x).length ≤ 65536 := Nat.le_trans (belowL_len _ _) hn
  have CM := Lib.hid (fun A c w h => mCutFrom_any A c L x w h hn hL hT hx hx')
  have CT := Lib.hid (fun A c w h => itold_any A c (belowL L x) w h hlen)
  unfold RetLS at CM ⊢
  generalize belowL L x = B at CM CT ⊢
  generalize totL B = tB at CM ⊢
  go_enter Try.func21, Try.ntmps21
  go_wp2_with fail
  refine (igiven_any A c L _ h hn).mono ?_
  rintro e w1 ⟨A1, c1, rfl, hs1, n1⟩
  go_wp2_with fail
  refine (CM.out _ _ _ hs1).mono ?_
  rintro e w2 ⟨A2, c2, rfl, hs2, n2⟩
  go_wp2_with fail
  refine (CT.out _ _ _ hs2).mono ?_
  rintro e w3 ⟨A3, c3, rfl, hs3, n3⟩
  have hsz := Below.size n1
  have hsz2 := Below.size n2
  go_wp2
  go_ret2
  exact ⟨A3, c3, rfl, hs3, bl_step n3 (bl_step n2 n1 (by omega)) (by omega)⟩
end Go.Proofs.Ytnmljgjcdofboaa
