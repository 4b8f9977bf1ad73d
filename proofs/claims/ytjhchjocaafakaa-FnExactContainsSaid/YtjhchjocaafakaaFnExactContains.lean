/- FnExactContains: for every three numbers, the range of the first two has the address of the third just if it lies from the base on and below the limit; it has its base and its last address, and not its limit. No condition. -/
import Derived.Test.YtjhchjocaafakaaRows
import Derived.Test.YtjhchjocaafakaaRh
import Derived.ProofKit
import Derived.OpenShut
namespace Go.Proofs.Ytjhchjocaafakaa.fnExactContains
open Go.ChangeShapes Go.WideShapes Go.ChangeAt Go.RowKit
set_option linter.unusedVariables false
theorem own : ownKnob Try.prog.godebug = none := by kernel_rfl

theorem walk (a0 a1 a2 : Int) (w : World) (w0 : (Lit.int .u64 a0).wf = true) (w1 : (Lit.int .u64 a1).wf = true) (w2 : (Lit.int .u64 a2).wf = true) :
    Calls Try.prog 4 #[.int .u64 a0, .int .u64 a1, .int .u64 a2] w fun e w' => e = .returned (.bool true) ∧ Nx w w' := by
  have h0 := u64_lo w0
  have h1 := u64_lo w1
  have h2 := u64_lo w2
  clear w0 w1 w2
  have r := rg_in a0 a1
  obtain ⟨r1, r2, r3⟩ := r
  have b2 : 0 ≤ a2 % 1099511627776 ∧ a2 % 1099511627776 < 1099511627776 := by omega
  have e1 : (hasB (rgB a0 a1) (rgL a0 a1) (a2 % 1099511627776) == hasB (rgB a0 a1) (rgL a0 a1) (a2 % 1099511627776)) = true := by simp
  have e2 : hasB (rgB a0 a1) (rgL a0 a1) (rgB a0 a1) = true := by simp [hasB]; omega
  have e3 : hasB (rgB a0 a1) (rgL a0 a1) (rgL a0 a1 - 1) = true := by simp [hasB]; omega
  have e4 : hasB (rgB a0 a1) (rgL a0 a1) (rgL a0 a1) = false := by simp [hasB]
  have ew : IntKind.u64.wrap (rgL a0 a1 - 1) = rgL a0 a1 - 1 := IntWalk.u64_in _ (by omega)
  go_enter Try.func4, Try.ntmps4
  go_wp2_with fail
  refine (sRange_any _ _ _ (by omega) (by omega)).mono ?_
  rintro e w1 ⟨rfl, n1⟩
  have hs1 := nxs n1; (try simp only [World.size_alloc, World.size_setCell, World.size_drew] at hs1); have hb1 := nx n1; clear n1
  go_wp2_with fail
  refine (sAddr_any _ _ (by omega)).mono ?_
  rintro e w2 ⟨rfl, rfl⟩
  go_wp2_with fail
  have k := hd_new hb1 (.int .u64 (rgB a0 a1)) (.int .u64 (rgL a0 a1)) 26
  generalize w1.alloc (.cells #[.int .u64 (rgB a0 a1), .int .u64 (rgL a0 a1)] 26) = U at k ⊢
  go_region_held3 (fun w' => w'.cell? ⟨w1.heap.size, 0, none⟩ = some (.int .u64 (rgB a0 a1)) ∧ w'.cell? ⟨w1.heap.size, 1, none⟩ = some (.int .u64 (rgL a0 a1)) ∧ Hd w [(w1.heap.size, 0, .int .u64 (rgB a0 a1)), (w1.heap.size, 1, .int .u64 (rgL a0 a1))] w') (first | (go_split_ands; have k := Hd.nx (w := w) (cs := [(w1.heap.size, 0, .int .u64 (rgB a0 a1)), (w1.heap.size, 1, .int .u64 (rgL a0 a1))]) (by assumption) (by assumption); exact ⟨k.at (w1.heap.size) 0 (.int .u64 (rgB a0 a1)) (by simp), k.at (w1.heap.size) 1 (.int .u64 (rgL a0 a1)) (by simp), k⟩) | (have k := Hd.drew (w := w) (cs := [(w1.heap.size, 0, .int .u64 (rgB a0 a1)), (w1.heap.size, 1, .int .u64 (rgL a0 a1))]) (by assumption); exact ⟨k.at (w1.heap.size) 0 (.int .u64 (rgB a0 a1)) (by simp), k.at (w1.heap.size) 1 (.int .u64 (rgL a0 a1)) (by simp), k⟩))
    (first | (go_at_call 15; refine (iContains_any _ _ _ _ (by omega) (by omega) (by omega) (by omega) (by omega) (by omega)).mono ?_; rintro e wh ⟨rfl, nh⟩) | (go_at_call 16; refine (sHas_any _ _ _ _).mono ?_; rintro e wh ⟨rfl, nh⟩))
  rename_i hH
  obtain ⟨kc0, kc1, k⟩ := hH
  go_wp2
  go_ret
  exact ⟨rfl, k.below⟩

set_option maxRecDepth 100000 in
theorem lifted (os : Os) (started : os.Started) (H : Type) (enc : TypeId × Value → H) :
    ReturnsInHanded {} Try.checked os 4 .any (Rows.fnExactContainsSpec.pre6 enc Try.prog Try.f4 Rows.fnExactContainsRow.domain false) (Rows.fnExactContainsSpec.post enc Try.prog Try.f4 false true false false) := by
  refine returnsInHanded_of_change (C := Try.checked) own started (by kernel_rfl) Try.func4
    (ChangeSpec.witness6 (enc := enc) (C := Try.checked) false ⟨#[], #[.int .u64 0, .int .u64 0, .int .u64 0], []⟩ 8 (by kernel_rfl) (by kernel_rfl) (by kernel_rfl) (by kernel_rfl)) ?_
  intro W base args ds gs before hval0 hW hcnd _
  have hval : ∀ (j : Nat) t v, Try.f4.params[j]? = some t → args[j]? = some v → Value.okWide Try.prog W .any base t v := hval0
  have hW' := hW
  obtain ⟨p, q, hA0, hV, rfl, hfz, hnd⟩ := hW
  have hA : DataW.TrodAll enc Try.prog W 0 (fun _ => true) true Try.f4.params.toList args.toList ds p := hA0
  rw [Try.params4] at hA hval
  obtain ⟨v0, vs0, d0, ds0, p0, q0, hargs, rfl, rfl, h0, r0⟩ := trodAll_cons hA
  obtain ⟨v1, vs1, d1, ds1, p1, q1, rfl, rfl, rfl, h1, r1⟩ := trodAll_cons r0
  obtain ⟨v2, vs2, d2, ds2, p2, q2, rfl, rfl, rfl, h2, r2⟩ := trodAll_cons r1
  obtain ⟨rfl, rfl, rfl⟩ := trodAll_nil r2
  obtain rfl : args = #[v0, v1, v2] := by cases args; simp_all
  obtain ⟨rfl, rfl⟩ := trodVars_none hV
  obtain ⟨a0, rfl, rfl, rfl, w0⟩ := open_int Try.underlying22 (hval 0 22 v0 rfl rfl) h0
  obtain ⟨a1, rfl, rfl, rfl, w1⟩ := open_int Try.underlying22 (hval 1 22 v1 rfl rfl) h1
  obtain ⟨a2, rfl, rfl, rfl, w2⟩ := open_int Try.underlying22 (hval 2 22 v2 rfl rfl) h2
  clear hA0 hval0
  refine (walk a0 a1 a2 W w0 w1 w2).mono fun e W' ⟨he, bel⟩ => ?_
  subst he
  exact ⟨_, rfl, _, _, _, [], _, [], hW', trodAll_mk1 (shut_bool Try.underlying4 _), (trodAll_cons_mk (shut_int Try.underlying22 w0) (trodAll_cons_mk (shut_int Try.underlying22 w1) (trodAll_cons_mk (shut_int Try.underlying22 w2) trodAll_mk0))), rfl, Below.frame bel _, fun h => by cases h⟩
theorem over : Rows.fnExactContainsRow.holds Try.pinned (OpenSpec.ofChange Rows.fnExactContainsSpec) :=
  OpenClaim.holds_of_wide 4 Try.f4 rfl rfl rfl rfl rfl rfl rfl ⟨rfl, rfl, rfl, rfl, rfl⟩ rfl rfl rfl rfl rfl (by kernel_rfl) Try.func4 (by kernel_rfl)
    (of_decide_eq_true (by kernel_rfl)) (by unfold Func.isWrapper; first | (rw [if_pos (by decide +kernel)]; kernel_rfl) | (rw [if_neg (by decide +kernel)]; exact ⟨rfl, rfl⟩))
    (fun os started H enc _ => lifted os started H enc)
theorem proved : Rows.FnExactContainsSaid := over
#print axioms proved
end Go.Proofs.Ytjhchjocaafakaa.fnExactContains
