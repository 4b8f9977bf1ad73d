/- FnExactMake: for every two numbers, Make gives the range that has the base and the limit which they give. No condition. -/
import Derived.Test.YtjhchjocaafakaaRows
import Derived.Test.YtjhchjocaafakaaRh
import Derived.ProofKit
import Derived.OpenShut
namespace Go.Proofs.Ytjhchjocaafakaa.fnExactMake
open Go.ChangeShapes Go.WideShapes Go.ChangeAt Go.RowKit
set_option linter.unusedVariables false
theorem own : ownKnob Try.prog.godebug = none := by kernel_rfl

theorem walk (a0 a1 : Int) (w : World) (w0 : (Lit.int .u64 a0).wf = true) (w1 : (Lit.int .u64 a1).wf = true) :
    Calls Try.prog 5 #[.int .u64 a0, .int .u64 a1] w fun e w' => e = .returned (.bool true) ∧ Nx w w' := by
  have h0 := u64_lo w0
  have h1 := u64_lo w1
  clear w0 w1
  have r := rg_in a0 a1
  obtain ⟨r1, r2, r3⟩ := r
  go_enter Try.func5, Try.ntmps5
  go_wp2_with fail
  refine (sRange_any _ _ _ (by omega) (by omega)).mono ?_
  rintro e w1 ⟨rfl, n1⟩
  have hs1 := nxs n1; (try simp only [World.size_alloc, World.size_setCell, World.size_drew] at hs1); have hb1 := nx n1; clear n1
  go_wp2_with fail
  have k := hd_new hb1 (.int .u64 (rgB a0 a1)) (.int .u64 (rgL a0 a1)) 26
  generalize w1.alloc (.cells #[.int .u64 (rgB a0 a1), .int .u64 (rgL a0 a1)] 26) = U at k ⊢
  go_region_held3 (fun w' => w'.cell? ⟨w1.heap.size, 0, none⟩ = some (.int .u64 (rgB a0 a1)) ∧ w'.cell? ⟨w1.heap.size, 1, none⟩ = some (.int .u64 (rgL a0 a1)) ∧ Hd w [(w1.heap.size, 0, .int .u64 (rgB a0 a1)), (w1.heap.size, 1, .int .u64 (rgL a0 a1))] w') (first | (go_split_ands; have k := Hd.nx (w := w) (cs := [(w1.heap.size, 0, .int .u64 (rgB a0 a1)), (w1.heap.size, 1, .int .u64 (rgL a0 a1))]) (by assumption) (by assumption); exact ⟨k.at (w1.heap.size) 0 (.int .u64 (rgB a0 a1)) (by simp), k.at (w1.heap.size) 1 (.int .u64 (rgL a0 a1)) (by simp), k⟩) | (have k := Hd.drew (w := w) (cs := [(w1.heap.size, 0, .int .u64 (rgB a0 a1)), (w1.heap.size, 1, .int .u64 (rgL a0 a1))]) (by assumption); exact ⟨k.at (w1.heap.size) 0 (.int .u64 (rgB a0 a1)) (by simp), k.at (w1.heap.size) 1 (.int .u64 (rgL a0 a1)) (by simp), k⟩))
    (first | (go_at_call 17; refine (iMake_any _ _ _ (by omega) (by omega) (by omega) (by omega)).mono ?_; rintro e wh ⟨rfl, nh⟩))
  rename_i hH
  obtain ⟨kc0, kc1, k⟩ := hH
  go_wp2
  go_ret
  exact ⟨rfl, k.below⟩

set_option maxRecDepth 100000 in
theorem lifted (os : Os) (started : os.Started) (H : Type) (enc : TypeId × Value → H) :
    ReturnsInHanded {} Try.checked os 5 .any (Rows.fnExactMakeSpec.pre6 enc Try.prog Try.f5 Rows.fnExactMakeRow.domain false) (Rows.fnExactMakeSpec.post enc Try.prog Try.f5 false true false false) := by
  refine returnsInHanded_of_change (C := Try.checked) own started (by kernel_rfl) Try.func5
    (ChangeSpec.witness6 (enc := enc) (C := Try.checked) false ⟨#[], #[.int .u64 0, .int .u64 0], []⟩ 8 (by kernel_rfl) (by kernel_rfl) (by kernel_rfl) (by kernel_rfl)) ?_
  intro W base args ds gs before hval0 hW hcnd _
  have hval : ∀ (j : Nat) t v, Try.f5.params[j]? = some t → args[j]? = some v → Value.okWide Try.prog W .any base t v := hval0
  have hW' := hW
  obtain ⟨p, q, hA0, hV, rfl, hfz, hnd⟩ := hW
  have hA : DataW.TrodAll enc Try.prog W 0 (fun _ => true) true Try.f5.params.toList args.toList ds p := hA0
  rw [Try.params5] at hA hval
  obtain ⟨v0, vs0, d0, ds0, p0, q0, hargs, rfl, rfl, h0, r0⟩ := trodAll_cons hA
  obtain ⟨v1, vs1, d1, ds1, p1, q1, rfl, rfl, rfl, h1, r1⟩ := trodAll_cons r0
  obtain ⟨rfl, rfl, rfl⟩ := trodAll_nil r1
  obtain rfl : args = #[v0, v1] := by cases args; simp_all
  obtain ⟨rfl, rfl⟩ := trodVars_none hV
  obtain ⟨a0, rfl, rfl, rfl, w0⟩ := open_int Try.underlying22 (hval 0 22 v0 rfl rfl) h0
  obtain ⟨a1, rfl, rfl, rfl, w1⟩ := open_int Try.underlying22 (hval 1 22 v1 rfl rfl) h1
  clear hA0 hval0
  refine (walk a0 a1 W w0 w1).mono fun e W' ⟨he, bel⟩ => ?_
  subst he
  exact ⟨_, rfl, _, _, _, [], _, [], hW', trodAll_mk1 (shut_bool Try.underlying4 _), (trodAll_cons_mk (shut_int Try.underlying22 w0) (trodAll_cons_mk (shut_int Try.underlying22 w1) trodAll_mk0)), rfl, Below.frame bel _, fun h => by cases h⟩
theorem over : Rows.fnExactMakeRow.holds Try.pinned (OpenSpec.ofChange Rows.fnExactMakeSpec) :=
  OpenClaim.holds_of_wide 5 Try.f5 rfl rfl rfl rfl rfl rfl rfl ⟨rfl, rfl, rfl, rfl, rfl⟩ rfl rfl rfl rfl rfl (by kernel_rfl) Try.func5 (by kernel_rfl)
    (of_decide_eq_true (by kernel_rfl)) (by unfold Func.isWrapper; first | (rw [if_pos (by decide +kernel)]; kernel_rfl) | (rw [if_neg (by decide +kernel)]; exact ⟨rfl, rfl⟩))
    (fun os started H enc _ => lifted os started H enc)
theorem proved : Rows.FnExactMakeSaid := over
#print axioms proved
end Go.Proofs.Ytjhchjocaafakaa.fnExactMake
