/- FnExactLess: for every two numbers, Less tells the order of the two addresses that they give, and an address is below the one behind it. No condition. -/
import Derived.Test.YtjhchjocaafakaaRows
import Derived.Test.YtjhchjocaafakaaRh
import Derived.ProofKit
import Derived.OpenShut
namespace Go.Proofs.Ytjhchjocaafakaa.fnExactLess
open Go.ChangeShapes Go.WideShapes Go.ChangeAt Go.RowKit
set_option linter.unusedVariables false
theorem own : ownKnob Try.prog.godebug = none := by kernel_rfl

theorem walk (a0 a1 : Int) (w : World) (w0 : (Lit.int .u64 a0).wf = true) (w1 : (Lit.int .u64 a1).wf = true) :
    Calls Try.prog 3 #[.int .u64 a0, .int .u64 a1] w fun e w' => e = .returned (.bool true) ∧ Nx w w' := by
  have h0 : 0 ≤ a0 := u64_lo w0
  have h1 : 0 ≤ a1 := u64_lo w1
  clear w0 w1
  have b0 : 0 ≤ a0 % 1099511627776 ∧ a0 % 1099511627776 < 1099511627776 := by omega
  have b1 : 0 ≤ a1 % 1099511627776 ∧ a1 % 1099511627776 < 1099511627776 := by omega
  have e1 : (decide (a0 % 1099511627776 < a1 % 1099511627776) == decide (a0 % 1099511627776 < a1 % 1099511627776)) = true := by simp
  have e2 : decide (a0 % 1099511627776 < a0 % 1099511627776 + 1) = true := by simp; omega
  go_enter Try.func3, Try.ntmps3
  go_wp2_with (first | (go_at_call 12; refine (sAddr_any _ _ (by omega)).mono ?_; rintro e w1 ⟨rfl, rfl⟩) | (go_at_call 13; refine (iLess_any _ _ _ (by omega) (by omega) (by omega) (by omega)).mono ?_; rintro e w1 ⟨rfl, n1⟩; obtain ⟨hb1, hc1, hf1, hs1⟩ := nx n1; clear n1; (try simp only [World.size_alloc, World.size_setCell, World.size_drew] at hs1); (try simp only [World.size_alloc, World.size_setCell, World.size_drew] at hc1); (try simp only [World.size_alloc, World.size_setCell, World.size_drew] at hf1); (try (have hz0 : w.heap.size < w1.heap.size := by omega)); (try (have hz1 : w.heap.size + 1 < w1.heap.size := by omega)); (try (have hz2 : w.heap.size + 2 < w1.heap.size := by omega)); (try (have hz3 : w.heap.size + 3 < w1.heap.size := by omega)); (try (have hz4 : w.heap.size + 4 < w1.heap.size := by omega))))
  go_ret
  exact ⟨rfl, (by show Below _ _ _; repeat (first | (with_reducible exact Below.refl _ _) | (with_reducible assumption) | (with_reducible refine Below.drew ?_) | ((with_reducible refine Below.alloc ?_ ?_ _); rotate_left; (focus first | omega | (simp; done) | (simp; omega))) | ((with_reducible refine Below.setCell ?_ ?_ _); rotate_left; (focus first | omega | (simp; done) | (simp; omega))) | ((with_reducible refine bl_step (by assumption) ?_ ?_); rotate_left; (focus first | omega | (simp; done) | (simp; omega)))))⟩

set_option maxRecDepth 100000 in
theorem lifted (os : Os) (started : os.Started) (H : Type) (enc : TypeId × Value → H) :
    ReturnsInHanded {} Try.checked os 3 .any (Rows.fnExactLessSpec.pre6 enc Try.prog Try.f3 Rows.fnExactLessRow.domain false) (Rows.fnExactLessSpec.post enc Try.prog Try.f3 false true false false) := by
  refine returnsInHanded_of_change (C := Try.checked) own started (by kernel_rfl) Try.func3
    (ChangeSpec.witness6 (enc := enc) (C := Try.checked) false ⟨#[], #[.int .u64 0, .int .u64 0], []⟩ 8 (by kernel_rfl) (by kernel_rfl) (by kernel_rfl) (by kernel_rfl)) ?_
  intro W base args ds gs before hval0 hW hcnd _
  have hval : ∀ (j : Nat) t v, Try.f3.params[j]? = some t → args[j]? = some v → Value.okWide Try.prog W .any base t v := hval0
  have hW' := hW
  obtain ⟨p, q, hA0, hV, rfl, hfz, hnd⟩ := hW
  have hA : DataW.TrodAll enc Try.prog W 0 (fun _ => true) true Try.f3.params.toList args.toList ds p := hA0
  rw [Try.params3] at hA hval
  obtain ⟨v0, vs0, d0, ds0, p0, q0, hargs, rfl, rfl, h0, r0⟩ := trodAll_cons hA
  obtain ⟨v1, vs1, d1, ds1, p1, q1, rfl, rfl, rfl, h1, r1⟩ := trodAll_cons r0
  obtain ⟨rfl, rfl, rfl⟩ := trodAll_nil r1
  obtain rfl : args = #[v0, v1] := by cases args; simp_all
  obtain ⟨rfl, rfl⟩ := trodVars_none hV
  obtain ⟨a0, rfl, rfl, rfl, w0⟩ := open_int Try.underlying22 (hval 0 22 v0 rfl rfl) h0
  obtain ⟨a1, rfl, rfl, rfl, w1⟩ := open_int Try.underlying22 (hval 1 22 v1 rfl rfl) h1
  clear hA0 hval0
  refine (walk a0 a1 W w0 w1).mono fun e W' ⟨he, bel⟩ => ?_
  subst he
  exact ⟨_, rfl, _, _, _, [], _, [], hW', trodAll_mk1 (shut_bool Try.underlying4 _), (trodAll_cons_mk (shut_int Try.underlying22 w0) (trodAll_cons_mk (shut_int Try.underlying22 w1) trodAll_mk0)), rfl, Below.frame bel _, fun h => by cases h⟩
theorem over : Rows.fnExactLessRow.holds Try.pinned (OpenSpec.ofChange Rows.fnExactLessSpec) :=
  OpenClaim.holds_of_wide 3 Try.f3 rfl rfl rfl rfl rfl rfl rfl ⟨rfl, rfl, rfl, rfl, rfl⟩ rfl rfl rfl rfl rfl (by kernel_rfl) Try.func3 (by kernel_rfl)
    (of_decide_eq_true (by kernel_rfl)) (by unfold Func.isWrapper; first | (rw [if_pos (by decide +kernel)]; kernel_rfl) | (rw [if_neg (by decide +kernel)]; exact ⟨rfl, rfl⟩))
    (fun os started H enc _ => lifted os started H enc)
theorem proved : Rows.FnExactLessSaid := over
#print axioms proved
end Go.Proofs.Ytjhchjocaafakaa.fnExactLess
