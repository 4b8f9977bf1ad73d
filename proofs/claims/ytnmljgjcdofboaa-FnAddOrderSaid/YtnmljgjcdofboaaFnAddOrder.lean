/- FnAddOrder: for all numbers, two ranges that are apart, and of which the list that they tell has no address, make the same list in either order, with the same sum. No condition. -/
import Derived.Test.YtnmljgjcdofboaaRows
import Derived.Test.YtnmljgjcdofboaaTl2
import Derived.Test.YtnmljgjcdofboaaSq
import Derived.ProofKit
import Derived.OpenShut
import Derived.ShutString
import Derived.ChangeOld
import Derived.Below
namespace Go.Proofs.Ytnmljgjcdofboaa.fnAddOrder
open Go.ChangeShapes Go.WideShapes Go.ChangeAt Go.RowKit
set_option linter.unusedVariables false
set_option linter.unusedSimpArgs false
theorem own : ownKnob Try.prog.godebug = none := by kernel_rfl
theorem laidOut : laidOutB Try.prog = true := by kernel_rfl

set_option maxHeartbeats 2000000 in
theorem walk (a0 : Option Addr) (len0 cap0 : Nat) (z0 : List Int) (a1 : Int) (a2 : Int) (a3 : Int) (a4 : Int) (w : World) (w0 : IsRow .u16 w a0 len0 cap0 z0) (w1 : (Lit.int .u64 a1).wf = true) (w2 : (Lit.int .u64 a2).wf = true) (w3 : (Lit.int .u64 a3).wf = true) (w4 : (Lit.int .u64 a4).wf = true) :
    Calls Try.prog 6 #[.slice a0 len0 cap0, .int .u64 a1, .int .u64 a2, .int .u64 a3, .int .u64 a4] w fun e w' => e = .returned (.bool true) ∧ Nx w w' := by
  have h1 := u64_lo w1
  have b1 : 0 ≤ a1 % 1099511627776 ∧ a1 % 1099511627776 < 1099511627776 := by omega
  have h2 := u64_lo w2
  have b2 : 0 ≤ a2 % 1099511627776 ∧ a2 % 1099511627776 < 1099511627776 := by omega
  have h3 := u64_lo w3
  have b3 : 0 ≤ a3 % 1099511627776 ∧ a3 % 1099511627776 < 1099511627776 := by omega
  have h4 := u64_lo w4
  have b4 : 0 ≤ a4 % 1099511627776 ∧ a4 % 1099511627776 < 1099511627776 := by omega
  by_cases hbig : 2147483647 < len0
  · go_enter Try.func6, Try.ntmps6
    go_wp2
    go_ret
    exact ⟨rfl, Below.refl _ _⟩
  · have hz16 := w0.z16
    have hlist := sList_any a0 len0 cap0 z0 w w0
    have hk : min len0 65536 / 2 ≤ 32768 := by omega
    have hn := Nat.le_trans (Nat.le_of_eq (genL_length z0 (min len0 65536 / 2))) hk
    have hL := genL_InB hz16 _ hk
    have hT := genL_td' hz16 (min len0 65536 / 2)
    have hL2 := Lib.hid (genL_inB hz16 _ hk)
    generalize genL z0 (min len0 65536 / 2) = L at hlist hn hL hT hL2
    clear hk hz16 w0
    obtain ⟨r1, r2, r3⟩ := rg_in a1 a2
    obtain ⟨s1, s2, s3⟩ := rg_in a3 a4
    have CR := Lib.hid (fun W => sRange_any a1 a2 W h1 h2)
    have CQ := Lib.hid (fun W => sRange_any a3 a4 W h3 h4)
    generalize rgB a1 a2 = rb at *
    generalize rgL a1 a2 = rl at *
    generalize rgB a3 a4 = sb at *
    generalize rgL a3 a4 = sl at *
    have CM := Lib.hid (fun A c W h => sMeets_any A c L rb rl W h (by omega))
    have CN := Lib.hid (fun A c W h => sMeets_any A c L sb sl W h (by omega))
    have CP := Lib.hid (fun W => sApart_any rb rl sb sl W)
    by_cases hgood : meetsB L (rb, rl) = false ∧ meetsB L (sb, sl) = false ∧ apB rb rl sb sl = true
    · obtain ⟨g1, g2, g3⟩ := hgood
      rw [g1] at CM
      rw [g2] at CN
      rw [g3] at CP
      have hA := meetsB_no.1 g1
      have hB := meetsB_no.1 g2
      have hrs : rl ≤ sb ∨ sl ≤ rb := by unfold apB at g3; simpa using g3
      obtain ⟨M1, hM1⟩ := addAt_ex hT (r := (rb, rl)) r2 hA
      have hb1 := hM1.inB hL ⟨by simp only; omega, by simp only; omega⟩
      have hl1 := hM1.len
      have hA2 : ApartL M1 (sb, sl) := hM1.apart s2 hB hrs
      obtain ⟨M2, hM2⟩ := addAt_ex hM1.td (r := (sb, sl)) s2 hA2
      have hl2 := hM2.len
      obtain ⟨M3, hM3⟩ := addAt_ex hT (r := (sb, sl)) s2 hB
      have hb3 := hM3.inB hL ⟨by simp only; omega, by simp only; omega⟩
      have hl3 := hM3.len
      have hA4 : ApartL M3 (rb, rl) := hM3.apart r2 hA (by simp only; omega)
      have hx4 : ∀ x, (hasL M3 x || hasB rb rl x) = hasL M2 x := fun x => by
        rw [hM3.has, hM2.has, hM1.has]
        cases hasL L x <;> cases hasB rb rl x <;> cases hasB sb sl x <;> rfl
      have CA1 := Lib.hid (fun A c W h => addIs (N := M1) (by omega) hL hT r1 r2 (by omega) hA hM1.td (fun y => (hM1.has y).symm) A c W h)
      have CA2 := Lib.hid (fun A c W h => addIs (N := M2) (by omega) hb1 hM1.td s1 s2 (by omega) hA2 hM2.td (fun y => (hM2.has y).symm) A c W h)
      have CA3 := Lib.hid (fun A c W h => addIs (N := M3) (by omega) hL hT s1 s2 (by omega) hB hM3.td (fun y => (hM3.has y).symm) A c W h)
      have CA4 := Lib.hid (fun A c W h => addIs (N := M2) (by omega) hb3 hM3.td r1 r2 (by omega) hA4 hM2.td hx4 A c W h)
      unfold RetN at CA1 CA2 CA3 CA4
      have CS := Lib.hid (fun A A2 c c2 W h h2 => sSame_any A A2 c c2 M2 M2 W h h2 (by omega) (by omega))
      rw [show sameB M2 M2 = true by simp [sameB]] at CS
      have htot : 0 < totL M2 := by
        have e1 := hM2.tot
        have e2 := totL_bd M1 hb1
        simp only at e1
        omega
      clear hM1 hM2 hM3 hA hB hA2 hA4 hx4 hb1 hb3 hL hT hL2 g1 g2 g3 hl1 hl2 hl3
      generalize totL M2 = t2 at *
      generalize totL M1 = t1 at *
      generalize totL M3 = t3 at *
      have hq : (t2 == t2) = true := by simp
      go_enter Try.func6, Try.ntmps6
      go_wp2_with fail
      refine hlist.mono ?_
      rintro e w1 ⟨A, c, rfl, hs, n1⟩
      clear hlist
      go_wp2_with fail
      refine (CR.out _).mono ?_
      rintro e w2 ⟨rfl, n2⟩
      replace hs := hs.nx n2
      have hb2 : Nx w w2 := bl_step n2 n1 n1.size
      clear n1 n2
      go_wp2_with fail
      refine (CQ.out _).mono ?_
      rintro e w2' ⟨rfl, n2⟩
      replace hs := hs.nx n2
      replace hb2 : Nx w w2' := bl_step n2 hb2 hb2.size
      clear n2
      have bV := (Bk.new w2' #[.int .u64 rb, .int .u64 rl] 24).alloc (.cells #[.int .u64 sb, .int .u64 sl] 24)
      have bX := bk_new2 (w2'.alloc (.cells #[.int .u64 rb, .int .u64 rl] 24)) #[.int .u64 sb, .int .u64 sl] 24 (n := w2'.heap.size + 1) (by simp)
      have hb3 : Nx w ((w2'.alloc (.cells #[.int .u64 rb, .int .u64 rl] 24)).alloc (.cells #[.int .u64 sb, .int .u64 sl] 24)) := (hb2.alloc hb2.size _).alloc (by have := hb2.size; simp; omega) _
      replace hs := (hs.alloc (.cells #[.int .u64 rb, .int .u64 rl] 24)).alloc (.cells #[.int .u64 sb, .int .u64 sl] 24)
      go_upto_region 4 with fail
      generalize (w2'.alloc (.cells #[.int .u64 rb, .int .u64 rl] 24)).alloc (.cells #[.int .u64 sb, .int .u64 sl] 24) = U at bV bX hb3 hs ⊢
      clear hb2
      have v0 := bV.cell 0
      have v1 := bV.cell 1
      have y0 := bX.cell 0
      have y1 := bX.cell 1
      go_wp2_with fail
      refine (CM.out _ _ _ hs).mono ?_
      rintro e u0 ⟨rfl, n3⟩
      replace bV := bV.nx n3
      replace bX := bX.nx n3
      replace hs := hs.nx n3
      replace hb3 : Nx w u0 := bl_step n3 hb3 hb3.size
      clear n3 v0 v1 y0 y1
      have v0 := bV.cell 0
      have v1 := bV.cell 1
      have y0 := bX.cell 0
      have y1 := bX.cell 1
      go_wp2_with fail
      refine (CN.out _ _ _ hs).mono ?_
      rintro e u1 ⟨rfl, n3⟩
      replace bV := bV.nx n3
      replace bX := bX.nx n3
      replace hs := hs.nx n3
      replace hb3 : Nx w u1 := bl_step n3 hb3 hb3.size
      clear n3 v0 v1 y0 y1
      have v0 := bV.cell 0
      have v1 := bV.cell 1
      have y0 := bX.cell 0
      have y1 := bX.cell 1
      go_wp2_with fail
      refine (CP.out _).mono ?_
      rintro e u2 ⟨rfl, n3⟩
      replace bV := bV.nx n3
      replace bX := bX.nx n3
      replace hs := hs.nx n3
      replace hb3 : Nx w u2 := bl_step n3 hb3 hb3.size
      clear n3 v0 v1 y0 y1
      have v0 := bV.cell 0
      have v1 := bV.cell 1
      have y0 := bX.cell 0
      have y1 := bX.cell 1
      go_wp2_with fail
      refine (CA1.out _ _ _ hs).mono ?_
      rintro e u3 ⟨A1, c1, rfl, hs1, n3⟩
      replace bV := bV.nx n3
      replace bX := bX.nx n3
      replace hs := hs.nx n3
      replace hb3 : Nx w u3 := bl_step n3 hb3 hb3.size
      clear n3 v0 v1 y0 y1
      have v0 := bV.cell 0
      have v1 := bV.cell 1
      have y0 := bX.cell 0
      have y1 := bX.cell 1
      go_wp2_with fail
      refine (CA2.out _ _ _ hs1).mono ?_
      rintro e u4 ⟨A2, c2, rfl, hs2, n3⟩
      replace bV := bV.nx n3
      replace bX := bX.nx n3
      replace hs := hs.nx n3
      replace hb3 : Nx w u4 := bl_step n3 hb3 hb3.size
      clear n3 v0 v1 y0 y1
      have v0 := bV.cell 0
      have v1 := bV.cell 1
      have y0 := bX.cell 0
      have y1 := bX.cell 1
      go_wp2_with fail
      refine (CA3.out _ _ _ hs).mono ?_
      rintro e u5 ⟨A3, c3, rfl, hs3, n3⟩
      replace bV := bV.nx n3
      replace bX := bX.nx n3
      replace hs := hs.nx n3
      replace hs2 := hs2.nx n3
      replace hb3 : Nx w u5 := bl_step n3 hb3 hb3.size
      clear n3 v0 v1 y0 y1
      have v0 := bV.cell 0
      have v1 := bV.cell 1
      have y0 := bX.cell 0
      have y1 := bX.cell 1
      go_wp2_with fail
      refine (CA4.out _ _ _ hs3).mono ?_
      rintro e u6 ⟨A4, c4, rfl, hs4, n3⟩
      replace bV := bV.nx n3
      replace bX := bX.nx n3
      replace hs := hs.nx n3
      replace hs2 := hs2.nx n3
      replace hb3 : Nx w u6 := bl_step n3 hb3 hb3.size
      clear n3 v0 v1 y0 y1
      have v0 := bV.cell 0
      have v1 := bV.cell 1
      have y0 := bX.cell 0
      have y1 := bX.cell 1
      go_wp2_with fail
      refine (CS.out _ _ _ _ _ hs2 hs4).mono ?_
      rintro e u7 ⟨rfl, n3⟩
      replace bV := bV.nx n3
      replace bX := bX.nx n3
      replace hs := hs.nx n3
      replace hb3 : Nx w u7 := bl_step n3 hb3 hb3.size
      clear n3 v0 v1 y0 y1
      have v0 := bV.cell 0
      have v1 := bV.cell 1
      have y0 := bX.cell 0
      have y1 := bX.cell 1
      go_wp2
      go_ret
      exact ⟨rfl, hb3⟩
    · have hbad : ∀ b1 b2 b3 : Bool, ¬ (b1 = false ∧ b2 = false ∧ b3 = true) → b1 = true ∨ (b1 = false ∧ b2 = true) ∨ (b1 = false ∧ b2 = false ∧ b3 = false) := by decide
      replace hbad := hbad _ _ _ hgood
      generalize meetsB L (rb, rl) = m1 at *
      generalize meetsB L (sb, sl) = m2 at *
      generalize apB rb rl sb sl = m3 at *
      clear hL hT hL2 hgood
      rcases hbad with rfl | ⟨rfl, rfl⟩ | ⟨rfl, rfl, rfl⟩
      all_goals
        go_enter Try.func6, Try.ntmps6
        go_wp2_with fail
        refine hlist.mono ?_
        rintro e w1 ⟨A, c, rfl, hs, n1⟩
        clear hlist
        go_wp2_with fail
        refine (CR.out _).mono ?_
        rintro e w2 ⟨rfl, n2⟩
        replace hs := hs.nx n2
        have hb2 : Nx w w2 := bl_step n2 n1 n1.size
        clear n1 n2
        go_wp2_with fail
        refine (CQ.out _).mono ?_
        rintro e w2' ⟨rfl, n2⟩
        replace hs := hs.nx n2
        replace hb2 : Nx w w2' := bl_step n2 hb2 hb2.size
        clear n2
        have bV := (Bk.new w2' #[.int .u64 rb, .int .u64 rl] 24).alloc (.cells #[.int .u64 sb, .int .u64 sl] 24)
        have bX := bk_new2 (w2'.alloc (.cells #[.int .u64 rb, .int .u64 rl] 24)) #[.int .u64 sb, .int .u64 sl] 24 (n := w2'.heap.size + 1) (by simp)
        have hb3 : Nx w ((w2'.alloc (.cells #[.int .u64 rb, .int .u64 rl] 24)).alloc (.cells #[.int .u64 sb, .int .u64 sl] 24)) := (hb2.alloc hb2.size _).alloc (by have := hb2.size; simp; omega) _
        replace hs := (hs.alloc (.cells #[.int .u64 rb, .int .u64 rl] 24)).alloc (.cells #[.int .u64 sb, .int .u64 sl] 24)
        go_upto_region 4 with fail
        generalize (w2'.alloc (.cells #[.int .u64 rb, .int .u64 rl] 24)).alloc (.cells #[.int .u64 sb, .int .u64 sl] 24) = U at bV bX hb3 hs ⊢
        clear hb2
        have v0 := bV.cell 0
        have v1 := bV.cell 1
        have y0 := bX.cell 0
        have y1 := bX.cell 1
        go_wp2_with (first | (go_at_call 22; (first | ((with_reducible refine (CM.out _ _ _ hs).mono ?_); rintro e u1 ⟨rfl, n3⟩) | ((with_reducible refine (CN.out _ _ _ hs).mono ?_); rintro e u1 ⟨rfl, n3⟩)); replace bV := bV.nx n3; replace bX := bX.nx n3; replace hs := hs.nx n3; replace hb3 := bl_step n3 hb3 hb3.size; clear n3 v0 v1 y0 y1; have v0 := bV.cell 0; have v1 := bV.cell 1; have y0 := bX.cell 0; have y1 := bX.cell 1) | (go_at_call 23; refine (CP.out _).mono ?_; rintro e u1 ⟨rfl, n3⟩; replace hb3 := bl_step n3 hb3 hb3.size; clear n3))
        go_ret
        exact ⟨rfl, hb3⟩

set_option maxRecDepth 100000 in
theorem lifted (os : Os) (started : os.Started) (H : Type) (enc : TypeId × Value → H) :
    ReturnsInHanded {} Try.checked os 6 .any (Rows.fnAddOrderSpec.pre6 enc Try.prog Try.f6 Rows.fnAddOrderRow.domain false) (Rows.fnAddOrderSpec.post enc Try.prog Try.f6 false true false false) := by
  refine returnsInHanded_of_change (C := Try.checked) own started (by kernel_rfl) Try.func6
    (ChangeSpec.witness6 (enc := enc) (C := Try.checked) false ⟨#[], #[.slice none 0 0, .int .u64 0, .int .u64 0, .int .u64 0, .int .u64 0], []⟩ 8 (by kernel_rfl) (by kernel_rfl) (by kernel_rfl) (by kernel_rfl)) ?_
  intro W base args ds gs before hval0 hW hcnd _
  have hval : ∀ (j : Nat) t v, Try.f6.params[j]? = some t → args[j]? = some v → Value.okWide Try.prog W .any base t v := hval0
  have hW' := hW
  obtain ⟨p, q, hA0, hV, rfl, hfz, hnd⟩ := hW
  have hA : DataW.TrodAll enc Try.prog W 0 (fun _ => true) true Try.f6.params.toList args.toList ds p := hA0
  rw [Try.params6] at hA hval
  obtain ⟨v0, vs0, d0, ds0, p0, q0, hargs, rfl, rfl, h0, r0⟩ := trodAll_cons hA
  obtain ⟨v1, vs1, d1, ds1, p1, q1, rfl, rfl, rfl, h1, r1⟩ := trodAll_cons r0
  obtain ⟨v2, vs2, d2, ds2, p2, q2, rfl, rfl, rfl, h2, r2⟩ := trodAll_cons r1
  obtain ⟨v3, vs3, d3, ds3, p3, q3, rfl, rfl, rfl, h3, r3⟩ := trodAll_cons r2
  obtain ⟨v4, vs4, d4, ds4, p4, q4, rfl, rfl, rfl, h4, r4⟩ := trodAll_cons r3
  obtain ⟨rfl, rfl, rfl⟩ := trodAll_nil r4
  obtain rfl : args = #[v0, v1, v2, v3, v4] := by cases args; simp_all
  obtain ⟨rfl, rfl⟩ := trodVars_none hV
  obtain ⟨a0, len0, cap0, rfl⟩ := okWide_slice Try.underlying33 (hval 0 33 v0 rfl rfl)
  have k0 := h0
  have lt0 : ∀ x ∈ p0, x.block < W.heap.size := by obtain ⟨m, hm⟩ := k0; exact DataW.trod_lt m _ _ _ hm
  obtain ⟨z0, w0⟩ : ∃ zs, IsRow .u16 W a0 len0 cap0 zs := by
    obtain ⟨fuel, hf⟩ := h0
    rcases open_ints Try.underlying33 Try.underlying59 (by kernel_rfl) hf with ⟨hcs, _⟩ | ⟨x, l, c, zs, hcs, _, hl, hm, hz, _, hcell, hwz⟩
    · simp [Value.cells] at hcs
      obtain ⟨rfl, rfl, rfl⟩ := hcs
      exact ⟨[], .inl ⟨rfl, rfl, rfl, rfl⟩⟩
    · simp [Value.cells] at hcs
      obtain ⟨rfl, rfl, rfl⟩ := hcs
      exact ⟨zs, .inr ⟨_, rfl, hl, hm, by simpa using hz, hcell, hwz⟩⟩
  obtain ⟨a1, rfl, rfl, rfl, w1⟩ := open_int Try.underlying22 (hval 1 22 v1 rfl rfl) h1
  obtain ⟨a2, rfl, rfl, rfl, w2⟩ := open_int Try.underlying22 (hval 2 22 v2 rfl rfl) h2
  obtain ⟨a3, rfl, rfl, rfl, w3⟩ := open_int Try.underlying22 (hval 3 22 v3 rfl rfl) h3
  obtain ⟨a4, rfl, rfl, rfl, w4⟩ := open_int Try.underlying22 (hval 4 22 v4 rfl rfl) h4
  clear hA0 hval0
  refine (walk a0 len0 cap0 z0 a1 a2 a3 a4 W w0 w1 w2 w3 w4).mono fun e W' ⟨he, bel⟩ => ?_
  subst he
  exact ⟨_, rfl, _, _, _, [], _, [], hW', trodAll_mk1 (shut_bool Try.underlying4 _), (trodAll_cons_mk (Below.trod laidOut (by kernel_rfl) (of_decide_eq_true (by kernel_rfl)) k0 bel lt0) (trodAll_cons_mk (shut_int Try.underlying22 w1) (trodAll_cons_mk (shut_int Try.underlying22 w2) (trodAll_cons_mk (shut_int Try.underlying22 w3) (trodAll_cons_mk (shut_int Try.underlying22 w4) trodAll_mk0))))), rfl, Below.frame bel _, fun h => by cases h⟩
theorem over : Rows.fnAddOrderRow.holds Try.pinned (OpenSpec.ofChange Rows.fnAddOrderSpec) :=
  OpenClaim.holds_of_wide 6 Try.f6 rfl rfl rfl rfl rfl rfl rfl ⟨rfl, rfl, rfl, rfl, rfl⟩ rfl rfl rfl rfl rfl (by kernel_rfl) Try.func6 (by kernel_rfl)
    (of_decide_eq_true (by kernel_rfl)) (by unfold Func.isWrapper; first | (rw [if_pos (by decide +kernel)]; kernel_rfl) | (rw [if_neg (by decide +kernel)]; exact ⟨rfl, rfl⟩))
    (fun os started H enc _ => lifted os started H enc)
theorem proved : Rows.FnAddOrderSaid := over
#print axioms proved
end Go.Proofs.Ytnmljgjcdofboaa.fnAddOrder
