/- The proof of 'Rows.FnBucketAddAccumulatesToBurstSaid': the frame is the guide's skeleton; the walk is by the contracts of Qxb6626444aAdd and Qxb6626444aWide. -/
import Derived.Test.Qxb6626444aRows
import Derived.Test.Qxb6626444aWide
import Derived.WalkKit
import Derived.ProofKit
import Derived.OpenShut
import Derived.ShutString
namespace Go.Proofs.Qxb6626444a.fnBucketAddAccumulatesToBurst
open Go.ChangeShapes Go.WideShapes Go.ChangeAt Go.RowKit
open Go.ChangeMaps (open_string shut_string)
set_option linter.unusedVariables false      -- a walk need not use every 'w<i>' (that an integer argument fits its kind)

theorem own : ownKnob Try.prog.godebug = none := by kernel_rfl

/-! ### the plain end: adding the sum in one call lacks what the two calls lack -/
theorem sum_lack {d p w1 p1 w2 p2 c P L1 L2 L3 : Int} (hp0 : 0 ≤ p) (h1 : 0 ≤ w1) (h2 : 0 ≤ p1) (h3 : 0 ≤ w2) (h4 : 0 ≤ p2) (e1 : L1 = max 0 (d - amt p w1 p1)) (e2 : L2 = max 0 (L1 - amt p w2 p2)) (e3 : L3 = max 0 (d - amt p (w1 + w2 + c) P)) (hP : P = p1 + p2 - c * p) : L3 = L2 := by
  have e : amt p (w1 + w2 + c) P = amt p w1 p1 + amt p w2 p2 := by
    unfold amt
    rw [hP]
    simp only [Int.add_mul]
    omega
  have n1 : 0 ≤ amt p w1 p1 := by unfold amt; have := Int.mul_nonneg h1 hp0; omega
  have n2 : 0 ≤ amt p w2 p2 := by unfold amt; have := Int.mul_nonneg h3 hp0; omega
  rw [e] at e3
  omega

set_option maxRecDepth 100000 in
set_option maxHeartbeats 1600000 in
theorem walk (a0 : Int) (a1 : Int) (a2 : Int) (a3 : Int) (a4 : Int) (a5 : Int) (a6 : Int) (a7 : Int) (a8 : Int) (w0 : (Lit.int .u64 a0).wf = true) (w1 : (Lit.int .u64 a1).wf = true) (w2 : (Lit.int .i64 a2).wf = true) (w3 : (Lit.int .i64 a3).wf = true) (w4 : (Lit.int .u64 a4).wf = true) (w5 : (Lit.int .u64 a5).wf = true) (w6 : (Lit.int .u64 a6).wf = true) (w7 : (Lit.int .u64 a7).wf = true) (w8 : (Lit.int .u64 a8).wf = true) (w : World) :
    Calls Try.prog 3 #[.int .u64 a0, .int .u64 a1, .int .i64 a2, .int .i64 a3, .int .u64 a4, .int .u64 a5, .int .u64 a6, .int .u64 a7, .int .u64 a8] w fun e w' => e = .returned (.bool true) ∧ Below w.heap.size w w' := by
  have b0 := bounds_u64 w0
  have b1 := bounds_u64 w1
  have b2 := bounds_i64 w2
  have b3 := bounds_i64 w3
  have b4 := bounds_u64 w4
  have b5 := bounds_u64 w5
  have b6 := bounds_u64 w6
  have b7 := bounds_u64 w7
  have b8 := bounds_u64 w8
  clear w0 w1 w2 w3 w4 w5 w6 w7 w8
  by_cases p0 : a1 < 1
  · go_enter Try.func3, Try.ntmps3
    go_wp2
    go_ret
    exact ⟨rfl, Below.refl _ _⟩
  by_cases p1 : 9223372036854775808 < a1
  · go_enter Try.func3, Try.ntmps3
    go_wp2
    go_ret
    exact ⟨rfl, Below.refl _ _⟩
  by_cases p2 : a2 < 1
  · go_enter Try.func3, Try.ntmps3
    go_wp2
    go_ret
    exact ⟨rfl, Below.refl _ _⟩
  by_cases hv : Valid a1 a2 a3 a4
  rotate_left
  · go_enter Try.func3, Try.ntmps3
    go_wp2_with (go_at_call 5; refine (valid_no _ _ _ _ _ (by omega) (by omega) hv).mono ?_; rintro e w' ⟨rfl, rfl⟩)
    go_ret
    exact ⟨rfl, Below.refl _ _⟩
  have HV : Hid (Valid a1 a2 a3 a4) := hv
  clear hv
  by_cases p3 : a1 ≤ a6
  · go_enter Try.func3, Try.ntmps3
    go_wp2_with (go_at_call 5; refine (valid_yes _ _ _ _ _ (by omega) (by omega) HV.out).mono ?_; rintro e w' ⟨rfl, rfl⟩)
    go_ret
    exact ⟨rfl, Below.refl _ _⟩
  by_cases p4 : a1 ≤ a8
  · go_enter Try.func3, Try.ntmps3
    go_wp2_with (go_at_call 5; refine (valid_yes _ _ _ _ _ (by omega) (by omega) HV.out).mono ?_; rintro e w' ⟨rfl, rfl⟩)
    go_ret
    exact ⟨rfl, Below.refl _ _⟩
  by_cases p5 : 18446744073709551615 ≤ a5
  · have e5 : (a5 == 18446744073709551615) = true := by simp; omega
    go_enter Try.func3, Try.ntmps3
    go_wp2_with (go_at_call 5; refine (valid_yes _ _ _ _ _ (by omega) (by omega) HV.out).mono ?_; rintro e w' ⟨rfl, rfl⟩)
    go_ret
    exact ⟨rfl, Below.refl _ _⟩
  have e5 : (a5 == 18446744073709551615) = false := by simp; omega
  by_cases p6 : 18446744073709551615 ≤ a7
  · have e6 : (a7 == 18446744073709551615) = true := by simp; omega
    go_enter Try.func3, Try.ntmps3
    go_wp2_with (go_at_call 5; refine (valid_yes _ _ _ _ _ (by omega) (by omega) HV.out).mono ?_; rintro e w' ⟨rfl, rfl⟩)
    go_ret
    exact ⟨rfl, Below.refl _ _⟩
  have e6 : (a7 == 18446744073709551615) = false := by simp; omega
  go_enter Try.func3, Try.ntmps3
  go_wp2_with (go_at_call 5; refine (valid_yes _ _ _ _ _ (by omega) (by omega) HV.out).mono ?_; rintro e w' ⟨rfl, rfl⟩)
  refine (deficit_any a1 a2 a3 a4 _ (by omega) (by omega) (by omega) HV).mono ?_
  rintro e w ⟨dh, dl, rfl, cD, ED, rfl⟩
  go_wp2_with fail
  refine (addz_any a0 a1 a2 a3 a4 a5 a6 _ (by omega) (by omega) (by omega) (by omega) (by omega) HV (by omega) (by omega) (by omega) (by omega)).mono ?_
  rintro e w1 ⟨t1, q1, rfl, q10, q11, V1, L1, B1⟩
  go_wp2_with fail
  refine (valid_yes _ _ _ _ _ (by omega) (by omega) V1.out).mono ?_
  rintro e w1 ⟨rfl, rfl⟩
  go_wp2_with fail
  refine (amount_any a1 a5 a6 _ (by omega) (by omega) (by omega) (by omega) (by omega) (by omega)).mono ?_
  rintro e w1 ⟨ah, al, rfl, cA, EA, rfl⟩
  go_wp2_with fail
  refine (sat_any _ cD cA).mono ?_
  rintro e w1 ⟨eh, el, rfl, cE, EE, rfl⟩
  go_wp2_with fail
  refine (deficit_any a1 a2 t1 q1 _ (by omega) (by omega) q10 V1).mono ?_
  rintro e w1 ⟨gh, gl, rfl, cG, EG, rfl⟩
  obtain ⟨rfl, rfl⟩ := v128_inj cG cE (by rw [EG.out, EE.out, ED.out, EA.out]; exact L1.out)
  clear cE EE cD ED cA EA
  go_wp2_with fail
  refine (addz_any a0 a1 a2 t1 q1 a7 a8 _ (by omega) (by omega) (by omega) (by omega) q10 V1 (by omega) (by omega) (by omega) (by omega)).mono ?_
  rintro e w2 ⟨t2, q2, rfl, q20, q21, V2, L2, B2⟩
  go_wp2_with fail
  refine (valid_yes _ _ _ _ _ (by omega) (by omega) V2.out).mono ?_
  rintro e w2 ⟨rfl, rfl⟩
  go_wp2_with fail
  refine (amount_any a1 a7 a8 _ (by omega) (by omega) (by omega) (by omega) (by omega) (by omega)).mono ?_
  rintro e w2 ⟨bh, bl, rfl, cB, EB, rfl⟩
  go_wp2_with fail
  refine (sat_any _ cG cB).mono ?_
  rintro e w2 ⟨fh, fl, rfl, cF, EF, rfl⟩
  go_wp2_with fail
  refine (deficit_any a1 a2 t2 q2 _ (by omega) (by omega) q20 V2).mono ?_
  rintro e w2 ⟨hh, hl, rfl, cH, EH, rfl⟩
  obtain ⟨rfl, rfl⟩ := v128_inj cH cF (by rw [EH.out, EF.out, EG.out, EB.out]; exact L2.out)
  clear cF EF cG EG cB EB cH EH
  by_cases hc : a1 ≤ a6 + a8
  · by_cases hl : 18446744073709551614 - a7 < 1
    · go_wp2_with fail
      go_ret
      exact ⟨rfl, comp B1 B2⟩
    · by_cases hs : a5 ≤ 18446744073709551614 - a7 - 1
      · go_wp2_with fail
        refine (addz_any a0 a1 a2 a3 a4 (a5 + a7 + 1) (a6 + a8 - a1) _ (by omega) (by omega) (by omega) (by omega) (by omega) HV (by omega) (by omega) (by omega) (by omega)).mono ?_
        rintro e w3 ⟨t3, q3, rfl, q30, q31, V3, L3, B3⟩
        obtain ⟨rfl, rfl⟩ : t3 = t2 ∧ q3 = q2 := uniq (p := a1) (burst := a2) (by omega) q30 q31 q20 q21 (sum_lack (c := 1) (by omega) (by omega) (by omega) (by omega) (by omega) L1.out L2.out L3.out (by omega))
        go_wp2_with fail
        go_ret
        exact ⟨rfl, comp B1 (comp B2 B3)⟩
      · go_wp2_with fail
        go_ret
        exact ⟨rfl, comp B1 B2⟩
  · by_cases hs : a5 ≤ 18446744073709551614 - a7
    · go_wp2_with fail
      refine (addz_any a0 a1 a2 a3 a4 (a5 + a7) (a6 + a8) _ (by omega) (by omega) (by omega) (by omega) (by omega) HV (by omega) (by omega) (by omega) (by omega)).mono ?_
      rintro e w3 ⟨t3, q3, rfl, q30, q31, V3, L3, B3⟩
      obtain ⟨rfl, rfl⟩ : t3 = t2 ∧ q3 = q2 := uniq (p := a1) (burst := a2) (by omega) q30 q31 q20 q21 (sum_lack (c := 0) (P := a6 + a8) (by omega) (by omega) (by omega) (by omega) (by omega) L1.out L2.out (by rw [Int.add_zero]; exact L3.out) (by omega))
      go_wp2_with fail
      go_ret
      exact ⟨rfl, comp B1 (comp B2 B3)⟩
    · go_wp2_with fail
      go_ret
      exact ⟨rfl, comp B1 B2⟩

/-! ### THE ROW's STEP: WRITTEN OUT: LEAVE IT -/
set_option maxRecDepth 100000 in
theorem lifted (os : Os) (started : os.Started) (H : Type) (enc : TypeId × Value → H) :
    ReturnsInHanded {} Try.checked os 3 .any (Rows.fnBucketAddAccumulatesToBurstSpec.pre6 enc Try.prog Try.f3 Rows.fnBucketAddAccumulatesToBurstRow.domain false) (Rows.fnBucketAddAccumulatesToBurstSpec.post enc Try.prog Try.f3 false true false false) := by
  refine returnsInHanded_of_change (C := Try.checked) own started (by kernel_rfl) Try.func3
    (ChangeSpec.witness6 (enc := enc) (C := Try.checked) false ⟨#[], #[.int .u64 0, .int .u64 0, .int .i64 0, .int .i64 0, .int .u64 0, .int .u64 0, .int .u64 0, .int .u64 0, .int .u64 0], []⟩ 8 (by kernel_rfl) (by kernel_rfl) (by kernel_rfl) (by kernel_rfl)) ?_
  intro W base args ds gs before hval0 hW hcnd _
  have hval : ∀ (j : Nat) t v, Try.f3.params[j]? = some t → args[j]? = some v → Value.okWide Try.prog W .any base t v := hval0
  have hW' := hW
  obtain ⟨p, q, hA0, hV, rfl, hfz, hnd⟩ := hW
  have hA : DataW.TrodAll enc Try.prog W 0 (fun _ => true) true Try.f3.params.toList args.toList ds p := hA0
  rw [Try.params3] at hA hval
  obtain ⟨v0, vs0, d0, ds0, p0, q0, hargs, rfl, rfl, h0, r0⟩ := trodAll_cons hA
  obtain ⟨v1, vs1, d1, ds1, p1, q1, rfl, rfl, rfl, h1, r1⟩ := trodAll_cons r0
  obtain ⟨v2, vs2, d2, ds2, p2, q2, rfl, rfl, rfl, h2, r2⟩ := trodAll_cons r1
  obtain ⟨v3, vs3, d3, ds3, p3, q3, rfl, rfl, rfl, h3, r3⟩ := trodAll_cons r2
  obtain ⟨v4, vs4, d4, ds4, p4, q4, rfl, rfl, rfl, h4, r4⟩ := trodAll_cons r3
  obtain ⟨v5, vs5, d5, ds5, p5, q5, rfl, rfl, rfl, h5, r5⟩ := trodAll_cons r4
  obtain ⟨v6, vs6, d6, ds6, p6, q6, rfl, rfl, rfl, h6, r6⟩ := trodAll_cons r5
  obtain ⟨v7, vs7, d7, ds7, p7, q7, rfl, rfl, rfl, h7, r7⟩ := trodAll_cons r6
  obtain ⟨v8, vs8, d8, ds8, p8, q8, rfl, rfl, rfl, h8, r8⟩ := trodAll_cons r7
  obtain ⟨rfl, rfl, rfl⟩ := trodAll_nil r8
  obtain rfl : args = #[v0, v1, v2, v3, v4, v5, v6, v7, v8] := by cases args; simp_all
  obtain ⟨rfl, rfl⟩ := trodVars_none hV
  obtain ⟨a0, rfl, rfl, rfl, w0⟩ := open_int Try.underlying22 (hval 0 22 v0 rfl rfl) h0
  obtain ⟨a1, rfl, rfl, rfl, w1⟩ := open_int Try.underlying22 (hval 1 22 v1 rfl rfl) h1
  obtain ⟨a2, rfl, rfl, rfl, w2⟩ := open_int Try.underlying2 (hval 2 2 v2 rfl rfl) h2
  obtain ⟨a3, rfl, rfl, rfl, w3⟩ := open_int Try.underlying2 (hval 3 2 v3 rfl rfl) h3
  obtain ⟨a4, rfl, rfl, rfl, w4⟩ := open_int Try.underlying22 (hval 4 22 v4 rfl rfl) h4
  obtain ⟨a5, rfl, rfl, rfl, w5⟩ := open_int Try.underlying22 (hval 5 22 v5 rfl rfl) h5
  obtain ⟨a6, rfl, rfl, rfl, w6⟩ := open_int Try.underlying22 (hval 6 22 v6 rfl rfl) h6
  obtain ⟨a7, rfl, rfl, rfl, w7⟩ := open_int Try.underlying22 (hval 7 22 v7 rfl rfl) h7
  obtain ⟨a8, rfl, rfl, rfl, w8⟩ := open_int Try.underlying22 (hval 8 22 v8 rfl rfl) h8
  clear hA0 hval0
  refine (walk a0 a1 a2 a3 a4 a5 a6 a7 a8 w0 w1 w2 w3 w4 w5 w6 w7 w8 W).mono fun e W' ⟨he, bel⟩ => ?_
  subst he
  exact ⟨_, rfl, _, _, _, [], _, [], hW', trodAll_mk1 (shut_bool Try.underlying4 _), (trodAll_cons_mk (shut_int Try.underlying22 w0) (trodAll_cons_mk (shut_int Try.underlying22 w1) (trodAll_cons_mk (shut_int Try.underlying2 w2) (trodAll_cons_mk (shut_int Try.underlying2 w3) (trodAll_cons_mk (shut_int Try.underlying22 w4) (trodAll_cons_mk (shut_int Try.underlying22 w5) (trodAll_cons_mk (shut_int Try.underlying22 w6) (trodAll_cons_mk (shut_int Try.underlying22 w7) (trodAll_cons_mk (shut_int Try.underlying22 w8) trodAll_mk0))))))))), rfl, bel.frame _, fun h => by cases h⟩

theorem over : Rows.fnBucketAddAccumulatesToBurstRow.holds Try.pinned (OpenSpec.ofChange Rows.fnBucketAddAccumulatesToBurstSpec) :=
  OpenClaim.holds_of_wide 3 Try.f3 rfl rfl rfl rfl rfl rfl rfl ⟨rfl, rfl, rfl, rfl, rfl⟩ rfl rfl rfl rfl rfl (by kernel_rfl) Try.func3 (by kernel_rfl)
    (of_decide_eq_true (by kernel_rfl)) (by unfold Func.isWrapper; first | (rw [if_pos (by decide +kernel)]; kernel_rfl) | (rw [if_neg (by decide +kernel)]; exact ⟨rfl, rfl⟩))
    (fun os started H enc _ => lifted os started H enc)

/-- ████ THE STATEMENT ████ -/
theorem proved : Rows.FnBucketAddAccumulatesToBurstSaid :=
  over
end Go.Proofs.Qxb6626444a.fnBucketAddAccumulatesToBurst
