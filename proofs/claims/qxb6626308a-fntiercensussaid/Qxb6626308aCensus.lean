/- The proof of 'Rows.FnTierCensusSaid': the frame is the guide's skeleton; the walk is by the contracts of Qxb6626308aCallees. -/
import Derived.Test.Qxb6626308aRows
import Derived.Test.Qxb6626308aCallees
import Derived.WalkKit
import Derived.ProofKit
import Derived.OpenShut
import Derived.ShutString
namespace Go.Proofs.Qxb6626308a.fnTierCensus
open Go.ChangeShapes Go.WideShapes Go.ChangeAt Go.RowKit
open Go.ChangeMaps (open_string shut_string)
set_option linter.unusedVariables false      -- a walk need not use every 'w<i>' (that an integer argument fits its kind)

theorem own : ownKnob Try.prog.godebug = none := by kernel_rfl

/-! ### THE PLAIN LAW -/
/-- Of the first k claims, -128 on, how many are of tier s. -/
def cnt (s : Int) : Nat → Int
  | 0 => 0
  | k + 1 => cnt s k + if tier ((k : Int) - 128) = s then 1 else 0
theorem cnt_bd (s : Int) (k : Nat) : 0 ≤ cnt s k ∧ cnt s k ≤ k := by
  induction k with
  | zero => exact ⟨Int.le_refl _, Int.le_refl _⟩
  | succ k ih => simp only [cnt]; split <;> omega
theorem cnt_none (s : Int) (h : s ≠ 0 ∧ s ≠ 1 ∧ s ≠ 2 ∧ s ≠ 3) (k : Nat) : cnt s k = 0 := by
  induction k with
  | zero => rfl
  | succ k ih =>
    have := tier_bd ((k : Int) - 128)
    simp only [cnt, ih]
    rw [if_neg (by omega)]; rfl
theorem cnt_all (s : Int) : cnt s 256 = census s := by
  by_cases h0 : s = 0
  · subst h0; decide +kernel
  · by_cases h1 : s = 1
    · subst h1; decide +kernel
    · by_cases h2 : s = 2
      · subst h2; decide +kernel
      · by_cases h3 : s = 3
        · subst h3; decide +kernel
        · rw [cnt_none s ⟨h0, h1, h2, h3⟩]; unfold census; rw [if_neg h0, if_neg h1, if_neg h2, if_neg h3]
theorem cnt_yes (s : Int) (k : Nat) (h : (tier ((k : Int) - 128) == s) = true) : cnt s k + 1 = cnt s (k + 1) := by
  simp only [cnt]; rw [if_pos (eq_of_beq h)]
theorem cnt_no (s : Int) (k : Nat) (h : (tier ((k : Int) - 128) == s) = false) : cnt s k = cnt s (k + 1) := by
  simp only [cnt]; rw [if_neg (by simpa using h)]; omega
theorem out (s : Int) (k : Nat) (h1 : k ≤ 256) (h2 : ¬ k < 256) : (cnt s k == census s) = true := by
  have : k = 256 := by omega
  subst this; rw [cnt_all]; simp

/-! ### THE WALK -/
theorem walk (a0 : Int) (w0 : (Lit.int .u8 a0).wf = true) (w : World) :
    Calls Try.prog 4 #[.int .u8 a0] w fun e w' => e = .returned (.bool true) ∧ Grown w w' := by
  go_enter Try.func4, Try.ntmps4
  go_wp2
  go_loop [3, 4] (fun n i => ∃ k : Nat, k ≤ 256 ∧ i = .int .i64 ((k : Int) - 128) ∧ n = .int .i64 (cnt a0 k)) (fun _ i => (128 - intOf i).toNat)
  case atStart => exact ⟨0, Nat.zero_le _, rfl, rfl⟩
  case round =>
    obtain ⟨k, hk, rfl, rfl⟩ := hrel
    have hb := cnt_bd a0 k
    by_cases hlt : k < 256
    · by_cases ht : (tier ((k : Int) - 128) == a0) = true
      · have HS : Hid (cnt a0 k + 1 = cnt a0 (k + 1)) := cnt_yes a0 k ht
        go_wp2_with (go_at_call 5; refine (tier_any _ _).mono ?_; rintro e w' ⟨rfl, rfl⟩)
        go_round
        case rel => exact ⟨k + 1, by omega, by go_num, by rw [HS.out]⟩
        case measure => simp [intOf]; omega
      · have ht : (tier ((k : Int) - 128) == a0) = false := by simpa using ht
        have HS : Hid (cnt a0 k = cnt a0 (k + 1)) := cnt_no a0 k ht
        go_wp2_with (go_at_call 5; refine (tier_any _ _).mono ?_; rintro e w' ⟨rfl, rfl⟩)
        go_round
        case rel => exact ⟨k + 1, by omega, by go_num, by rw [← HS.out]⟩
        case measure => simp [intOf]; omega
    · have HO : Hid ((cnt a0 k == census a0) = true) := out a0 k hk hlt
      go_wp2_with (go_at_call 7; refine (census_any _ _).mono ?_; rintro e w' ⟨rfl, rfl⟩)
      go_ret
      exact ⟨by rw [HO.out]; rfl, by repeat (first | exact Grown.refl _ | apply Grown.drew | apply Grown.alloc)⟩

/-! ### THE ROW's STEP: WRITTEN OUT: LEAVE IT -/
set_option maxRecDepth 100000 in
theorem lifted (os : Os) (started : os.Started) (H : Type) (enc : TypeId × Value → H) :
    ReturnsInHanded {} Try.checked os 4 .any (Rows.fnTierCensusSpec.pre6 enc Try.prog Try.f4 Rows.fnTierCensusRow.domain false) (Rows.fnTierCensusSpec.post enc Try.prog Try.f4 false true false false) := by
  refine returnsInHanded_of_change (C := Try.checked) own started (by kernel_rfl) Try.func4
    (ChangeSpec.witness6 (enc := enc) (C := Try.checked) false ⟨#[], #[.int .u8 0], []⟩ 8 (by kernel_rfl) (by kernel_rfl) (by kernel_rfl) (by kernel_rfl)) ?_
  intro W base args ds gs before hval0 hW hcnd _
  have hval : ∀ (j : Nat) t v, Try.f4.params[j]? = some t → args[j]? = some v → Value.okWide Try.prog W .any base t v := hval0
  have hW' := hW
  obtain ⟨p, q, hA0, hV, rfl, hfz, hnd⟩ := hW
  have hA : DataW.TrodAll enc Try.prog W 0 (fun _ => true) true Try.f4.params.toList args.toList ds p := hA0
  rw [Try.params4] at hA hval
  obtain ⟨v0, vs0, d0, ds0, p0, q0, hargs, rfl, rfl, h0, r0⟩ := trodAll_cons hA
  obtain ⟨rfl, rfl, rfl⟩ := trodAll_nil r0
  obtain rfl : args = #[v0] := by cases args; simp_all
  obtain ⟨rfl, rfl⟩ := trodVars_none hV
  obtain ⟨a0, rfl, rfl, rfl, w0⟩ := open_int Try.underlying5 (hval 0 5 v0 rfl rfl) h0
  clear hA0 hval0
  simp only [List.append_nil] at hW'
  refine (walk a0 w0 W).mono fun e W' ⟨he, hg⟩ => ?_
  subst he
  exact ⟨_, rfl, post_of_same (pa := []) (pv := []) hW' (fun _ _ _ => (trodAll_cons_mk (shut_bool Try.underlying4 _) trodAll_mk0)) (fun sp _ => (trodAll_cons_mk (shut_int Try.underlying5 w0) trodAll_mk0)) (fun _ _ => rfl) rfl
    (hg.frame _) hg.2.1 (ok_one (by kernel_rfl) rfl (okWide_bool_mk Try.underlying4 _))⟩

theorem over : Rows.fnTierCensusRow.holds Try.pinned (OpenSpec.ofChange Rows.fnTierCensusSpec) :=
  OpenClaim.holds_of_wide 4 Try.f4 rfl rfl rfl rfl rfl rfl rfl ⟨rfl, rfl, rfl, rfl, rfl⟩ rfl rfl rfl rfl rfl (by kernel_rfl) Try.func4 (by kernel_rfl)
    (of_decide_eq_true (by kernel_rfl)) (by unfold Func.isWrapper; first | (rw [if_pos (by decide +kernel)]; kernel_rfl) | (rw [if_neg (by decide +kernel)]; exact ⟨rfl, rfl⟩))
    (fun os started H enc _ => lifted os started H enc)

/-- ████ THE STATEMENT ████ -/
theorem proved : Rows.FnTierCensusSaid :=
  over
end Go.Proofs.Qxb6626308a.fnTierCensus
