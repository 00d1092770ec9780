/- The callees of seat b6626308a, by contracts: (Claim).Tier, zzCrossed, zzCensus; and the plain functions that they compute. -/
import Derived.Test.Qxb6626308aRows
import Derived.WalkKit
namespace Go.Proofs.Qxb6626308a
open Go.RowKit

/-- The tier of a claim, as a number. -/
def tier (c : Int) : Int := if 96 ≤ c then 3 else if 32 ≤ c then 2 else if 2 ≤ c then 1 else 0
def crossed (lo hi : Int) : Int := (if lo < 2 ∧ 2 ≤ hi then 1 else 0) + (if lo < 32 ∧ 32 ≤ hi then 1 else 0) + (if lo < 96 ∧ 96 ≤ hi then 1 else 0)
def census (s : Int) : Int := if s = 0 then 130 else if s = 1 then 30 else if s = 2 then 64 else if s = 3 then 32 else 0

theorem tier_bd (c : Int) : 0 ≤ tier c ∧ tier c ≤ 3 := by unfold tier; split <;> (try split) <;> (try split) <;> omega
theorem crossed_bd (a b : Int) : 0 ≤ crossed a b ∧ crossed a b ≤ 3 := by unfold crossed; split <;> split <;> split <;> omega
theorem law (lo hi : Int) (h : lo ≤ hi) : tier hi - tier lo = crossed lo hi := by
  unfold tier crossed
  repeat' split
  all_goals omega

theorem tier_3 (c : Int) (h : 96 ≤ c) : tier c = 3 := by unfold tier; rw [if_pos h]
theorem tier_2 (c : Int) (h1 : ¬ 96 ≤ c) (h : 32 ≤ c) : tier c = 2 := by unfold tier; rw [if_neg h1, if_pos h]
theorem tier_1 (c : Int) (h2 : ¬ 32 ≤ c) (h : 2 ≤ c) : tier c = 1 := by unfold tier; rw [if_neg (by omega), if_neg h2, if_pos h]
theorem tier_0 (c : Int) (h : ¬ 2 ≤ c) : tier c = 0 := by unfold tier; rw [if_neg (by omega), if_neg (by omega), if_neg h]

theorem ret_int {k : IntKind} {a b : Int} (h : a = b) : Ending.returned (.int k a) = .returned (.int k b) := by rw [h]

theorem tier_any (c : Int) (w : World) : Calls Try.prog 5 #[.int .i8 c] w fun e w' => e = .returned (.int .u8 (tier c)) ∧ w' = w := by
  by_cases h3 : 96 ≤ c
  · have E : Hid (tier c = 3) := tier_3 c h3
    go_enter Try.func5, Try.ntmps5
    go_wp2
    go_ret
    exact ⟨ret_int E.out.symm, rfl⟩
  · by_cases h2 : 32 ≤ c
    · have E : Hid (tier c = 2) := tier_2 c h3 h2
      go_enter Try.func5, Try.ntmps5
      go_wp2
      go_ret
      exact ⟨ret_int E.out.symm, rfl⟩
    · by_cases h1 : 2 ≤ c
      · have E : Hid (tier c = 1) := tier_1 c h2 h1
        go_enter Try.func5, Try.ntmps5
        go_wp2
        go_ret
        exact ⟨ret_int E.out.symm, rfl⟩
      · have E : Hid (tier c = 0) := tier_0 c h1
        go_enter Try.func5, Try.ntmps5
        go_wp2
        go_ret
        exact ⟨ret_int E.out.symm, rfl⟩

theorem census_any (s : Int) (w : World) : Calls Try.prog 7 #[.int .u8 s] w fun e w' => e = .returned (.int .i64 (census s)) ∧ w' = w := by
  by_cases h0 : (s == 0) = true
  · have E : Hid (census s = 130) := by have := eq_of_beq h0; subst this; rfl
    go_enter Try.func7, Try.ntmps7
    go_wp2
    go_ret
    exact ⟨ret_int E.out.symm, rfl⟩
  · have h0 : (s == 0) = false := by simpa using h0
    by_cases h1 : (s == 1) = true
    · have E : Hid (census s = 30) := by have := eq_of_beq h1; subst this; rfl
      go_enter Try.func7, Try.ntmps7
      go_wp2
      go_ret
      exact ⟨ret_int E.out.symm, rfl⟩
    · have h1 : (s == 1) = false := by simpa using h1
      by_cases h2 : (s == 2) = true
      · have E : Hid (census s = 64) := by have := eq_of_beq h2; subst this; rfl
        go_enter Try.func7, Try.ntmps7
        go_wp2
        go_ret
        exact ⟨ret_int E.out.symm, rfl⟩
      · have h2 : (s == 2) = false := by simpa using h2
        by_cases h3 : (s == 3) = true
        · have E : Hid (census s = 32) := by have := eq_of_beq h3; subst this; rfl
          go_enter Try.func7, Try.ntmps7
          go_wp2
          go_ret
          exact ⟨ret_int E.out.symm, rfl⟩
        · have h3 : (s == 3) = false := by simpa using h3
          have E : Hid (census s = 0) := by
            have a0 : s ≠ 0 := by simpa using h0
            have a1 : s ≠ 1 := by simpa using h1
            have a2 : s ≠ 2 := by simpa using h2
            have a3 : s ≠ 3 := by simpa using h3
            show census s = 0
            unfold census; rw [if_neg a0, if_neg a1, if_neg a2, if_neg a3]
          go_enter Try.func7, Try.ntmps7
          go_wp2
          go_ret
          exact ⟨ret_int E.out.symm, rfl⟩

set_option maxHeartbeats 1000000 in
theorem crossed_any (lo hi : Int) (w : World) : Calls Try.prog 6 #[.int .i8 lo, .int .i8 hi] w fun e w' => e = .returned (.int .i64 (crossed lo hi)) ∧ w' = w := by
  by_cases a1 : lo < 2 <;> by_cases b1 : 2 ≤ hi <;> by_cases a2 : lo < 32 <;> by_cases b2 : 32 ≤ hi <;> by_cases a3 : lo < 96 <;> by_cases b3 : 96 ≤ hi <;> (try (exfalso; omega))
  all_goals
    go_enter Try.func6, Try.ntmps6
    go_wp2
    go_ret
    exact ⟨ret_int (by unfold crossed; (repeat' split) <;> omega), rfl⟩
end Go.Proofs.Qxb6626308a
