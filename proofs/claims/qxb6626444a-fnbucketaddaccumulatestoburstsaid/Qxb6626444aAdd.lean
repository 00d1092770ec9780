/- Seat b6626444a: validLevel, ZZfull, ZZadd, by contracts. -/
import Derived.Test.Qxb6626444aRows
import Derived.WalkKit
import Derived.WalkSpells
import Derived.Deep.QuietTactic
import Derived.BigQuiet
namespace Go.Proofs.Qxb6626444a
open Go.RowKit

/-- What the doc comments allow a level to hold under a policy. -/
def Valid (period burst tokens part : Int) : Prop := tokens ≤ burst ∧ burst - 9223372036854775807 ≤ tokens ∧ part < period ∧ (tokens < burst ∨ part = 0)

theorem below_dn {B : Nat} {a w : World} (h : Below B a w) (n : Nat) : Below B a (w.drewN n) := h.trans ⟨rfl, rfl, rfl, Nat.le_refl _, fun _ _ => rfl⟩
theorem comp {a b c : World} (h : Below a.heap.size a b) (k : Below b.heap.size b c) : Below a.heap.size a c := h.trans (k.mono h.size)

theorem valid_yes (period burst tokens part : Int) (w : World) (hb : 1 ≤ burst) (hb2 : burst ≤ 9223372036854775807) (h : Valid period burst tokens part) :
    Calls Try.prog 5 #[.int .u64 period, .int .i64 burst, .int .i64 tokens, .int .u64 part] w fun e w' => e = .returned (.bool true) ∧ w' = w := by
  obtain ⟨h1, h2, h3, h4⟩ := h
  by_cases h5 : tokens < burst
  · go_enter Try.func5, Try.ntmps5
    go_wp2
    go_ret
    exact ⟨rfl, rfl⟩
  · have h6 : part = 0 := by rcases h4 with h | h <;> omega
    subst h6
    clear h4
    go_enter Try.func5, Try.ntmps5
    go_wp2
    go_ret
    exact ⟨rfl, rfl⟩
theorem valid_no (period burst tokens part : Int) (w : World) (hb : 1 ≤ burst) (hb2 : burst ≤ 9223372036854775807) (h : ¬ Valid period burst tokens part) :
    Calls Try.prog 5 #[.int .u64 period, .int .i64 burst, .int .i64 tokens, .int .u64 part] w fun e w' => e = .returned (.bool false) ∧ w' = w := by
  by_cases h1 : tokens ≤ burst
  · by_cases h2 : burst - 9223372036854775807 ≤ tokens
    · by_cases h3 : part < period
      · have h4 : ¬ tokens < burst := fun h4 => h ⟨h1, h2, h3, .inl h4⟩
        have h5 : (part == 0) = false := by
          have : part ≠ 0 := fun h5 => h ⟨h1, h2, h3, .inr h5⟩
          simpa using this
        clear h
        go_enter Try.func5, Try.ntmps5
        go_wp2
        go_ret
        exact ⟨rfl, rfl⟩
      · clear h
        go_enter Try.func5, Try.ntmps5
        go_wp2
        go_ret
        exact ⟨rfl, rfl⟩
    · clear h
      go_enter Try.func5, Try.ntmps5
      go_wp2
      go_ret
      exact ⟨rfl, rfl⟩
  · clear h
    go_enter Try.func5, Try.ntmps5
    go_wp2
    go_ret
    exact ⟨rfl, rfl⟩

theorem full16 (b : Nat) (burst : Int) (w : World) (h : w.cell? ⟨b, 2, none⟩ = some (.int .i64 burst)) :
    Calls Try.prog 16 #[.pointer (some ⟨b, 0, none⟩)] w fun e w' => e = .returned (.agg #[.int .i64 burst, .int .u64 0]) ∧ w' = w.alloc (.cells #[.int .i64 burst, .int .u64 0] 39) := by
  have hb : b < w.heap.size := World.block_lt_of_cell? w _ h
  go_enter Try.func16, Try.ntmps16
  go_wp2
  exact bodyPost_ret (v := .agg #[.int .i64 burst, .int .u64 0]) (by simp [results, Try.results16, go_sem]) rfl ⟨rfl, rfl⟩

theorem full_any (events period burst : Int) (w : World) :
    Calls Try.prog 10 #[.int .u64 events, .int .u64 period, .int .i64 burst] w fun e w' => e = .returned (.tuple #[.int .i64 burst, .int .u64 0]) ∧ Below w.heap.size w w' := by
  go_enter Try.func10, Try.ntmps10
  go_wp2_with (go_at_call 16; refine (full16 _ burst _ ?_).mono ?_; (simp); rintro e w' ⟨rfl, rfl⟩)
  go_quiet (fail)
  go_wp2
  go_ret2
  exact ⟨rfl, below_dn (((Below.refl _ _).alloc (Nat.le_refl _) _).alloc (by simp) _ |>.alloc (by simp; omega) _) _⟩

/-- Not filled up: what was added is there. -/
theorem add_not (events period burst tokens lpart whole part T P : Int) (c : Int) (w : World) (hp0 : 1 ≤ period) (hp1 : period ≤ 9223372036854775808) (hb0 : 1 ≤ burst) (hb1 : burst ≤ 9223372036854775807)
    (ht0 : burst - 9223372036854775807 ≤ tokens) (ht1 : tokens ≤ burst) (hl0 : 0 ≤ lpart) (hl1 : lpart < period) (hw0 : 0 ≤ whole) (hw1 : whole ≤ 18446744073709551614) (hq0 : 0 ≤ part) (hq1 : part < period)
    (hc : (c = 0 ∧ part + lpart < period) ∨ (c = 1 ∧ period ≤ part + lpart)) (hn : whole + c < burst - tokens) (hT : Hid (T = tokens + whole + c)) (hP : Hid (P = part + lpart - c * period)) :
    Calls Try.prog 7 #[.int .u64 events, .int .u64 period, .int .i64 burst, .int .i64 tokens, .int .u64 lpart, .int .u64 whole, .int .u64 part] w fun e w' =>
      e = .returned (.tuple #[.int .i64 T, .int .u64 P]) ∧ Below w.heap.size w w' := by
  rcases hc with ⟨rfl, hc⟩ | ⟨rfl, hc⟩
  · have hT' : Hid (T = tokens + whole) := by show T = _; have := hT.out; omega
    have hP' : Hid (P = part + lpart) := by show P = _; have := hP.out; omega
    clear hT hP
    go_enter Try.func7, Try.ntmps7
    go_wp2_with (first | (go_at_call 16; refine (full16 _ burst _ ?_).mono ?_; (simp); rintro e w' ⟨rfl, rfl⟩) | go_in)
    go_quiet (fail)
    go_wp2_with (first | (go_at_call 16; refine (full16 _ burst _ ?_).mono ?_; (simp); rintro e w' ⟨rfl, rfl⟩) | go_in)
    go_end0
    go_wp2
    go_quiet (fail)
    go_wp2
    go_ret2
    exact ⟨by rw [hT'.out, hP'.out]; rfl, below_dn (Below.setCell (Below.setCell (below_dn (Below.alloc (Below.alloc (Below.refl _ _) (Nat.le_refl _) _) (by simp) _) _) (by simp) _) (by simp) _) _⟩
  · have hT' : Hid (T = tokens + (whole + 1)) := by show T = _; have := hT.out; omega
    have hP' : Hid (P = part + lpart - period) := by show P = _; have := hP.out; omega
    clear hT hP
    go_enter Try.func7, Try.ntmps7
    go_wp2_with (first | (go_at_call 16; refine (full16 _ burst _ ?_).mono ?_; (simp); rintro e w' ⟨rfl, rfl⟩) | go_in)
    go_quiet (fail)
    go_wp2_with (first | (go_at_call 16; refine (full16 _ burst _ ?_).mono ?_; (simp); rintro e w' ⟨rfl, rfl⟩) | go_in)
    go_end0
    go_wp2
    go_quiet (fail)
    go_wp2
    go_ret2
    exact ⟨by rw [hT'.out, hP'.out]; rfl, below_dn (Below.setCell (Below.setCell (below_dn (Below.alloc (Below.alloc (Below.refl _ _) (Nat.le_refl _) _) (by simp) _) _) (by simp) _) (by simp) _) _⟩

/-- Filled up. -/
theorem add_full (events period burst tokens lpart whole part : Int) (c : Int) (w : World) (hp0 : 1 ≤ period) (hp1 : period ≤ 9223372036854775808) (_hb0 : 1 ≤ burst) (_hb1 : burst ≤ 9223372036854775807)
    (ht0 : burst - 9223372036854775807 ≤ tokens) (ht1 : tokens ≤ burst) (hl0 : 0 ≤ lpart) (hl1 : lpart < period) (hw0 : 0 ≤ whole) (hw1 : whole ≤ 18446744073709551614) (hq0 : 0 ≤ part) (hq1 : part < period)
    (hc : (c = 0 ∧ part + lpart < period) ∨ (c = 1 ∧ period ≤ part + lpart)) (hn : burst - tokens ≤ whole + c) :
    Calls Try.prog 7 #[.int .u64 events, .int .u64 period, .int .i64 burst, .int .i64 tokens, .int .u64 lpart, .int .u64 whole, .int .u64 part] w fun e w' =>
      e = .returned (.tuple #[.int .i64 burst, .int .u64 0]) ∧ Below w.heap.size w w' := by
  rcases hc with ⟨rfl, hc⟩ | ⟨rfl, hc⟩
  · simp only [Int.add_zero] at hn
    go_enter Try.func7, Try.ntmps7
    go_wp2_with (first | (go_at_call 16; refine (full16 _ burst _ ?_).mono ?_; (simp); rintro e w' ⟨rfl, rfl⟩) | go_in)
    go_quiet (fail)
    go_wp2_with (first | (go_at_call 16; refine (full16 _ burst _ ?_).mono ?_; (simp); rintro e w' ⟨rfl, rfl⟩) | go_in)
    refine bodyPost_ret (v := .tuple #[]) (by simp [results, Try.results13, go_sem]) rfl ?_
    go_wp2
    go_quiet (fail)
    go_wp2
    go_ret2
    exact ⟨rfl, below_dn (Below.alloc (Below.setCell (Below.setCell (below_dn (Below.alloc (Below.alloc (Below.refl _ _) (Nat.le_refl _) _) (by simp) _) _) (by simp) _) (by simp) _) (by simp <;> omega) _) _⟩
  · skip
    go_enter Try.func7, Try.ntmps7
    go_wp2_with (first | (go_at_call 16; refine (full16 _ burst _ ?_).mono ?_; (simp); rintro e w' ⟨rfl, rfl⟩) | go_in)
    go_quiet (fail)
    go_wp2_with (first | (go_at_call 16; refine (full16 _ burst _ ?_).mono ?_; (simp); rintro e w' ⟨rfl, rfl⟩) | go_in)
    refine bodyPost_ret (v := .tuple #[]) (by simp [results, Try.results13, go_sem]) rfl ?_
    go_wp2
    go_quiet (fail)
    go_wp2
    go_ret2
    exact ⟨rfl, below_dn (Below.alloc (Below.setCell (Below.setCell (below_dn (Below.alloc (Below.alloc (Below.refl _ _) (Nat.le_refl _) _) (by simp) _) _) (by simp) _) (by simp) _) (by simp <;> omega) _) _⟩
end Go.Proofs.Qxb6626444a
