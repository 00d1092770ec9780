/- Seat b6626342a: lawLabelBytes, lawStringBytes. -/
import Derived.Test.Qxb6626342aMem
namespace Go.Proofs.Qxb6626342a
open Go.RowKit

set_option maxHeartbeats 400000 in
theorem labelBytes_any (ao : Option Addr) (cap : Nat) (l : List Lab) (s0 : Int) (w : World) (hn : l.length ≤ maxLen) (h : LabsIn w ao l) (hs : Hid (LabsSmall l)) (h0 : 0 ≤ s0) (h1 : s0 ≤ 1048576) :
    Calls Try.prog 6 #[.slice ao l.length cap, .int .i64 s0] w fun e w' => ∃ r : Int, e = .returned (.int .i64 r) ∧ 0 ≤ r ∧ r ≤ 4194304 ∧ Hid (r ≤ 1048576 → r = s0 + lsize l) ∧ w' = w := by
  unfold maxLen at hn
  go_enter Try.func6, Try.ntmps6
  go_wp2
  go_loop [1, 5] (fun s i => ∃ (k : Nat) (r : Int), k ≤ l.length ∧ i = .int .i64 k ∧ s = .int .i64 r ∧ 0 ≤ r ∧ r ≤ 1048576 ∧ Hid (r = s0 + lsize (l.take k))) (fun _ i => l.length - (intOf i).toNat)
  case atStart => exact ⟨0, s0, Nat.zero_le _, rfl, rfl, h0, h1, by show s0 = _; simp [lsize]⟩
  case round =>
    obtain ⟨k, r, hk, rfl, rfl, hr0, hr1, HR⟩ := hrel
    by_cases hlt : k < l.length
    · obtain ⟨x, hx⟩ := nth hlt
      obtain ⟨b, off, rfl, c0, c1⟩ := h.at hx
      obtain ⟨z0, z1⟩ := hs.out k x hx
      have HD : Hid (lsize (l.take (k + 1)) = lsize (l.take k) + (32 + x.k.size + x.v.size)) := lsize_take l k x hx
      clear hx
      go_wp2
      all_goals first
        | (go_ret; exact ⟨_, rfl, by omega, by omega, fun hh => by omega, rfl⟩)
        | (go_round
           case rel => exact ⟨k + 1, _, by omega, by go_num, rfl, by omega, by omega, by show _ = _; rw [HD.out]; have := HR.out; omega⟩
           case measure => simp [intOf]; omega)
    · go_wp2
      go_ret
      exact ⟨r, rfl, hr0, by omega, fun _ => by have e := HR.out; rw [List.take_of_length_le (by omega)] at e; exact e, rfl⟩

set_option maxHeartbeats 400000 in
theorem stringBytes_any (ao : Option Addr) (cap : Nat) (l : List ByteArray) (s0 : Int) (w : World) (hn : l.length ≤ maxLen) (h : StrsIn w ao l) (hs : Hid (StrsSmall l)) (h0 : 0 ≤ s0) (h1 : s0 ≤ 1048576) :
    Calls Try.prog 7 #[.slice ao l.length cap, .int .i64 s0] w fun e w' => ∃ r : Int, e = .returned (.int .i64 r) ∧ 0 ≤ r ∧ r ≤ 4194304 ∧ Hid (r ≤ 1048576 → r = s0 + ssize l) ∧ w' = w := by
  unfold maxLen at hn
  go_enter Try.func7, Try.ntmps7
  go_wp2
  go_loop [1, 5] (fun s i => ∃ (k : Nat) (r : Int), k ≤ l.length ∧ i = .int .i64 k ∧ s = .int .i64 r ∧ 0 ≤ r ∧ r ≤ 1048576 ∧ Hid (r = s0 + ssize (l.take k))) (fun _ i => l.length - (intOf i).toNat)
  case atStart => exact ⟨0, s0, Nat.zero_le _, rfl, rfl, h0, h1, by show s0 = _; simp [ssize]⟩
  case round =>
    obtain ⟨k, r, hk, rfl, rfl, hr0, hr1, HR⟩ := hrel
    by_cases hlt : k < l.length
    · obtain ⟨x, hx⟩ := nth hlt
      obtain ⟨b, off, rfl, c0⟩ := h.at hx
      have z0 := hs.out k x hx
      have HD : Hid (ssize (l.take (k + 1)) = ssize (l.take k) + (16 + x.size)) := ssize_take l k x hx
      clear hx
      go_wp2
      all_goals first
        | (go_ret; exact ⟨_, rfl, by omega, by omega, fun hh => by omega, rfl⟩)
        | (go_round
           case rel => exact ⟨k + 1, _, by omega, by go_num, rfl, by omega, by omega, by show _ = _; rw [HD.out]; have := HR.out; omega⟩
           case measure => simp [intOf]; omega)
    · go_wp2
      go_ret
      exact ⟨r, rfl, hr0, by omega, fun _ => by have e := HR.out; rw [List.take_of_length_le (by omega)] at e; exact e, rfl⟩
end Go.Proofs.Qxb6626342a
