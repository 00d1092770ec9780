/- Seat b6626242a: the callees that only read: zzAdd, zzDeclsSize, zzStringsSize. -/
import Derived.Test.Qxb6626242aMem
namespace Go.Proofs.Qxb6626242a
open Go.RowKit

theorem tot_way {T : Int × Int × Bool} {p q r : Int} {u e : Bool} {q' : Int} {u' : Bool} (H : T = (p + r, max q r, u || e)) (hq : max q r = q') (hu : (u || e) = u') : Hid (T = (p + r, q', u')) := by
  show T = _
  rw [H, hq, hu]
theorem ret_int {k : IntKind} {a b : Int} (h : a = b) : Ending.returned (.int k a) = .returned (.int k b) := by rw [h]

theorem add_any (s n : Int) (w : World) (hs : 0 ≤ s) (hn : 0 ≤ n) : Calls Try.prog 21 #[.int .i64 s, .int .i64 n] w fun e w' =>
    ∃ r : Int, e = .returned (.int .i64 r) ∧ 0 ≤ r ∧ r ≤ 2097152 ∧ Hid (r ≤ 1048576 → r = s + n) ∧ w' = w := by
  by_cases h1 : 1048576 < s
  · go_enter Try.func21, Try.ntmps21
    go_wp2
    go_ret
    exact ⟨1048577, rfl, by omega, by omega, fun h => by omega, rfl⟩
  · by_cases h2 : 1048576 < n
    · go_enter Try.func21, Try.ntmps21
      go_wp2
      go_ret
      exact ⟨1048577, rfl, by omega, by omega, fun h => by omega, rfl⟩
    · go_enter Try.func21, Try.ntmps21
      go_wp2
      go_ret
      exact ⟨s + n, rfl, by omega, by omega, fun h => rfl, rfl⟩

set_option maxHeartbeats 400000 in
theorem declsSize_any (ao : Option Addr) (cap : Nat) (l : List Dcl) (s0 : Int) (w : World) (hn : l.length ≤ maxLen) (h : DeclsIn w ao l) (h0 : 0 ≤ s0) (h1 : s0 ≤ 2097152) :
    Calls Try.prog 6 #[.slice ao l.length cap, .int .i64 s0] w fun e w' =>
      ∃ r : Int, e = .returned (.int .i64 r) ∧ 0 ≤ r ∧ r ≤ 2097152 ∧ Hid (r ≤ 1048576 → r = s0 + dsize l) ∧ w' = w := by
  unfold maxLen at hn
  go_enter Try.func6, Try.ntmps6
  go_wp2
  go_loop [1, 5] (fun s i => ∃ (k : Nat) (r : Int), k ≤ l.length ∧ i = .int .i64 k ∧ s = .int .i64 r ∧ 0 ≤ r ∧ r ≤ 2097152 ∧ Hid (r ≤ 1048576 → r = s0 + dsize (l.take k))) (fun _ i => l.length - (intOf i).toNat)
  case atStart => exact ⟨0, s0, Nat.zero_le _, rfl, rfl, h0, h1, fun _ => by simp [dsize]⟩
  case round =>
    obtain ⟨k, r, hk, rfl, rfl, hr0, hr1, HR⟩ := hrel
    by_cases hlt : k < l.length
    · obtain ⟨x, hx⟩ : ∃ x, l[k]? = some x := ⟨l[k], by simp [hlt]⟩
      obtain ⟨b, off, rfl, c0, c1, c2, c3⟩ := h.at hx
      have HD : Hid (dsize (l.take (k + 1)) = dsize (l.take k) + (8 + x.p.size + x.s.size + x.r.size)) := dsize_take l k x hx
      clear hx
      by_cases hb : 1048576 < r
      · go_wp2_with fail
        go_ret
        exact ⟨r, rfl, hr0, hr1, fun h => by omega, rfl⟩
      · go_wp2_with fail
        refine (add_any _ _ _ hr0 (by omega)).mono ?_
        rintro e w1 ⟨r1, rfl, a1, b1, H1, rfl⟩
        go_wp2_with fail
        refine (add_any _ _ _ a1 (by omega)).mono ?_
        rintro e w1 ⟨r2, rfl, a2, b2, H2, rfl⟩
        go_wp2_with fail
        refine (add_any _ _ _ a2 (by omega)).mono ?_
        rintro e w1 ⟨r3, rfl, a3, b3, H3, rfl⟩
        go_wp2_with fail
        refine (add_any _ _ _ a3 (by omega)).mono ?_
        rintro e w1 ⟨r4, rfl, a4, b4, H4, rfl⟩
        go_wp2_with fail
        go_round
        case rel => exact ⟨k + 1, r4, by omega, by go_num, rfl, a4, b4, fun hh => by
          have e4 := H4.out hh
          have e3 := H3.out (by omega)
          have e2 := H2.out (by omega)
          have e1 := H1.out (by omega)
          have e0 := HR.out (by omega)
          have ed := HD.out
          omega⟩
        case measure => simp [intOf]; omega
    · go_wp2_with fail
      go_ret
      exact ⟨r, rfl, hr0, hr1, fun hh => by have := HR.out hh; rw [List.take_of_length_le (by omega)] at this; exact this, rfl⟩


set_option maxHeartbeats 400000 in
theorem stringsSize_any (ao : Option Addr) (cap : Nat) (l : List ByteArray) (s0 : Int) (w : World) (hn : l.length ≤ maxLen) (h : StrsIn w ao l) (h0 : 0 ≤ s0) (h1 : s0 ≤ 2097152) :
    Calls Try.prog 7 #[.slice ao l.length cap, .int .i64 s0] w fun e w' =>
      ∃ r : Int, e = .returned (.int .i64 r) ∧ 0 ≤ r ∧ r ≤ 2097152 ∧ Hid (r ≤ 1048576 → r = s0 + ssize l) ∧ w' = w := by
  unfold maxLen at hn
  go_enter Try.func7, Try.ntmps7
  go_wp2
  go_loop [1, 5] (fun s i => ∃ (k : Nat) (r : Int), k ≤ l.length ∧ i = .int .i64 k ∧ s = .int .i64 r ∧ 0 ≤ r ∧ r ≤ 2097152 ∧ Hid (r ≤ 1048576 → r = s0 + ssize (l.take k))) (fun _ i => l.length - (intOf i).toNat)
  case atStart => exact ⟨0, s0, Nat.zero_le _, rfl, rfl, h0, h1, fun _ => by simp [ssize]⟩
  case round =>
    obtain ⟨k, r, hk, rfl, rfl, hr0, hr1, HR⟩ := hrel
    by_cases hlt : k < l.length
    · obtain ⟨x, hx⟩ : ∃ x, l[k]? = some x := ⟨l[k], by simp [hlt]⟩
      obtain ⟨b, off, rfl, c0⟩ := h.at hx
      have HD : Hid (ssize (l.take (k + 1)) = ssize (l.take k) + (8 + x.size)) := ssize_take l k x hx
      clear hx
      by_cases hb : 1048576 < r
      · go_wp2_with fail
        go_ret
        exact ⟨r, rfl, hr0, hr1, fun h => by omega, rfl⟩
      · go_wp2_with fail
        refine (add_any _ _ _ hr0 (by omega)).mono ?_
        rintro e w1 ⟨r1, rfl, a1, b1, H1, rfl⟩
        go_wp2_with fail
        refine (add_any _ _ _ a1 (by omega)).mono ?_
        rintro e w1 ⟨r2, rfl, a2, b2, H2, rfl⟩
        go_wp2_with fail
        go_round
        case rel => exact ⟨k + 1, r2, by omega, by go_num, rfl, a2, b2, fun hh => by
          have e2 := H2.out hh
          have e1 := H1.out (by omega)
          have e0 := HR.out (by omega)
          have ed := HD.out
          omega⟩
        case measure => simp [intOf]; omega
    · go_wp2_with fail
      go_ret
      exact ⟨r, rfl, hr0, hr1, fun hh => by have := HR.out hh; rw [List.take_of_length_le (by omega)] at this; exact this, rfl⟩

set_option maxHeartbeats 400000 in
theorem totals_any (ao : Option Addr) (cap : Nat) (l : List Dcl) (t : Int × Int × Bool) (w : World) (hn : l.length ≤ maxLen) (h : DeclsIn w ao l) (h0 : 0 ≤ t.1) (h1 : t.1 + dsize l ≤ 2097152) :
    Calls Try.prog 11 #[.slice ao l.length cap, .int .i64 t.1, .int .i64 t.2.1, .bool t.2.2] w fun e w' =>
      e = .returned (.tuple #[.int .i64 (tot l t).1, .int .i64 (tot l t).2.1, .bool (tot l t).2.2]) ∧ w' = w := by
  unfold maxLen at hn
  go_enter Try.func11, Try.ntmps11
  go_wp2
  go_loop [1, 2, 3, 11] (fun x y z i => ∃ (k : Nat) (p q : Int) (u : Bool), k ≤ l.length ∧ i = .int .i64 k ∧ x = .int .i64 p ∧ y = .int .i64 q ∧ z = .bool u ∧ Hid (tot (l.take k) t = (p, q, u))) (fun _ _ _ i => l.length - (intOf i).toNat)
  case atStart => exact ⟨0, t.1, t.2.1, t.2.2, Nat.zero_le _, rfl, rfl, rfl, rfl, rfl⟩
  case round =>
    obtain ⟨k, p, q, u, hk, rfl, rfl, rfl, rfl, HT⟩ := hrel
    by_cases hlt : k < l.length
    · obtain ⟨x, hx⟩ : ∃ x, l[k]? = some x := ⟨l[k], by simp [hlt]⟩
      obtain ⟨b, off, rfl, c0, c1, c2, c3⟩ := h.at hx
      have HD : Hid (tot (l.take (k + 1)) t = (p + x.r.size, max q x.r.size, u || x.p.toList.isEmpty)) := by
        show tot (l.take (k + 1)) t = _
        rw [tot_take l k x hx t, HT.out]; rfl
      have hb : 0 ≤ p ∧ p + x.r.size ≤ 2097152 := by
        have b1 := tot_bd (l.take k) t
        have b2 := tot_bd (l.take (k + 1)) t
        rw [HD.out] at b2
        rw [HT.out] at b1
        have b3 := dsize_append (l.take (k + 1)) (l.drop (k + 1))
        rw [List.take_append_drop] at b3
        have b4 := dsize_nn (l.drop (k + 1))
        simp only at b1 b2
        omega
      clear hx
      go_wp2
      all_goals
        go_round
        case rel => exact ⟨k + 1, _, _, _, by omega, by go_num, rfl, rfl, rfl, tot_way HD.out (by omega) (by simp [*])⟩
        case measure => simp [intOf]; omega
    · have HE : Hid (tot l t = (p, q, u)) := by
        have e := HT.out
        rw [List.take_of_length_le (by omega)] at e
        exact e
      go_wp2_with fail
      go_ret3
      exact ⟨by rw [HE.out]; rfl, rfl⟩
end Go.Proofs.Qxb6626242a
