/- Seat b6626342a: the bounds laid by program return; where they say true, every text is short. -/
import Derived.Test.Qxb6626342aMem
namespace Go.Proofs.Qxb6626342a
open Go.RowKit

def Small11 (l0 : List Lab) (l1 : List ByteArray) (key value cond : ByteArray) : Prop := LabsSmall l0 ∧ StrsSmall l1 ∧ (key.size : Int) ≤ 1048576 ∧ (value.size : Int) ≤ 1048576 ∧ (cond.size : Int) ≤ 1048576
theorem small11 {l0 : List Lab} {l1 : List ByteArray} {key value cond : ByteArray} (h0 : Hid (LabsSmall l0)) (h1 : Hid (StrsSmall l1)) (h2 : (key.size : Int) ≤ 1048576) (h3 : (value.size : Int) ≤ 1048576) (h4 : (cond.size : Int) ≤ 1048576) : Small11 l0 l1 key value cond := ⟨h0, h1, h2, h3, h4⟩

set_option maxRecDepth 100000 in
set_option maxHeartbeats 2000000 in
theorem bytes5_any (a0 a1 a2 a3 : Option Addr) (c0 c1 c2 c3 : Nat) (l0 l2 : List Lab) (l1 l3 : List ByteArray) (w : World) (h0 : LabsIn w a0 l0) (h1 : StrsIn w a1 l1) (h2 : LabsIn w a2 l2) (h3 : StrsIn w a3 l3) :
    Calls Try.prog 5 #[.slice a0 l0.length c0, .slice a1 l1.length c1, .slice a2 l2.length c2, .slice a3 l3.length c3] w fun e w' => BoolThat e (LabsSmall l0 ∧ StrsSmall l1 ∧ LabsSmall l2 ∧ StrsSmall l3) ∧ w' = w := by
  by_cases g0 : (1048576 : Int) < (l0.length : Int)
  · go_enter Try.func5, Try.ntmps5
    go_wp2
    go_ret
    exact ⟨BoolThat.no, rfl⟩
  · go_enter Try.func5, Try.ntmps5
    go_wp2
    go_loop [9, 10] (fun z i => ∃ (k : Nat) (m : Int), k ≤ l0.length ∧ i = .int .i64 k ∧ z = .int .i64 m ∧ 0 ≤ m ∧ m ≤ 1048576 ∧ Hid (LabsSmallTo l0 k)) (fun _ i => l0.length - (intOf i).toNat)
    case atStart => exact ⟨0, _, Nat.zero_le _, rfl, rfl, by omega, by omega, LabsSmallTo.start _⟩
    case round =>
      obtain ⟨k, m, hk, rfl, rfl, hm0, hm1, HS⟩ := hrel
      by_cases hlt : k < l0.length
      · obtain ⟨x, hx⟩ := nth hlt
        obtain ⟨b, off, rfl, c0, c1⟩ := h0.at hx
        have HX : Hid (l0[k]? = some x) := hx
        clear hx
        go_wp2
        all_goals first
          | (go_ret; exact ⟨BoolThat.no, rfl⟩)
          | (go_round
             case rel => exact ⟨k + 1, _, by omega, by go_num, rfl, by omega, by omega, LabsSmallTo.step HS HX (by omega) (by omega)⟩
             case measure => simp [intOf]; omega)
      · have HA0 := LabsSmallTo.all HS hlt
        clear HS
        by_cases g1 : (1048576 : Int) < (l1.length : Int)
        · go_wp2
          go_ret
          exact ⟨BoolThat.no, rfl⟩
        · by_cases s1 : 1048576 < m + (l1.length : Int)
          · go_wp2
            go_ret
            exact ⟨BoolThat.no, rfl⟩
          · go_wp2
            go_loop [9, 11] (fun z i => ∃ (k : Nat) (m : Int), k ≤ l1.length ∧ i = .int .i64 k ∧ z = .int .i64 m ∧ 0 ≤ m ∧ m ≤ 1048576 ∧ Hid (StrsSmallTo l1 k)) (fun _ i => l1.length - (intOf i).toNat)
            case atStart => exact ⟨0, _, Nat.zero_le _, rfl, rfl, by omega, by omega, StrsSmallTo.start _⟩
            case round =>
              obtain ⟨k, m, hk, rfl, rfl, hm0, hm1, HS⟩ := hrel
              by_cases hlt : k < l1.length
              · obtain ⟨x, hx⟩ := nth hlt
                obtain ⟨b, off, rfl, c0⟩ := h1.at hx
                have HX : Hid (l1[k]? = some x) := hx
                clear hx
                go_wp2
                all_goals first
                  | (go_ret; exact ⟨BoolThat.no, rfl⟩)
                  | (go_round
                     case rel => exact ⟨k + 1, _, by omega, by go_num, rfl, by omega, by omega, StrsSmallTo.step HS HX (by omega)⟩
                     case measure => simp [intOf]; omega)
              · have HA1 := StrsSmallTo.all HS hlt
                clear HS
                by_cases g1 : (1048576 : Int) < (l2.length : Int)
                · go_wp2
                  go_ret
                  exact ⟨BoolThat.no, rfl⟩
                · by_cases s1 : 1048576 < m + (l2.length : Int)
                  · go_wp2
                    go_ret
                    exact ⟨BoolThat.no, rfl⟩
                  · go_wp2
                    go_loop [9, 12] (fun z i => ∃ (k : Nat) (m : Int), k ≤ l2.length ∧ i = .int .i64 k ∧ z = .int .i64 m ∧ 0 ≤ m ∧ m ≤ 1048576 ∧ Hid (LabsSmallTo l2 k)) (fun _ i => l2.length - (intOf i).toNat)
                    case atStart => exact ⟨0, _, Nat.zero_le _, rfl, rfl, by omega, by omega, LabsSmallTo.start _⟩
                    case round =>
                      obtain ⟨k, m, hk, rfl, rfl, hm0, hm1, HS⟩ := hrel
                      by_cases hlt : k < l2.length
                      · obtain ⟨x, hx⟩ := nth hlt
                        obtain ⟨b, off, rfl, c0, c1⟩ := h2.at hx
                        have HX : Hid (l2[k]? = some x) := hx
                        clear hx
                        go_wp2
                        all_goals first
                          | (go_ret; exact ⟨BoolThat.no, rfl⟩)
                          | (go_round
                             case rel => exact ⟨k + 1, _, by omega, by go_num, rfl, by omega, by omega, LabsSmallTo.step HS HX (by omega) (by omega)⟩
                             case measure => simp [intOf]; omega)
                      · have HA2 := LabsSmallTo.all HS hlt
                        clear HS
                        by_cases g1 : (1048576 : Int) < (l3.length : Int)
                        · go_wp2
                          go_ret
                          exact ⟨BoolThat.no, rfl⟩
                        · by_cases s1 : 1048576 < m + (l3.length : Int)
                          · go_wp2
                            go_ret
                            exact ⟨BoolThat.no, rfl⟩
                          · go_wp2
                            go_loop [9, 13] (fun z i => ∃ (k : Nat) (m : Int), k ≤ l3.length ∧ i = .int .i64 k ∧ z = .int .i64 m ∧ 0 ≤ m ∧ m ≤ 1048576 ∧ Hid (StrsSmallTo l3 k)) (fun _ i => l3.length - (intOf i).toNat)
                            case atStart => exact ⟨0, _, Nat.zero_le _, rfl, rfl, by omega, by omega, StrsSmallTo.start _⟩
                            case round =>
                              obtain ⟨k, m, hk, rfl, rfl, hm0, hm1, HS⟩ := hrel
                              by_cases hlt : k < l3.length
                              · obtain ⟨x, hx⟩ := nth hlt
                                obtain ⟨b, off, rfl, c0⟩ := h3.at hx
                                have HX : Hid (l3[k]? = some x) := hx
                                clear hx
                                go_wp2
                                all_goals first
                                  | (go_ret; exact ⟨BoolThat.no, rfl⟩)
                                  | (go_round
                                     case rel => exact ⟨k + 1, _, by omega, by go_num, rfl, by omega, by omega, StrsSmallTo.step HS HX (by omega)⟩
                                     case measure => simp [intOf]; omega)
                              · have HA3 := StrsSmallTo.all HS hlt
                                clear HS
                                go_wp2
                                go_ret
                                exact ⟨BoolThat.yes ⟨HA0.out, HA1.out, HA2.out, HA3.out⟩, rfl⟩

set_option maxRecDepth 100000 in
set_option maxHeartbeats 2000000 in
theorem bytes11_any (a0 a1 : Option Addr) (c0 c1 : Nat) (l0 : List Lab) (l1 : List ByteArray) (i : Int) (key value cond : ByteArray) (w : World) (h0 : LabsIn w a0 l0) (h1 : StrsIn w a1 l1) :
    Calls Try.prog 11 #[.slice a0 l0.length c0, .slice a1 l1.length c1, .int .i64 i, .string key, .string value, .string cond] w fun e w' => BoolThat e (Small11 l0 l1 key value cond) ∧ w' = w := by
  by_cases g0 : (1048576 : Int) < (l0.length : Int)
  · go_enter Try.func11, Try.ntmps11
    go_wp2
    go_ret
    exact ⟨BoolThat.no, rfl⟩
  · go_enter Try.func11, Try.ntmps11
    go_wp2
    go_loop [13, 14] (fun z i => ∃ (k : Nat) (m : Int), k ≤ l0.length ∧ i = .int .i64 k ∧ z = .int .i64 m ∧ 0 ≤ m ∧ m ≤ 1048576 ∧ Hid (LabsSmallTo l0 k)) (fun _ i => l0.length - (intOf i).toNat)
    case atStart => exact ⟨0, _, Nat.zero_le _, rfl, rfl, by omega, by omega, LabsSmallTo.start _⟩
    case round =>
      obtain ⟨k, m, hk, rfl, rfl, hm0, hm1, HS⟩ := hrel
      by_cases hlt : k < l0.length
      · obtain ⟨x, hx⟩ := nth hlt
        obtain ⟨b, off, rfl, c0, c1⟩ := h0.at hx
        have HX : Hid (l0[k]? = some x) := hx
        clear hx
        go_wp2
        all_goals first
          | (go_ret; exact ⟨BoolThat.no, rfl⟩)
          | (go_round
             case rel => exact ⟨k + 1, _, by omega, by go_num, rfl, by omega, by omega, LabsSmallTo.step HS HX (by omega) (by omega)⟩
             case measure => simp [intOf]; omega)
      · have HA0 := LabsSmallTo.all HS hlt
        clear HS
        by_cases g1 : (1048576 : Int) < (l1.length : Int)
        · go_wp2
          go_ret
          exact ⟨BoolThat.no, rfl⟩
        · by_cases s1 : 1048576 < m + (l1.length : Int)
          · go_wp2
            go_ret
            exact ⟨BoolThat.no, rfl⟩
          · go_wp2
            go_loop [13, 15] (fun z i => ∃ (k : Nat) (m : Int), k ≤ l1.length ∧ i = .int .i64 k ∧ z = .int .i64 m ∧ 0 ≤ m ∧ m ≤ 1048576 ∧ Hid (StrsSmallTo l1 k)) (fun _ i => l1.length - (intOf i).toNat)
            case atStart => exact ⟨0, _, Nat.zero_le _, rfl, rfl, by omega, by omega, StrsSmallTo.start _⟩
            case round =>
              obtain ⟨k, m, hk, rfl, rfl, hm0, hm1, HS⟩ := hrel
              by_cases hlt : k < l1.length
              · obtain ⟨x, hx⟩ := nth hlt
                obtain ⟨b, off, rfl, c0⟩ := h1.at hx
                have HX : Hid (l1[k]? = some x) := hx
                clear hx
                go_wp2
                all_goals first
                  | (go_ret; exact ⟨BoolThat.no, rfl⟩)
                  | (go_round
                     case rel => exact ⟨k + 1, _, by omega, by go_num, rfl, by omega, by omega, StrsSmallTo.step HS HX (by omega)⟩
                     case measure => simp [intOf]; omega)
              · have HA1 := StrsSmallTo.all HS hlt
                clear HS
                go_wp2
                all_goals first
                  | (go_ret; exact ⟨BoolThat.no, rfl⟩)
                  | (go_ret; exact ⟨BoolThat.yes (small11 HA0 HA1 (by omega) (by omega) (by omega)), rfl⟩)

end Go.Proofs.Qxb6626342a
