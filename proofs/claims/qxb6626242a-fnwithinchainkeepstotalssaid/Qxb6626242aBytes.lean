/- Seat b6626242a: the bounds laid by program return, whatever they say. -/
import Derived.Test.Qxb6626242aMem
namespace Go.Proofs.Qxb6626242a
open Go.RowKit

theorem nth {α : Type} {l : List α} {k : Nat} (h : k < l.length) : ∃ x, l[k]? = some x := ⟨l[k], by simp [h]⟩
/-- The call has returned a Bool. -/
def IsBool (e : Ending) : Prop := ∃ b, e = .returned (.bool b)
theorem isBool (b : Bool) : IsBool (.returned (.bool b)) := ⟨b, rfl⟩

set_option maxRecDepth 100000 in
set_option maxHeartbeats 2000000 in
theorem bytes5_any (a0 a1 a2 a3 : Option Addr) (c0 c1 c2 c3 : Nat) (l0 l2 : List Dcl) (l1 l3 : List ByteArray) (w : World) (h0 : DeclsIn w a0 l0) (h1 : StrsIn w a1 l1) (h2 : DeclsIn w a2 l2) (h3 : StrsIn w a3 l3) :
    Calls Try.prog 5 #[.slice a0 l0.length c0, .slice a1 l1.length c1, .slice a2 l2.length c2, .slice a3 l3.length c3] w fun e w' => IsBool e ∧ w' = w := by
  by_cases g0 : (1048576 : Int) < (l0.length : Int)
  · go_enter Try.func5, Try.ntmps5
    go_wp2
    go_ret
    exact ⟨isBool _, rfl⟩
  · go_enter Try.func5, Try.ntmps5
    go_wp2
    go_loop [9, 10] (fun z i => ∃ (k : Nat) (m : Int), k ≤ l0.length ∧ i = .int .i64 k ∧ z = .int .i64 m ∧ 0 ≤ m ∧ m ≤ 1048576) (fun _ i => l0.length - (intOf i).toNat)
    case atStart => exact ⟨0, _, Nat.zero_le _, rfl, rfl, by omega, by omega⟩
    case round =>
      obtain ⟨k, m, hk, rfl, rfl, hm0, hm1⟩ := hrel
      by_cases hlt : k < l0.length
      · obtain ⟨x, hx⟩ := nth hlt
        obtain ⟨b, off, rfl, c0, c1, c2, c3⟩ := h0.at hx
        clear hx
        go_wp2
        all_goals first
          | (go_ret; exact ⟨isBool _, rfl⟩)
          | (go_round
             case rel => exact ⟨k + 1, _, by omega, by go_num, rfl, by omega, by omega⟩
             case measure => simp [intOf]; omega)
      · skip
        by_cases g1 : (1048576 : Int) < (l1.length : Int)
        · go_wp2
          go_ret
          exact ⟨isBool _, rfl⟩
        · by_cases s1 : 1048576 < m + (l1.length : Int)
          · go_wp2
            go_ret
            exact ⟨isBool _, rfl⟩
          · go_wp2
            go_loop [9, 11] (fun z i => ∃ (k : Nat) (m : Int), k ≤ l1.length ∧ i = .int .i64 k ∧ z = .int .i64 m ∧ 0 ≤ m ∧ m ≤ 1048576) (fun _ i => l1.length - (intOf i).toNat)
            case atStart => exact ⟨0, _, Nat.zero_le _, rfl, rfl, by omega, by omega⟩
            case round =>
              obtain ⟨k, m, hk, rfl, rfl, hm0, hm1⟩ := hrel
              by_cases hlt : k < l1.length
              · obtain ⟨x, hx⟩ := nth hlt
                obtain ⟨b, off, rfl, c0⟩ := h1.at hx
                clear hx
                go_wp2
                all_goals first
                  | (go_ret; exact ⟨isBool _, rfl⟩)
                  | (go_round
                     case rel => exact ⟨k + 1, _, by omega, by go_num, rfl, by omega, by omega⟩
                     case measure => simp [intOf]; omega)
              · skip
                by_cases g1 : (1048576 : Int) < (l2.length : Int)
                · go_wp2
                  go_ret
                  exact ⟨isBool _, rfl⟩
                · by_cases s1 : 1048576 < m + (l2.length : Int)
                  · go_wp2
                    go_ret
                    exact ⟨isBool _, rfl⟩
                  · go_wp2
                    go_loop [9, 12] (fun z i => ∃ (k : Nat) (m : Int), k ≤ l2.length ∧ i = .int .i64 k ∧ z = .int .i64 m ∧ 0 ≤ m ∧ m ≤ 1048576) (fun _ i => l2.length - (intOf i).toNat)
                    case atStart => exact ⟨0, _, Nat.zero_le _, rfl, rfl, by omega, by omega⟩
                    case round =>
                      obtain ⟨k, m, hk, rfl, rfl, hm0, hm1⟩ := hrel
                      by_cases hlt : k < l2.length
                      · obtain ⟨x, hx⟩ := nth hlt
                        obtain ⟨b, off, rfl, c0, c1, c2, c3⟩ := h2.at hx
                        clear hx
                        go_wp2
                        all_goals first
                          | (go_ret; exact ⟨isBool _, rfl⟩)
                          | (go_round
                             case rel => exact ⟨k + 1, _, by omega, by go_num, rfl, by omega, by omega⟩
                             case measure => simp [intOf]; omega)
                      · skip
                        by_cases g1 : (1048576 : Int) < (l3.length : Int)
                        · go_wp2
                          go_ret
                          exact ⟨isBool _, rfl⟩
                        · by_cases s1 : 1048576 < m + (l3.length : Int)
                          · go_wp2
                            go_ret
                            exact ⟨isBool _, rfl⟩
                          · go_wp2
                            go_loop [9, 13] (fun z i => ∃ (k : Nat) (m : Int), k ≤ l3.length ∧ i = .int .i64 k ∧ z = .int .i64 m ∧ 0 ≤ m ∧ m ≤ 1048576) (fun _ i => l3.length - (intOf i).toNat)
                            case atStart => exact ⟨0, _, Nat.zero_le _, rfl, rfl, by omega, by omega⟩
                            case round =>
                              obtain ⟨k, m, hk, rfl, rfl, hm0, hm1⟩ := hrel
                              by_cases hlt : k < l3.length
                              · obtain ⟨x, hx⟩ := nth hlt
                                obtain ⟨b, off, rfl, c0⟩ := h3.at hx
                                clear hx
                                go_wp2
                                all_goals first
                                  | (go_ret; exact ⟨isBool _, rfl⟩)
                                  | (go_round
                                     case rel => exact ⟨k + 1, _, by omega, by go_num, rfl, by omega, by omega⟩
                                     case measure => simp [intOf]; omega)
                              · go_wp2
                                go_ret
                                exact ⟨isBool _, rfl⟩
end Go.Proofs.Qxb6626242a
