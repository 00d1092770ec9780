/- Seat b6626242a: zzSameDecls, zzSameStrings: over the same list they say true. -/
import Derived.Test.Qxb6626242aTo
import Derived.Deep.QuietTactic
import Derived.BigQuiet
namespace Go.Proofs.Qxb6626242a
open Go.RowKit

attribute [local go_sem ↓] Go.wp_at_zero Go.wp_at_succ

theorem below_dn {B : Nat} {a w : World} (h : Below B a w) (n : Nat) : Below B a (w.drewN n) := h.trans ⟨rfl, rfl, rfl, Nat.le_refl _, fun _ _ => rfl⟩

set_option maxRecDepth 100000 in
set_option maxHeartbeats 3200000 in
theorem sameStrings_any (ao bo : Option Addr) (ca cb : Nat) (l : List ByteArray) (w : World) (hn : l.length ≤ maxLen) (h : StrsIn w ao l) (h' : StrsIn w bo l) :
    Calls Try.prog 18 #[.slice ao l.length ca, .slice bo l.length cb] w fun e w' => e = .returned (.bool true) ∧ Below w.heap.size w w' := by
  unfold maxLen at hn
  go_enter Try.func18, Try.ntmps18
  go_wp2
  go_loopw [5] (fun i wr => ∃ k : Nat, k ≤ l.length ∧ i = .int .i64 k ∧ Below w.heap.size w wr) (fun i _ => l.length - (intOf i).toNat)
  case atStart => exact ⟨0, Nat.zero_le _, rfl, Below.refl _ _⟩
  case round =>
    obtain ⟨k, hk, rfl, hnx⟩ := hrel
    by_cases hlt : k < l.length
    · obtain ⟨x, hx⟩ := nth2 hlt
      obtain ⟨b, off, rfl, c0⟩ := h.at hx
      obtain ⟨b', off', rfl, c0'⟩ := h'.at hx
      have d0 := cell_below hnx c0
      have d1 := cell_below hnx c0'
      have k0 : (0 : Int) ≤ (k : Int) := Int.natCast_nonneg _
      have k1 : (k : Int) < (l.length : Int) := by omega
      clear c0 c0' hx h h'
      go_wp2
      go_quiet (fail)
      go_wp2
      go_roundw
      case rel => exact ⟨k + 1, by omega, by go_num, below_dn hnx _⟩
      case measure => simp [intOf]; omega
    · go_wp2
      go_ret
      exact ⟨rfl, hnx⟩

set_option maxRecDepth 100000 in
set_option maxHeartbeats 3200000 in
theorem sameDecls_any (ao bo : Option Addr) (ca cb : Nat) (l : List Dcl) (w : World) (hn : l.length ≤ maxLen) (h : DeclsIn w ao l) (h' : DeclsIn w bo l) :
    Calls Try.prog 16 #[.slice ao l.length ca, .slice bo l.length cb] w fun e w' => e = .returned (.bool true) ∧ Below w.heap.size w w' := by
  unfold maxLen at hn
  go_enter Try.func16, Try.ntmps16
  go_wp2
  go_loopw [5] (fun i wr => ∃ k : Nat, k ≤ l.length ∧ i = .int .i64 k ∧ Below w.heap.size w wr) (fun i _ => l.length - (intOf i).toNat)
  case atStart => exact ⟨0, Nat.zero_le _, rfl, Below.refl _ _⟩
  case round =>
    obtain ⟨k, hk, rfl, hnx⟩ := hrel
    by_cases hlt : k < l.length
    · obtain ⟨x, hx⟩ := nth2 hlt
      obtain ⟨b, off, rfl, c0, c1, c2, c3⟩ := h.at hx
      obtain ⟨b', off', rfl, e0, e1, e2, e3⟩ := h'.at hx
      have d0 := cell_below hnx c0
      have d1 := cell_below hnx c1
      have d2 := cell_below hnx c2
      have d3 := cell_below hnx c3
      have g0 := cell_below hnx e0
      have g1 := cell_below hnx e1
      have g2 := cell_below hnx e2
      have g3 := cell_below hnx e3
      have k0 : (0 : Int) ≤ (k : Int) := Int.natCast_nonneg _
      have k1 : (k : Int) < (l.length : Int) := by omega
      clear c0 c1 c2 c3 e0 e1 e2 e3 hx h h'
      go_wp2_with fail
      go_region_held3 (fun w' => w'.cell? ⟨b, off + k * 4, none⟩ = some (.string x.p) ∧ w'.cell? ⟨b, off + k * 4 + 1, none⟩ = some (.string x.s) ∧ w'.cell? ⟨b, off + k * 4 + 2, none⟩ = some (.string x.r) ∧ w'.cell? ⟨b, off + k * 4 + 3, none⟩ = some (.bool x.d) ∧
          w'.cell? ⟨b', off' + k * 4, none⟩ = some (.string x.p) ∧ w'.cell? ⟨b', off' + k * 4 + 1, none⟩ = some (.string x.s) ∧ w'.cell? ⟨b', off' + k * 4 + 2, none⟩ = some (.string x.r) ∧ w'.cell? ⟨b', off' + k * 4 + 3, none⟩ = some (.bool x.d))
        (go_keep)
        (first | (go_at_call 25; refine (newDecl_any _ _ _ _ _).mono ?_; rintro e w' ⟨rfl, rfl⟩))
      go_wp2
      go_roundw
      case rel => exact ⟨k + 1, by omega, by go_num, (hnx.alloc hnx.size _).drew⟩
      case measure => simp [intOf]; omega
    · go_wp2
      go_ret
      exact ⟨rfl, hnx⟩
end Go.Proofs.Qxb6626242a
