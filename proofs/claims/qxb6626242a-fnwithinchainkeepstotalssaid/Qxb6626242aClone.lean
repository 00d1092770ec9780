/- Seat b6626242a: zzCloneStrings. -/
import Derived.Test.Qxb6626242aMem
import Derived.WalkSpells
namespace Go.Proofs.Qxb6626242a
open Go.RowKit

theorem Try.info9 : (Try.prog.info? 9).map (fun i => (i.zero, i.size, i.bytes)) = some (some (.string ByteArray.empty), 1, 16) := by kernel_rfl

theorem nth' {α : Type} {l : List α} {k : Nat} (h : k < l.length) : ∃ x, l[k]? = some x := ⟨l[k], by simp [h]⟩

/-- What zzCloneStrings has filled after k rounds. -/
def filled (l : List ByteArray) (k : Nat) : List Value := (l.take k).map Value.string ++ List.replicate (l.length - k) (.string ByteArray.empty)
theorem filled_len (l : List ByteArray) (k : Nat) (h : k ≤ l.length) : (filled l k).length = l.length := by simp [filled]; omega
theorem filled_at (l : List ByteArray) (k : Nat) (h : k < l.length) : (filled l k)[k]? = some (.string ByteArray.empty) := by
  unfold filled
  rw [List.getElem?_append_right (by simp; omega)]
  simp only [List.length_map, List.length_take, Nat.min_eq_left (Nat.le_of_lt h), Nat.sub_self]
  rw [List.getElem?_replicate, if_pos (by omega)]
theorem filled_step (l : List ByteArray) (k : Nat) (x : ByteArray) (h : l[k]? = some x) : (filled l k).set k (.string x) = filled l (k + 1) := by
  have hk : k < l.length := by
    rcases Nat.lt_or_ge k l.length with h1 | h1
    · exact h1
    · rw [List.getElem?_eq_none h1] at h; cases h
  unfold filled
  rw [take_snoc l k x h]
  rw [List.set_append_right _ _ (by simp; omega)]
  simp only [List.length_map, List.length_take, Nat.min_eq_left (Nat.le_of_lt hk), Nat.sub_self]
  rw [show l.length - k = (l.length - (k + 1)) + 1 by omega, List.replicate_succ]
  simp
theorem filled_all (l : List ByteArray) (k : Nat) (h : ¬ k < l.length) : filled l k = l.map Value.string := by
  unfold filled
  rw [List.take_of_length_le (by omega), show l.length - k = 0 by omega]; simp

theorem strs_of_own {w : World} {base g n cap : Nat} {l : List ByteArray} (h : w.ownsRow base 9 1 (.slice (some ⟨g, 0, none⟩) n cap) n (l.map Value.string)) : StrsAt w g 0 l := by
  intro i x hi
  have hl : l.length = n := by have := h.1; simpa using this
  have hlt : i < l.length := by
    rcases Nat.lt_or_ge i l.length with h1 | h1
    · exact h1
    · rw [List.getElem?_eq_none h1] at hi; cases hi
  have := h.cellAt i (by omega)
  rw [Nat.zero_add, this]
  simp [hi]

set_option maxHeartbeats 400000 in
theorem clone_any (ao : Option Addr) (cap : Nat) (l : List ByteArray) (w : World) (hn : l.length ≤ 1048576) (h : StrsIn w ao l) :
    Calls Try.prog 10 #[.slice ao l.length cap] w fun e w' => ∃ (ao' : Option Addr) (cap' : Nat), e = .returned (.slice ao' l.length cap') ∧ StrsIn w' ao' l ∧ Below w.heap.size w w' := by
  have qT : ∀ (w : World) (a : Option Addr) (n c n' c' : Nat), (binOp .eql 23 (.slice a n c) (.slice none n' c')).run Try.prog w = .ok (.bool a.isNone) w := fun w a n c n' c' => Lib.run_eql_slice_nil w 23 9 a n c n' c' Try.underlying23
  cases ao with
  | none =>
    have hl : l = [] := by
      rcases h with h | ⟨b, off, h1, _⟩
      · exact h
      · cases h1
    subst hl
    go_enter Try.func10, Try.ntmps10
    go_wp2
    go_ret
    exact ⟨none, 0, rfl, .inl rfl, Below.refl _ _⟩
  | some a =>
    obtain ⟨i0, hi, hz0, hz1, hz2⟩ := info_parts Try.info9
    go_enter Try.func10, Try.ntmps10
    go_wp2_with (at_make; refine wpList_make_full _ rfl _ _ 23 rfl w.heap.size 9 i0 (.string ByteArray.empty) 1 Try.underlying23 hi hz0 hz1 _ _ _ _ l.length rfl rfl rfl rfl ?b2 ?b3 (Nat.le_refl _) ?_)
    case b2 => rw [hz2]; omega
    case b3 => unfold maxLen; omega
    intro w0 hown0 hgrow0
    have hfl : (madeCells #[Value.string ByteArray.empty] l.length).toList = filled l 0 := by
      simp [toList_madeCells_one, filled]
    rw [hfl] at hown0
    clear hfl
    go_wp2
    go_loopw [4] (fun i wr => ∃ k : Nat, k ≤ l.length ∧ i = .int .i64 k ∧ wr.ownsRow w.heap.size 9 1 (.slice (some ⟨w.heap.size, 0, none⟩) l.length l.length) l.length (filled l k) ∧ Below w.heap.size w wr) (fun i _ => l.length - (intOf i).toNat)
    case atStart => exact ⟨0, Nat.zero_le _, rfl, hown0, (Below.refl _ _).grown hgrow0 (Nat.le_refl _) (fun k h => by cases h)⟩
    case round =>
      obtain ⟨k, hk, rfl, hown, hnx⟩ := hrel
      by_cases hlt : k < l.length
      · obtain ⟨x, hx⟩ := nth' hlt
        obtain ⟨b, off, e, c0⟩ := h.at hx
        obtain rfl := Option.some.inj e
        have hbl := World.block_lt_of_cell? w _ c0
        have c1 : wr.cell? ⟨b, off + k, none⟩ = some (.string x) := (hnx.cell hbl).trans c0
        have d1 : wr.cell? ⟨w.heap.size, k, none⟩ = some (.string ByteArray.empty) := (hown.cellAt k (by omega)).trans (filled_at l k hlt)
        have d2 := hown.frozenAt k
        have R := hown.stored k (.string x)
        rw [filled_step l k x hx] at R
        have HR := R
        clear R hx e c0
        go_wp2
        go_roundw
        case rel => exact ⟨k + 1, by omega, by go_num, HR.1, hnx.setCell (Nat.le_refl _) _⟩
        case measure => simp [intOf]; omega
      · rw [filled_all l k hlt] at hown
        go_wp2
        go_ret
        exact ⟨_, _, rfl, .inr ⟨_, _, rfl, strs_of_own hown⟩, hnx⟩
end Go.Proofs.Qxb6626242a
