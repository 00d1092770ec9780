/- Seat b6626342a: lawToLabels, lawCloneStrings. -/
import Derived.Test.Qxb6626342aMem
import Derived.WalkSpells
namespace Go.Proofs.Qxb6626342a
open Go.RowKit

theorem Try.info9 : (Try.prog.info? 9).map (fun i => (i.zero, i.size, i.bytes)) = some (some (.string ByteArray.empty), 1, 16) := by kernel_rfl
theorem Try.info38 : (Try.prog.info? 38).map (fun i => (i.zero, i.size, i.bytes)) = some (some (.agg #[.string ByteArray.empty, .string ByteArray.empty]), 2, 32) := by kernel_rfl

/-! ### what has been filled after k rounds -/
def filled (l : List ByteArray) (k : Nat) : List Value := (l.take k).map Value.string ++ List.replicate (l.length - k) (.string ByteArray.empty)
theorem filled_at (l : List ByteArray) (k : Nat) (h : k < l.length) : (filled l k)[k]? = some (.string ByteArray.empty) := by
  unfold filled
  rw [List.getElem?_append_right (by simp; omega)]
  simp only [List.length_map, List.length_take, Nat.min_eq_left (Nat.le_of_lt h), Nat.sub_self]
  rw [List.getElem?_replicate, if_pos (by omega)]
theorem filled_step (l : List ByteArray) (k : Nat) (x : ByteArray) (h : l[k]? = some x) : (filled l k).set k (.string x) = filled l (k + 1) := by
  have hk := lt_of_nth h
  unfold filled
  rw [take_snoc l k x h]
  rw [List.set_append_right _ _ (by simp; omega)]
  simp only [List.length_map, List.length_take, Nat.min_eq_left (Nat.le_of_lt hk), Nat.sub_self]
  rw [show l.length - k = (l.length - (k + 1)) + 1 by omega, List.replicate_succ]
  simp
theorem filled_all (l : List ByteArray) (k : Nat) (h : ¬ k < l.length) : filled l k = l.map Value.string := by
  unfold filled
  rw [List.take_of_length_le (by omega), show l.length - k = 0 by omega]; simp

/-- The texts of labels, in a row. -/
def texts : List Lab → List ByteArray
  | [] => []
  | x :: l => x.k :: x.v :: texts l
theorem texts_len (l : List Lab) : (texts l).length = l.length * 2 := by
  induction l with
  | nil => rfl
  | cons x l ih => simp [texts, ih]; omega
theorem texts_at (l : List Lab) : ∀ (i : Nat) (x : Lab), l[i]? = some x → (texts l)[i * 2]? = some x.k ∧ (texts l)[i * 2 + 1]? = some x.v := by
  induction l with
  | nil => intro i x h; simp at h
  | cons y l ih =>
    intro i x h
    cases i with
    | zero => simp at h; subst h; simp [texts]
    | succ i =>
      have := ih i x (by simpa using h)
      rw [show (i + 1) * 2 = i * 2 + 1 + 1 by omega]
      simpa [texts] using this
theorem texts_append (a b : List Lab) : texts (a ++ b) = texts a ++ texts b := by
  induction a with
  | nil => rfl
  | cons x l ih => simp [texts, ih]
theorem texts_set (l : List Lab) : ∀ (i : Nat) (x : Lab), texts (l.set i x) = ((texts l).set (i * 2) x.k).set (i * 2 + 1) x.v := by
  induction l with
  | nil => intro i x; simp [texts]
  | cons y l ih =>
    intro i x
    cases i with
    | zero => simp [texts]
    | succ i =>
      rw [show (i + 1) * 2 = i * 2 + 1 + 1 by omega]
      simp [texts, ih]

theorem toList_madeCells_two (z : Value) (n : Nat) : (madeCells #[z, z] n).toList = List.replicate n z := by
  apply List.ext_getElem?
  intro j
  by_cases hj : j < n
  · rcases Nat.mod_two_eq_zero_or_one j with h | h <;> simp [madeCells, hj, h]
  · simp [madeCells, hj]
def scells (l : List ByteArray) : List Value := l.map Value.string
def lcells (l : List Lab) : List Value := (texts l).map Value.string
theorem strs_of_own {w : World} {base e n : Nat} {ao : Option Addr} {cap : Nat} {l : List ByteArray} (h : w.ownsRow base e 1 (.slice ao n cap) n (scells l)) : StrsIn w ao l := by
  have hl : l.length = n := by have := h.1; simpa [scells] using this
  rcases h.2 with ⟨h1, h2⟩ | ⟨g, cap', cur, h1, _⟩
  · left; exact List.eq_nil_of_length_eq_zero (by omega)
  · right
    simp at h1
    obtain ⟨rfl, rfl⟩ := h1
    refine ⟨g, 0, rfl, fun i x hi => ?_⟩
    have hlt := lt_of_nth hi
    have := h.cellAt i (by omega)
    rw [Nat.zero_add, this]
    simp [scells, hi]
theorem labs_of_own {w : World} {base e n : Nat} {ao : Option Addr} {cap : Nat} {l : List Lab} (h : w.ownsRow base e 2 (.slice ao n cap) n (lcells l)) : LabsIn w ao l := by
  have hl : l.length = n := by have := h.1; simp [lcells, texts_len] at this; omega
  rcases h.2 with ⟨h1, h2⟩ | ⟨g, cap', cur, h1, _⟩
  · left; exact List.eq_nil_of_length_eq_zero (by omega)
  · right
    simp at h1
    obtain ⟨rfl, rfl⟩ := h1
    refine ⟨g, 0, rfl, fun i x hi => ?_⟩
    have hlt := lt_of_nth hi
    obtain ⟨e0, e1⟩ := texts_at l i x hi
    rw [Nat.zero_add]
    exact ⟨(h.cellAt _ (by omega)).trans (by simp [lcells, e0]), (h.cellAt _ (by omega)).trans (by simp [lcells, e1])⟩

set_option maxHeartbeats 400000 in
theorem clone_any (ao : Option Addr) (cap : Nat) (l : List ByteArray) (w : World) (hn : l.length ≤ 1048576) (h : StrsIn w ao l) :
    Calls Try.prog 12 #[.slice ao l.length cap] w fun e w' => ∃ (ao' : Option Addr) (cap' : Nat), e = .returned (.slice ao' l.length cap') ∧ w'.ownsRow w.heap.size 9 1 (.slice ao' l.length cap') l.length (scells l) ∧ Below w.heap.size w w' := by
  have qT : ∀ (w : World) (a : Option Addr) (n c n' c' : Nat), (binOp .eql 23 (.slice a n c) (.slice none n' c')).run Try.prog w = .ok (.bool a.isNone) w := fun w a n c n' c' => Lib.run_eql_slice_nil w 23 9 a n c n' c' Try.underlying23
  cases ao with
  | none =>
    have hl := h.none
    subst hl
    go_enter Try.func12, Try.ntmps12
    go_wp2
    go_ret
    exact ⟨none, 0, rfl, World.ownsRow_nil _ _ _ _, Below.refl _ _⟩
  | some a =>
    obtain ⟨i0, hi, hz0, hz1, hz2⟩ := info_parts Try.info9
    go_enter Try.func12, Try.ntmps12
    go_wp2_with (at_make; refine wpList_make_full _ rfl _ _ 23 rfl w.heap.size 9 i0 (.string ByteArray.empty) 1 Try.underlying23 hi hz0 hz1 _ _ _ _ l.length rfl rfl rfl rfl ?b2 ?b3 (Nat.le_refl _) ?_)
    case b2 => rw [hz2]; omega
    case b3 => unfold maxLen; omega
    intro w0 hown0 hgrow0
    have hfl : (madeCells #[Value.string ByteArray.empty] l.length).toList = filled l 0 := by
      simp [toList_madeCells_one, filled]
    rw [hfl] at hown0
    clear hfl
    go_wp2
    go_loopw [4] (fun i wr => ∃ k : Nat, k ≤ l.length ∧ i = .int .i64 k ∧ wr.ownsRow w.heap.size 9 1 (.slice (some ⟨w.heap.size, 0, none⟩) l.length l.length) l.length (filled l k) ∧ Below w.heap.size w wr) (fun i _ => l.length - (intOf i).toNat)
    case atStart => exact ⟨0, Nat.zero_le _, rfl, hown0, (Below.refl _ _).grown hgrow0 (Nat.le_refl _) (fun k h => by cases h)⟩
    case round =>
      obtain ⟨k, hk, rfl, hown, hnx⟩ := hrel
      by_cases hlt : k < l.length
      · obtain ⟨x, hx⟩ := nth hlt
        obtain ⟨b, off, e, c0⟩ := h.at hx
        obtain rfl := Option.some.inj e
        have c1 : wr.cell? ⟨b, off + k, none⟩ = some (.string x) := cell_below hnx c0
        have d1 : wr.cell? ⟨w.heap.size, k, none⟩ = some (.string ByteArray.empty) := (hown.cellAt k (by omega)).trans (filled_at l k hlt)
        have d2 := hown.frozenAt k
        have R := hown.stored k (.string x)
        rw [filled_step l k x hx] at R
        have HR := R
        clear R hx e c0
        go_wp2
        go_roundw
        case rel => exact ⟨k + 1, by omega, by go_num, HR.1, hnx.setCell (Nat.le_refl _) _⟩
        case measure => simp [intOf]; omega
      · rw [filled_all l k hlt] at hown
        go_wp2
        go_ret
        exact ⟨_, _, rfl, hown, hnx⟩

set_option maxHeartbeats 800000 in
theorem toLabels_any (ao : Option Addr) (cap : Nat) (l : List Lab) (w : World) (hn : l.length ≤ 1048576) (h : LabsIn w ao l) :
    Calls Try.prog 8 #[.slice ao l.length cap] w fun e w' => ∃ (ao' : Option Addr) (cap' : Nat), e = .returned (.slice ao' l.length cap') ∧ w'.ownsRow w.heap.size 38 2 (.slice ao' l.length cap') l.length (lcells l) ∧ Below w.heap.size w w' := by
  have qT : ∀ (w : World) (a : Option Addr) (n c n' c' : Nat), (binOp .eql 22 (.slice a n c) (.slice none n' c')).run Try.prog w = .ok (.bool a.isNone) w := fun w a n c n' c' => Lib.run_eql_slice_nil w 22 37 a n c n' c' Try.underlying22
  cases ao with
  | none =>
    have hl := h.none
    subst hl
    go_enter Try.func8, Try.ntmps8
    go_wp2
    go_ret
    exact ⟨none, 0, rfl, World.ownsRow_nil _ _ _ _, Below.refl _ _⟩
  | some a =>
    obtain ⟨i0, hi, hz0, hz1, hz2⟩ := info_parts Try.info38
    go_enter Try.func8, Try.ntmps8
    go_wp2_with (at_make; refine wpList_make_full _ rfl _ _ 27 rfl w.heap.size 38 i0 _ 2 Try.underlying27 hi hz0 hz1 _ _ _ _ l.length rfl rfl rfl rfl ?b2 ?b3 (Nat.le_refl _) ?_)
    case b2 => rw [hz2]; omega
    case b3 => unfold maxLen; omega
    intro w0 hown0 hgrow0
    have hfl : (madeCells #[Value.string ByteArray.empty, Value.string ByteArray.empty] (l.length * 2)).toList = filled (texts l) (0 * 2) := by
      rw [toList_madeCells_two]; simp [filled, texts_len]
    rw [hfl] at hown0
    clear hfl
    go_wp2
    go_loopw [4] (fun i wr => ∃ k : Nat, k ≤ l.length ∧ i = .int .i64 k ∧ wr.ownsRow w.heap.size 38 2 (.slice (some ⟨w.heap.size, 0, none⟩) l.length l.length) l.length (filled (texts l) (k * 2)) ∧ Below w.heap.size w wr) (fun i _ => l.length - (intOf i).toNat)
    case atStart => exact ⟨0, Nat.zero_le _, rfl, hown0, (Below.refl _ _).grown hgrow0 (Nat.le_refl _) (fun k h => by cases h)⟩
    case round =>
      obtain ⟨k, hk, rfl, hown, hnx⟩ := hrel
      have htl := texts_len l
      by_cases hlt : k < l.length
      · obtain ⟨x, hx⟩ := nth hlt
        obtain ⟨b, off, e, c0, c1⟩ := h.at hx
        obtain rfl := Option.some.inj e
        obtain ⟨e0, e1⟩ := texts_at l k x hx
        have g0 : wr.cell? ⟨b, off + k * 2, none⟩ = some (.string x.k) := cell_below hnx c0
        have g1 : wr.cell? ⟨b, off + k * 2 + 1, none⟩ = some (.string x.v) := cell_below hnx c1
        have R1 := (hown.stored (k * 2) (.string x.k)).1
        rw [filled_step (texts l) (k * 2) x.k e0] at R1
        have R2 := (R1.stored (k * 2 + 1) (.string x.v)).1
        rw [filled_step (texts l) (k * 2 + 1) x.v e1] at R2
        have d0 : wr.cell? ⟨w.heap.size, k * 2, none⟩ = some (.string ByteArray.empty) := (hown.cellAt (k * 2) (by omega)).trans (filled_at (texts l) (k * 2) (by omega))
        obtain ⟨u, d1⟩ : ∃ u, wr.cell? ⟨w.heap.size, k * 2 + 1, none⟩ = some u := by
          rw [hown.cellAt (k * 2 + 1) (by omega)]
          exact ⟨_, List.getElem?_eq_getElem (by have := hown.1; omega)⟩
        have d2 := hown.frozenAt (k * 2)
        have d3 := hown.frozenAt (k * 2 + 1)
        have HR : Hid _ := R2
        clear R1 R2 hx e c0 c1 e0 e1 htl
        go_wp2
        go_roundw
        case rel => exact ⟨k + 1, by omega, by go_num, by rw [show (k + 1) * 2 = k * 2 + 1 + 1 by omega]; exact HR.out, (hnx.setCell (Nat.le_refl _) _).setCell (Nat.le_refl _) _⟩
        case measure => simp [intOf]; omega
      · rw [filled_all (texts l) (k * 2) (by omega)] at hown
        clear htl
        go_wp2
        go_ret
        exact ⟨_, _, rfl, hown, hnx⟩
end Go.Proofs.Qxb6626342a
