/- Seat b6626342a: what the laws' data are in memory, and the plain functions on them. No walk. -/
import Derived.Test.Qxb6626342aRows
import Derived.WalkKit
namespace Go.Proofs.Qxb6626342a
open Go.RowKit

/-- One label: key and value. -/
structure Lab where
  k : ByteArray
  v : ByteArray

def LabsAt (w : World) (b off : Nat) (l : List Lab) : Prop := ∀ i x, l[i]? = some x → w.cell? ⟨b, off + i * 2, none⟩ = some (.string x.k) ∧ w.cell? ⟨b, off + i * 2 + 1, none⟩ = some (.string x.v)
def StrsAt (w : World) (b off : Nat) (l : List ByteArray) : Prop := ∀ i x, l[i]? = some x → w.cell? ⟨b, off + i, none⟩ = some (.string x)
def LabsIn (w : World) (ao : Option Addr) (l : List Lab) : Prop := l = [] ∨ ∃ b off, ao = some ⟨b, off, none⟩ ∧ LabsAt w b off l
def StrsIn (w : World) (ao : Option Addr) (l : List ByteArray) : Prop := l = [] ∨ ∃ b off, ao = some ⟨b, off, none⟩ ∧ StrsAt w b off l

theorem LabsIn.at {w : World} {ao : Option Addr} {l : List Lab} (h : LabsIn w ao l) {i : Nat} {x : Lab} (hi : l[i]? = some x) : ∃ b off, ao = some ⟨b, off, none⟩ ∧
    w.cell? ⟨b, off + i * 2, none⟩ = some (.string x.k) ∧ w.cell? ⟨b, off + i * 2 + 1, none⟩ = some (.string x.v) := by
  rcases h with h | ⟨b, off, h1, h2⟩
  · subst h; simp at hi
  · exact ⟨b, off, h1, h2 i x hi⟩
theorem StrsIn.at {w : World} {ao : Option Addr} {l : List ByteArray} (h : StrsIn w ao l) {i : Nat} {x : ByteArray} (hi : l[i]? = some x) : ∃ b off, ao = some ⟨b, off, none⟩ ∧ w.cell? ⟨b, off + i, none⟩ = some (.string x) := by
  rcases h with h | ⟨b, off, h1, h2⟩
  · subst h; simp at hi
  · exact ⟨b, off, h1, h2 i x hi⟩
theorem LabsIn.none {w : World} {l : List Lab} (h : LabsIn w none l) : l = [] := by
  rcases h with h | ⟨b, off, h1, _⟩
  · exact h
  · cases h1
theorem StrsIn.none {w : World} {l : List ByteArray} (h : StrsIn w none l) : l = [] := by
  rcases h with h | ⟨b, off, h1, _⟩
  · exact h
  · cases h1

theorem cell_below {w w' : World} (h : Below w.heap.size w w') {a : Addr} {v : Value} (hc : w.cell? a = some v) : w'.cell? a = some v :=
  (h.cell (World.block_lt_of_cell? w a hc)).trans hc
theorem comp {a b c : World} (h : Below a.heap.size a b) (k : Below b.heap.size b c) : Below a.heap.size a c := h.trans (k.mono h.size)
theorem LabsIn.mono {w w' : World} {ao : Option Addr} {l : List Lab} (h : LabsIn w ao l) (hb : Below w.heap.size w w') : LabsIn w' ao l := by
  rcases h with h | ⟨b, off, h1, h2⟩
  · exact .inl h
  · exact .inr ⟨b, off, h1, fun i x hi => ⟨cell_below hb (h2 i x hi).1, cell_below hb (h2 i x hi).2⟩⟩
theorem StrsIn.mono {w w' : World} {ao : Option Addr} {l : List ByteArray} (h : StrsIn w ao l) (hb : Below w.heap.size w w') : StrsIn w' ao l := by
  rcases h with h | ⟨b, off, h1, h2⟩
  · exact .inl h
  · exact .inr ⟨b, off, h1, fun i x hi => cell_below hb (h2 i x hi)⟩

theorem nth {α : Type} {l : List α} {k : Nat} (h : k < l.length) : ∃ x, l[k]? = some x := ⟨l[k], by simp [h]⟩
theorem lt_of_nth {α : Type} {l : List α} {k : Nat} {x : α} (h : l[k]? = some x) : k < l.length := by
  rcases Nat.lt_or_ge k l.length with h1 | h1
  · exact h1
  · rw [List.getElem?_eq_none h1] at h; cases h
theorem take_snoc {α : Type} (l : List α) (k : Nat) (x : α) (h : l[k]? = some x) : l.take (k + 1) = l.take k ++ [x] := by
  rw [List.take_add_one, h]; rfl
theorem ret_int {k : IntKind} {a b : Int} (h : a = b) : Ending.returned (.int k a) = .returned (.int k b) := by rw [h]

/-! ### sizes -/
def lsize : List Lab → Int
  | [] => 0
  | x :: l => (32 + x.k.size + x.v.size) + lsize l
def ssize : List ByteArray → Int
  | [] => 0
  | x :: l => (16 + x.size) + ssize l
theorem lsize_append (a b : List Lab) : lsize (a ++ b) = lsize a + lsize b := by
  induction a with
  | nil => simp [lsize]
  | cons x l ih => simp [lsize, ih]; omega
theorem ssize_append (a b : List ByteArray) : ssize (a ++ b) = ssize a + ssize b := by
  induction a with
  | nil => simp [ssize]
  | cons x l ih => simp [ssize, ih]; omega
theorem lsize_take (l : List Lab) (k : Nat) (x : Lab) (h : l[k]? = some x) : lsize (l.take (k + 1)) = lsize (l.take k) + (32 + x.k.size + x.v.size) := by
  rw [take_snoc l k x h, lsize_append]; simp [lsize]
theorem ssize_take (l : List ByteArray) (k : Nat) (x : ByteArray) (h : l[k]? = some x) : ssize (l.take (k + 1)) = ssize (l.take k) + (16 + x.size) := by
  rw [take_snoc l k x h, ssize_append]; simp [ssize]
theorem lsize_nn (l : List Lab) : 32 * (l.length : Int) ≤ lsize l := by
  induction l with
  | nil => simp [lsize]
  | cons x l ih => simp [lsize]; omega
theorem ssize_nn (l : List ByteArray) : 16 * (l.length : Int) ≤ ssize l := by
  induction l with
  | nil => simp [ssize]
  | cons x l ih => simp [ssize]; omega

/-- No text of the list is longer than the bound. -/
def LabsSmall (l : List Lab) : Prop := ∀ (i : Nat) (x : Lab), l[i]? = some x → (x.k.size : Int) ≤ 1048576 ∧ (x.v.size : Int) ≤ 1048576
def StrsSmall (l : List ByteArray) : Prop := ∀ (i : Nat) (x : ByteArray), l[i]? = some x → (x.size : Int) ≤ 1048576
/-- .. of its first k. -/
def LabsSmallTo (l : List Lab) (k : Nat) : Prop := ∀ (i : Nat) (x : Lab), i < k → l[i]? = some x → (x.k.size : Int) ≤ 1048576 ∧ (x.v.size : Int) ≤ 1048576
def StrsSmallTo (l : List ByteArray) (k : Nat) : Prop := ∀ (i : Nat) (x : ByteArray), i < k → l[i]? = some x → (x.size : Int) ≤ 1048576
theorem LabsSmallTo.start (l : List Lab) : Hid (LabsSmallTo l 0) := fun i _ hi => by omega
theorem StrsSmallTo.start (l : List ByteArray) : Hid (StrsSmallTo l 0) := fun i _ hi => by omega
theorem LabsSmallTo.step {l : List Lab} {k : Nat} {x : Lab} (h : Hid (LabsSmallTo l k)) (hx : Hid (l[k]? = some x)) (h1 : (x.k.size : Int) ≤ 1048576) (h2 : (x.v.size : Int) ≤ 1048576) : Hid (LabsSmallTo l (k + 1)) := by
  intro i y hi hy
  by_cases e : i = k
  · subst e
    have := hx.out
    rw [hy] at this
    cases this
    exact ⟨h1, h2⟩
  · exact h.out i y (by omega) hy
theorem StrsSmallTo.step {l : List ByteArray} {k : Nat} {x : ByteArray} (h : Hid (StrsSmallTo l k)) (hx : Hid (l[k]? = some x)) (h1 : (x.size : Int) ≤ 1048576) : Hid (StrsSmallTo l (k + 1)) := by
  intro i y hi hy
  by_cases e : i = k
  · subst e
    have := hx.out
    rw [hy] at this
    cases this
    exact h1
  · exact h.out i y (by omega) hy
theorem LabsSmallTo.all {l : List Lab} {k : Nat} (h : Hid (LabsSmallTo l k)) (hk : ¬ k < l.length) : Hid (LabsSmall l) := fun i x hx => h.out i x (by have := lt_of_nth hx; omega) hx
theorem StrsSmallTo.all {l : List ByteArray} {k : Nat} (h : Hid (StrsSmallTo l k)) (hk : ¬ k < l.length) : Hid (StrsSmall l) := fun i x hx => h.out i x (by have := lt_of_nth hx; omega) hx

/-- The call has returned a Bool; if true, P. -/
def BoolThat (e : Ending) (P : Prop) : Prop := ∃ b, e = .returned (.bool b) ∧ (b = true → P)
theorem BoolThat.no {P : Prop} : BoolThat (.returned (.bool false)) P := ⟨false, rfl, fun h => by cases h⟩
theorem BoolThat.yes {P : Prop} (h : P) : BoolThat (.returned (.bool true)) P := ⟨true, rfl, fun _ => h⟩
end Go.Proofs.Qxb6626342a
