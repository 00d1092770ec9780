/- Seat b6626242a: what the laws' data are in memory, and the plain functions on them. No walk. -/
import Derived.Test.Qxb6626242aRows
import Derived.WalkKit
namespace Go.Proofs.Qxb6626242a
open Go.RowKit

/-- One declaration: prefix, space, raw text, defaulted. -/
structure Dcl where
  p : ByteArray
  s : ByteArray
  r : ByteArray
  d : Bool

/-- The declarations l lie from ⟨b, off⟩ on, four cells each. -/
def DeclsAt (w : World) (b off : Nat) (l : List Dcl) : Prop := ∀ i x, l[i]? = some x →
  w.cell? ⟨b, off + i * 4, none⟩ = some (.string x.p) ∧ w.cell? ⟨b, off + i * 4 + 1, none⟩ = some (.string x.s) ∧
  w.cell? ⟨b, off + i * 4 + 2, none⟩ = some (.string x.r) ∧ w.cell? ⟨b, off + i * 4 + 3, none⟩ = some (.bool x.d)
/-- The strings l lie from ⟨b, off⟩ on. -/
def StrsAt (w : World) (b off : Nat) (l : List ByteArray) : Prop := ∀ i x, l[i]? = some x → w.cell? ⟨b, off + i, none⟩ = some (.string x)

def DeclsIn (w : World) (ao : Option Addr) (l : List Dcl) : Prop := l = [] ∨ ∃ b off, ao = some ⟨b, off, none⟩ ∧ DeclsAt w b off l
def StrsIn (w : World) (ao : Option Addr) (l : List ByteArray) : Prop := l = [] ∨ ∃ b off, ao = some ⟨b, off, none⟩ ∧ StrsAt w b off l

theorem DeclsIn.at {w : World} {ao : Option Addr} {l : List Dcl} (h : DeclsIn w ao l) {i : Nat} {x : Dcl} (hi : l[i]? = some x) : ∃ b off, ao = some ⟨b, off, none⟩ ∧
    w.cell? ⟨b, off + i * 4, none⟩ = some (.string x.p) ∧ w.cell? ⟨b, off + i * 4 + 1, none⟩ = some (.string x.s) ∧
    w.cell? ⟨b, off + i * 4 + 2, none⟩ = some (.string x.r) ∧ w.cell? ⟨b, off + i * 4 + 3, none⟩ = some (.bool x.d) := by
  rcases h with h | ⟨b, off, h1, h2⟩
  · subst h; simp at hi
  · exact ⟨b, off, h1, h2 i x hi⟩
theorem StrsIn.at {w : World} {ao : Option Addr} {l : List ByteArray} (h : StrsIn w ao l) {i : Nat} {x : ByteArray} (hi : l[i]? = some x) : ∃ b off, ao = some ⟨b, off, none⟩ ∧ w.cell? ⟨b, off + i, none⟩ = some (.string x) := by
  rcases h with h | ⟨b, off, h1, h2⟩
  · subst h; simp at hi
  · exact ⟨b, off, h1, h2 i x hi⟩

theorem cell_below {w w' : World} (h : Below w.heap.size w w') {a : Addr} {v : Value} (hc : w.cell? a = some v) : w'.cell? a = some v :=
  (h.cell (World.block_lt_of_cell? w a hc)).trans hc

theorem DeclsAt.mono {w w' : World} {b off : Nat} {l : List Dcl} (h : DeclsAt w b off l) (hb : Below w.heap.size w w') : DeclsAt w' b off l := fun i x hi =>
  ⟨cell_below hb (h i x hi).1, cell_below hb (h i x hi).2.1, cell_below hb (h i x hi).2.2.1, cell_below hb (h i x hi).2.2.2⟩
theorem StrsAt.mono {w w' : World} {b off : Nat} {l : List ByteArray} (h : StrsAt w b off l) (hb : Below w.heap.size w w') : StrsAt w' b off l := fun i x hi => cell_below hb (h i x hi)
theorem DeclsIn.mono {w w' : World} {ao : Option Addr} {l : List Dcl} (h : DeclsIn w ao l) (hb : Below w.heap.size w w') : DeclsIn w' ao l := by
  rcases h with h | ⟨b, off, h1, h2⟩
  · exact .inl h
  · exact .inr ⟨b, off, h1, h2.mono hb⟩
theorem StrsIn.mono {w w' : World} {ao : Option Addr} {l : List ByteArray} (h : StrsIn w ao l) (hb : Below w.heap.size w w') : StrsIn w' ao l := by
  rcases h with h | ⟨b, off, h1, h2⟩
  · exact .inl h
  · exact .inr ⟨b, off, h1, h2.mono hb⟩

/-! ### plain functions -/
def dsize : List Dcl → Int
  | [] => 0
  | x :: l => (8 + x.p.size + x.s.size + x.r.size) + dsize l
def ssize : List ByteArray → Int
  | [] => 0
  | x :: l => (8 + x.size) + ssize l
theorem dsize_append (a b : List Dcl) : dsize (a ++ b) = dsize a + dsize b := by
  induction a with
  | nil => simp [dsize]
  | cons x l ih => simp [dsize, ih]; omega
theorem ssize_append (a b : List ByteArray) : ssize (a ++ b) = ssize a + ssize b := by
  induction a with
  | nil => simp [ssize]
  | cons x l ih => simp [ssize, ih]; omega
theorem take_snoc {α : Type} (l : List α) (k : Nat) (x : α) (h : l[k]? = some x) : l.take (k + 1) = l.take k ++ [x] := by
  rw [List.take_add_one, h]; rfl
theorem dsize_take (l : List Dcl) (k : Nat) (x : Dcl) (h : l[k]? = some x) : dsize (l.take (k + 1)) = dsize (l.take k) + (8 + x.p.size + x.s.size + x.r.size) := by
  rw [take_snoc l k x h, dsize_append]; simp [dsize]
theorem ssize_take (l : List ByteArray) (k : Nat) (x : ByteArray) (h : l[k]? = some x) : ssize (l.take (k + 1)) = ssize (l.take k) + (8 + x.size) := by
  rw [take_snoc l k x h, ssize_append]; simp [ssize]
theorem dsize_nn (l : List Dcl) : 8 * (l.length : Int) ≤ dsize l := by
  induction l with
  | nil => simp [dsize]
  | cons x l ih => simp [dsize]; omega
theorem ssize_nn (l : List ByteArray) : 8 * (l.length : Int) ≤ ssize l := by
  induction l with
  | nil => simp [ssize]
  | cons x l ih => simp [ssize]; omega

/-- The totals of a chain, carried on over one declaration. -/
def tstep (t : Int × Int × Bool) (x : Dcl) : Int × Int × Bool := (t.1 + x.r.size, max t.2.1 x.r.size, t.2.2 || x.p.toList.isEmpty)
def tot (l : List Dcl) (t : Int × Int × Bool) : Int × Int × Bool := l.foldl tstep t
theorem tot_take (l : List Dcl) (k : Nat) (x : Dcl) (h : l[k]? = some x) (t : Int × Int × Bool) : tot (l.take (k + 1)) t = tstep (tot (l.take k) t) x := by
  unfold tot; rw [take_snoc l k x h, List.foldl_append]; rfl
theorem tot_append (a b : List Dcl) (t : Int × Int × Bool) : tot (a ++ b) t = tot b (tot a t) := by unfold tot; rw [List.foldl_append]
theorem tot_bd (l : List Dcl) : ∀ t : Int × Int × Bool, t.1 ≤ (tot l t).1 ∧ (tot l t).1 ≤ t.1 + dsize l ∧ t.2.1 ≤ (tot l t).2.1 ∧ (tot l t).2.1 ≤ max t.2.1 (dsize l) := by
  induction l with
  | nil => intro t; simp [tot, dsize]; omega
  | cons x l ih =>
    intro t
    have := ih (tstep t x)
    have h8 := dsize_nn l
    simp only [tot, List.foldl_cons, dsize] at *
    simp only [tstep] at this
    simp only [tstep]
    omega
end Go.Proofs.Qxb6626242a
