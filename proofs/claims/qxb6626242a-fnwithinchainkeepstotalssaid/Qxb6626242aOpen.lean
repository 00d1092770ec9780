/- Seat b6626242a: slices of declarations and of strings that came in, opened. -/
import Derived.Test.Qxb6626242aMem
import Derived.ProofKit
import Derived.Deep.Slices
import Derived.Deep.Strs
namespace Go.Proofs.Qxb6626242a
open Go.ChangeShapes Go.WideShapes Go.ChangeAt Go.RowKit Go.Deep

theorem Try.cells28 : Try.prog.cellsOf 28 = 4 := by kernel_rfl
theorem Try.cells9 : Try.prog.cellsOf 9 = 1 := by kernel_rfl
theorem Try.cells4 : Try.prog.cellsOf 4 = 1 := by kernel_rfl

theorem add_form (b off k : Nat) : (⟨b, off, none⟩ : Addr).add k = ⟨b, off + k, none⟩ := by
  unfold Addr.add
  split
  · rename_i h; subst h; rfl
  · rfl

section
variable {H : Type} {enc : TypeId × Value → H} {w : World} {base : Nat} {spare : Nat → Bool} {held : Bool}

/-- One declaration. -/
theorem open_dcl {a : Addr} {cs : List Value} {n : Nat} {y : DataW H × List MemPlace} (hc : w.cells? base a 4 = some cs) (ht : DataW.trod enc Try.prog w base spare held n 28 cs = some y) :
    ∃ x : Dcl, w.cell? (a.add 0) = some (.string x.p) ∧ w.cell? (a.add 1) = some (.string x.s) ∧ w.cell? (a.add 2) = some (.string x.r) ∧ w.cell? (a.add 3) = some (.bool x.d) := by
  obtain ⟨_, hlen, hcell⟩ := World.cells?_some hc
  obtain ⟨xs, k, _, _, _, hxl, hf⟩ := DataW.trod_struct Try.underlying28 ht
  match xs, hxl, cs, hlen with
  | [y0, y1, y2, y3], _, [v0, v1, v2, v3], _ =>
    have g0 := hf 0 _ rfl
    have g1 := hf 1 _ rfl
    have g2 := hf 2 _ rfl
    have g3 := hf 3 _ rfl
    simp [Try.cells9, Try.cells4] at g0 g1 g2 g3
    obtain ⟨s0, e0, _⟩ := DataW.trod_string Try.underlying9 g0
    obtain ⟨s1, e1, _⟩ := DataW.trod_string Try.underlying9 g1
    obtain ⟨s2, e2, _⟩ := DataW.trod_string Try.underlying9 g2
    obtain ⟨s3, e3, _⟩ := DataW.trod_bool Try.underlying4 g3
    simp at e0 e1 e2 e3
    subst e0 e1 e2 e3
    exact ⟨⟨s0, s1, s2, s3⟩, hcell 0 (by omega), hcell 1 (by omega), hcell 2 (by omega), hcell 3 (by omega)⟩

/-- A []Decl. -/
theorem open_decls {fuel : Nat} {ao : Option Addr} {len cap : Nat} {x : DataW H × List MemPlace} (h : DataW.trod enc Try.prog w base spare held fuel 22 [.slice ao len cap] = some x) :
    ∃ l : List Dcl, l.length = len ∧ DeclsIn w ao l ∧ len ≤ maxLen := by
  rcases open_slice Try.underlying22 h with ⟨hcs, _⟩ | ⟨a, len', cap', m, n, D, Pl, hcs, _, hl, hm, hmm, _, hx⟩
  · simp at hcs
    obtain ⟨_, rfl, _⟩ := hcs
    exact ⟨[], rfl, .inl rfl, Nat.zero_le _⟩
  · simp at hcs
    obtain ⟨rfl, rfl, rfl⟩ := hcs
    have hle : len ≤ m := by rw [hmm]; split <;> omega
    rw [Try.cells28] at hx
    have hd : Inhabited Dcl := ⟨⟨ByteArray.empty, ByteArray.empty, ByteArray.empty, false⟩⟩
    obtain ⟨f, hf⟩ := choose_lt (α := Dcl) (n := len) (p := fun i x => w.cell? ((a.add (i * 4)).add 0) = some (.string x.p) ∧ w.cell? ((a.add (i * 4)).add 1) = some (.string x.s) ∧ w.cell? ((a.add (i * 4)).add 2) = some (.string x.r) ∧ w.cell? ((a.add (i * 4)).add 3) = some (.bool x.d))
      (fun i hi => by
        obtain ⟨cs, h1, h2⟩ := hx i (by omega)
        exact open_dcl h1 h2)
    refine ⟨(List.range len).map f, by simp, ?_, by omega⟩
    by_cases h0 : len = 0
    · left; subst h0; rfl
    · right
      obtain ⟨b, off, spot⟩ := a
      have hs := World.cell?_spot (hf 0 (by omega)).1
      simp [Addr.add] at hs
      subst hs
      refine ⟨b, off, rfl, fun i x hi => ?_⟩
      have hlt : i < len := by
        rcases Nat.lt_or_ge i len with h1 | h1
        · exact h1
        · rw [List.getElem?_eq_none (by simpa using h1)] at hi; cases hi
      simp [hlt] at hi
      subst hi
      have := hf i hlt
      simp only [add_form, Nat.add_zero] at this
      exact this

/-- A []string. -/
theorem open_strings {fuel : Nat} {ao : Option Addr} {len cap : Nat} {x : DataW H × List MemPlace} (h : DataW.trod enc Try.prog w base spare held fuel 23 [.slice ao len cap] = some x) :
    ∃ l : List ByteArray, l.length = len ∧ StrsIn w ao l ∧ len ≤ maxLen := by
  rcases open_slice1 Try.underlying23 Try.cells9 h with ⟨hcs, _⟩ | ⟨a, len', cap', m, n, V, D, Pl, hcs, _, hl, hm, hmm, _, hx⟩
  · simp at hcs
    obtain ⟨_, rfl, _⟩ := hcs
    exact ⟨[], rfl, .inl rfl, Nat.zero_le _⟩
  · simp at hcs
    obtain ⟨rfl, rfl, rfl⟩ := hcs
    have hle : len ≤ m := by rw [hmm]; split <;> omega
    obtain ⟨f, hf⟩ := choose_lt (α := ByteArray) (n := len) (p := fun i x => w.cell? (a.add i) = some (.string x))
      (fun i hi => by
        obtain ⟨h1, h2⟩ := hx i (by omega)
        obtain ⟨s, e, _⟩ := DataW.trod_string Try.underlying9 h2
        simp at e
        rw [e] at h1
        exact ⟨s, h1⟩)
    refine ⟨(List.range len).map f, by simp, ?_, by omega⟩
    by_cases h0 : len = 0
    · left; subst h0; rfl
    · right
      obtain ⟨b, off, spot⟩ := a
      have hs := World.cell?_spot (hf 0 (by omega))
      simp [Addr.add] at hs
      subst hs
      refine ⟨b, off, rfl, fun i x hi => ?_⟩
      have hlt : i < len := by
        rcases Nat.lt_or_ge i len with h1 | h1
        · exact h1
        · rw [List.getElem?_eq_none (by simpa using h1)] at hi; cases hi
      simp [hlt] at hi
      subst hi
      have := hf i hlt
      simp only [add_form] at this
      exact this
end
end Go.Proofs.Qxb6626242a
