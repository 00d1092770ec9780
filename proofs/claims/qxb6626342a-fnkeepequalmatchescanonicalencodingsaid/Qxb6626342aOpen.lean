/- Seat b6626342a: slices of labels and of strings that came in, opened. -/
import Derived.Test.Qxb6626342aMem
import Derived.ProofKit
import Derived.Deep.Slices
import Derived.Deep.SlicePairs
namespace Go.Proofs.Qxb6626342a
open Go.ChangeShapes Go.WideShapes Go.ChangeAt Go.RowKit Go.Deep

theorem Try.cells37 : Try.prog.cellsOf 37 = 2 := by kernel_rfl
theorem Try.cells9 : Try.prog.cellsOf 9 = 1 := by kernel_rfl

theorem add_form (b off k : Nat) : (⟨b, off, none⟩ : Addr).add k = ⟨b, off + k, none⟩ := by
  unfold Addr.add
  split
  · rename_i h; subst h; rfl
  · rfl

section
variable {H : Type} {enc : TypeId × Value → H} {w : World} {base : Nat} {spare : Nat → Bool} {held : Bool}

/-- A []LawLabel. -/
theorem open_labels {fuel : Nat} {ao : Option Addr} {len cap : Nat} {x : DataW H × List MemPlace} (h : DataW.trod enc Try.prog w base spare held fuel 22 [.slice ao len cap] = some x) :
    ∃ l : List Lab, l.length = len ∧ LabsIn w ao l ∧ len ≤ maxLen := by
  rcases open_slice_pairs Try.underlying22 Try.underlying37 Try.cells37 rfl rfl Try.cells9 Try.cells9 h with ⟨hcs, _⟩ | ⟨a, len', cap', m, n, V0, V1, D0, D1, P0, P1, hcs, _, hl, hm, hmm, _, hx⟩
  · simp at hcs
    obtain ⟨_, rfl, _⟩ := hcs
    exact ⟨[], rfl, .inl rfl, Nat.zero_le _⟩
  · simp at hcs
    obtain ⟨rfl, rfl, rfl⟩ := hcs
    have hle : len ≤ m := by rw [hmm]; split <;> omega
    by_cases h0 : len = 0
    · subst h0; exact ⟨[], rfl, .inl rfl, Nat.zero_le _⟩
    · obtain ⟨b, off, spot⟩ := a
      have hs := World.cell?_spot (hx 0 (by omega)).1
      simp [Addr.add] at hs
      subst hs
      have hd : Inhabited Lab := ⟨⟨ByteArray.empty, ByteArray.empty⟩⟩
      obtain ⟨f, hf⟩ := choose_lt (α := Lab) (n := len) (p := fun i x => w.cell? ⟨b, off + i * 2, none⟩ = some (.string x.k) ∧ w.cell? ⟨b, off + i * 2 + 1, none⟩ = some (.string x.v)) (fun i hi => by
        obtain ⟨e0, e1, e2, e3⟩ := hx i (by omega)
        rw [add_form] at e0 e1
        obtain ⟨s0, q0, _⟩ := DataW.trod_string Try.underlying9 e2
        obtain ⟨s1, q1, _⟩ := DataW.trod_string Try.underlying9 e3
        simp at q0 q1
        rw [q0] at e0
        rw [q1] at e1
        exact ⟨⟨s0, s1⟩, e0, e1⟩)
      refine ⟨(List.range len).map f, by simp, .inr ⟨b, off, rfl, fun i x hi => ?_⟩, by omega⟩
      have hlt : i < len := by have := lt_of_nth hi; simpa using this
      simp [hlt] at hi
      subst hi
      exact hf i hlt

/-- A []string. -/
theorem open_strings {fuel : Nat} {ao : Option Addr} {len cap : Nat} {x : DataW H × List MemPlace} (h : DataW.trod enc Try.prog w base spare held fuel 23 [.slice ao len cap] = some x) :
    ∃ l : List ByteArray, l.length = len ∧ StrsIn w ao l ∧ len ≤ maxLen := by
  rcases open_slice1 Try.underlying23 Try.cells9 h with ⟨hcs, _⟩ | ⟨a, len', cap', m, n, V, D, Pl, hcs, _, hl, hm, hmm, _, hx⟩
  · simp at hcs
    obtain ⟨_, rfl, _⟩ := hcs
    exact ⟨[], rfl, .inl rfl, Nat.zero_le _⟩
  · simp at hcs
    obtain ⟨rfl, rfl, rfl⟩ := hcs
    have hle : len ≤ m := by rw [hmm]; split <;> omega
    by_cases h0 : len = 0
    · subst h0; exact ⟨[], rfl, .inl rfl, Nat.zero_le _⟩
    · obtain ⟨b, off, spot⟩ := a
      have hs := World.cell?_spot (hx 0 (by omega)).1
      simp [Addr.add] at hs
      subst hs
      obtain ⟨f, hf⟩ := choose_lt (α := ByteArray) (n := len) (p := fun i x => w.cell? ⟨b, off + i, none⟩ = some (.string x)) (fun i hi => by
        obtain ⟨h1, h2⟩ := hx i (by omega)
        rw [add_form] at h1
        obtain ⟨s, e, _⟩ := DataW.trod_string Try.underlying9 h2
        simp at e
        rw [e] at h1
        exact ⟨s, h1⟩)
      refine ⟨(List.range len).map f, by simp, .inr ⟨b, off, rfl, fun i x hi => ?_⟩, by omega⟩
      have hlt : i < len := by have := lt_of_nth hi; simpa using this
      simp [hlt] at hi
      subst hi
      exact hf i hlt
end
end Go.Proofs.Qxb6626342a
