/- The proof of 'Rows.FnWithinChainKeepsTotalsSaid'. The frame is the guide's (its skeleton for slices), turned to this row's type. -/
import Derived.Test.Qxb6626242aChainWalk
import Derived.Test.Qxb6626242aOpen
import Derived.Deep.SlicePairs
import Derived.OpenShut
import Derived.ShutString
import Derived.ChangeOld
namespace Go.Proofs.Qxb6626242a.fnWithinChainKeepsTotals
open Go.ChangeShapes Go.WideShapes Go.ChangeAt Go.RowKit Go.Deep

theorem own : ownKnob Try.prog.godebug = none := by kernel_rfl
theorem laidOut : laidOutB Try.prog = true := by kernel_rfl
theorem Try.cells47 : Try.prog.cellsOf 47 = 2 := by kernel_rfl
theorem Try.cells22 : Try.prog.cellsOf 22 = 1 := by kernel_rfl
theorem Try.cells23 : Try.prog.cellsOf 23 = 1 := by kernel_rfl

section
variable {H : Type} {enc : TypeId × Value → H} {w : World} {base : Nat} {spare : Nat → Bool} {held : Bool}

/-- What a cell of a slice type holds. -/
theorem slice_cell {t e : TypeId} {n : Nat} {v : Value} {y : DataW H × List MemPlace} (ht : Try.prog.underlying t = some (.slice e)) (h : DataW.trod enc Try.prog w base spare held n t [v] = some y) : ∃ a len cap, v = .slice a len cap := by
  rcases open_slice ht h with ⟨hcs, _⟩ | ⟨a, len, cap, _, _, _, _, hcs, _⟩
  · simp at hcs; exact ⟨_, _, _, hcs⟩
  · simp at hcs; exact ⟨_, _, _, hcs⟩

/-- One link, out of its two cells. -/
theorem open_link {b o n : Nat} {v0 v1 : Value} {y0 y1 : DataW H × List MemPlace} (c0 : w.cell? ⟨b, o, none⟩ = some v0) (c1 : w.cell? ⟨b, o + 1, none⟩ = some v1)
    (h0 : DataW.trod enc Try.prog w base spare held n 22 [v0] = some y0) (h1 : DataW.trod enc Try.prog w base spare held n 23 [v1] = some y1) : ∃ x : Lnk, LinkAt w b o x := by
  obtain ⟨da, dn, dc, rfl⟩ := slice_cell Try.underlying22 h0
  obtain ⟨ra, rn, rc, rfl⟩ := slice_cell Try.underlying23 h1
  obtain ⟨l, rfl, hD, hl⟩ := open_decls h0
  obtain ⟨s, rfl, hS, hs⟩ := open_strings h1
  exact ⟨⟨l, s⟩, da, dc, ra, rc, c0, c1, hD, hS, hl, hs⟩

/-- A []Link. -/
theorem open_links {fuel : Nat} {ao : Option Addr} {len cap : Nat} {x : DataW H × List MemPlace} (h : DataW.trod enc Try.prog w base spare held fuel 43 [.slice ao len cap] = some x) :
    ∃ L : List Lnk, L.length = len ∧ LinksIn w ao L ∧ len ≤ maxLen := by
  rcases open_slice_pairs Try.underlying43 Try.underlying47 Try.cells47 rfl rfl Try.cells22 Try.cells23 h with ⟨hcs, _⟩ | ⟨a, len', cap', m, n, V0, V1, D0, D1, P0, P1, hcs, _, hl, hm, hmm, _, hx⟩
  · simp at hcs
    obtain ⟨_, rfl, _⟩ := hcs
    exact ⟨[], rfl, .inl rfl, Nat.zero_le _⟩
  · simp at hcs
    obtain ⟨rfl, rfl, rfl⟩ := hcs
    have hle : len ≤ m := by rw [hmm]; split <;> omega
    by_cases h0 : len = 0
    · subst h0; exact ⟨[], rfl, .inl rfl, Nat.zero_le _⟩
    · obtain ⟨b, off, spot⟩ := a
      have hs := World.cell?_spot (hx 0 (by omega)).1
      simp [Addr.add] at hs
      subst hs
      have hd : Inhabited Lnk := ⟨⟨[], []⟩⟩
      obtain ⟨f, hf⟩ := choose_lt (α := Lnk) (n := len) (p := fun i x => LinkAt w b (off + i * 2) x) (fun i hi => by
        obtain ⟨e0, e1, e2, e3⟩ := hx i (by omega)
        rw [add_form] at e0 e1
        exact open_link e0 e1 e2 e3)
      refine ⟨(List.range len).map f, by simp, .inr ⟨b, off, rfl, fun i x hi => ?_⟩, by omega⟩
      have hlt : i < len := by
        rcases Nat.lt_or_ge i len with h1 | h1
        · exact h1
        · rw [List.getElem?_eq_none (by simpa using h1)] at hi; cases hi
      simp [hlt] at hi
      subst hi
      exact hf i hlt
end

set_option maxRecDepth 100000 in
theorem lifted (os : Os) (started : os.Started) (H : Type) (enc : TypeId × Value → H) :
    ReturnsInHanded {} Try.checked os 4 .any (Rows.fnWithinChainKeepsTotalsSpec.pre6 enc Try.prog Try.f4 Rows.fnWithinChainKeepsTotalsRow.domain false) (Rows.fnWithinChainKeepsTotalsSpec.post enc Try.prog Try.f4 false true false false) := by
  refine returnsInHanded_of_change (C := Try.checked) own started (by kernel_rfl) Try.func4
    (ChangeSpec.witness6 (enc := enc) (C := Try.checked) false ⟨#[], #[.slice none 0 0], []⟩ 8 (by kernel_rfl) (by kernel_rfl) (by kernel_rfl) (by kernel_rfl)) ?_
  intro W base args ds gs before hval0 hW hcnd _
  have hval : ∀ (j : Nat) t v, Try.f4.params[j]? = some t → args[j]? = some v → Value.okWide Try.prog W .any base t v := hval0
  have hW' := hW
  obtain ⟨p, q, hA0, hV, rfl, hfz, hnd⟩ := hW
  have hA : DataW.TrodAll enc Try.prog W 0 (fun _ => true) true Try.f4.params.toList args.toList ds p := hA0
  rw [Try.params4] at hA hval
  obtain ⟨v0, vs0, d0, ds0, p0, q0, hargs, rfl, rfl, h0, r0⟩ := trodAll_cons hA
  obtain ⟨rfl, rfl, rfl⟩ := trodAll_nil r0
  obtain rfl : args = #[v0] := by cases args; simp_all
  obtain ⟨rfl, rfl⟩ := trodVars_none hV
  obtain ⟨a0, len0, cap0, rfl⟩ := okWide_slice Try.underlying43 (hval 0 43 v0 rfl rfl)
  have lt0 : ∀ x ∈ p0, x.block < W.heap.size := by obtain ⟨m, hm⟩ := h0; exact DataW.trod_lt m _ _ _ hm
  obtain ⟨L, rfl, hL, n0⟩ : ∃ L : List Lnk, L.length = len0 ∧ LinksIn W a0 L ∧ len0 ≤ maxLen := by
    obtain ⟨fuel, hf⟩ := h0
    exact open_links (by simpa [Value.cells] using hf)
  clear hA0 hval0
  refine (chain_walk a0 cap0 L W n0 hL).mono fun e W' ⟨he, bel⟩ => ?_
  subst he
  exact ⟨_, rfl, _, _, _, [], _, [], hW', trodAll_mk1 (shut_bool Try.underlying4 _),
    (trodAll_cons_mk (Below.trod laidOut (by kernel_rfl) (of_decide_eq_true (by kernel_rfl)) h0 bel lt0) trodAll_mk0), rfl, bel.frame _, fun h => by cases h⟩

theorem over : Rows.fnWithinChainKeepsTotalsRow.holds Try.pinned (OpenSpec.ofChange Rows.fnWithinChainKeepsTotalsSpec) :=
  OpenClaim.holds_of_wide 4 Try.f4 rfl rfl rfl rfl rfl rfl rfl ⟨rfl, rfl, rfl, rfl, rfl⟩ rfl rfl rfl rfl rfl (by kernel_rfl) Try.func4 (by kernel_rfl)
    (of_decide_eq_true (by kernel_rfl)) (by unfold Func.isWrapper; first | (rw [if_pos (by decide +kernel)]; kernel_rfl) | (rw [if_neg (by decide +kernel)]; exact ⟨rfl, rfl⟩))
    (fun os started H enc _ => lifted os started H enc)

/-- THE STATEMENT -/
theorem proved : Rows.FnWithinChainKeepsTotalsSaid :=
  over
end Go.Proofs.Qxb6626242a.fnWithinChainKeepsTotals
