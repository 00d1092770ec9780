/- Seat b6626242a: ZZnewDecl, zzToDecls. -/
import Derived.Test.Qxb6626242aMem
import Derived.WalkSpells
import Derived.Deep.RegionHeld3
import Derived.Deep.AppendLies
import Derived.Deep.DrawnRows
namespace Go.Proofs.Qxb6626242a
open Go.RowKit

attribute [local go_sem ↓] Go.wp_at_zero Go.wp_at_succ

theorem Try.info52 : (Try.prog.info? 52).map (fun i => (i.zero, i.size, i.bytes)) = some (some (.agg #[.string ByteArray.empty, .string ByteArray.empty, .string ByteArray.empty, .bool false]), 4, 56) := by kernel_rfl

theorem newDecl_any (p s r : ByteArray) (d : Bool) (w : World) : Calls Try.prog 25 #[.string p, .string s, .string r, .bool d] w fun e w' =>
    e = .returned (.agg #[.string p, .string s, .string r, .bool d]) ∧ w' = w.alloc (.cells #[.string p, .string s, .string r, .bool d] 52) := by
  go_enter Try.func25, Try.ntmps25
  go_wp2
  exact bodyPost_ret (v := .agg #[.string p, .string s, .string r, .bool d]) (by simp [results, Try.results25, go_sem]) rfl ⟨rfl, rfl⟩

/-- The cells of declarations. -/
def cellsOf : List Dcl → List Value
  | [] => []
  | x :: l => .string x.p :: .string x.s :: .string x.r :: .bool x.d :: cellsOf l
theorem cellsOf_append (a b : List Dcl) : cellsOf (a ++ b) = cellsOf a ++ cellsOf b := by
  induction a with
  | nil => rfl
  | cons x l ih => simp [cellsOf, ih]
theorem cellsOf_take (l : List Dcl) (k : Nat) (x : Dcl) (h : l[k]? = some x) : cellsOf (l.take (k + 1)) = cellsOf (l.take k) ++ [.string x.p, .string x.s, .string x.r, .bool x.d] := by
  rw [take_snoc l k x h, cellsOf_append]; rfl
theorem cellsOf_at (l : List Dcl) : ∀ (i : Nat) (x : Dcl), l[i]? = some x →
    (cellsOf l)[i * 4]? = some (.string x.p) ∧ (cellsOf l)[i * 4 + 1]? = some (.string x.s) ∧ (cellsOf l)[i * 4 + 2]? = some (.string x.r) ∧ (cellsOf l)[i * 4 + 3]? = some (.bool x.d) := by
  induction l with
  | nil => intro i x h; simp at h
  | cons y l ih =>
    intro i x h
    cases i with
    | zero => simp at h; subst h; simp [cellsOf]
    | succ i =>
      have := ih i x (by simpa using h)
      have e : (i + 1) * 4 = i * 4 + 1 + 1 + 1 + 1 := by omega
      rw [e]
      simpa [cellsOf] using this
theorem decls_of_own {w : World} {base g n cap e : Nat} {l : List Dcl} (h : w.ownsRow base e 4 (.slice (some ⟨g, 0, none⟩) n cap) n (cellsOf l)) (hl : l.length = n) : DeclsAt w g 0 l := by
  intro i x hi
  have hlt : i < l.length := by
    rcases Nat.lt_or_ge i l.length with h1 | h1
    · exact h1
    · rw [List.getElem?_eq_none h1] at hi; cases hi
  obtain ⟨e0, e1, e2, e3⟩ := cellsOf_at l i x hi
  rw [Nat.zero_add]
  exact ⟨(h.cellAt _ (by omega)).trans e0, (h.cellAt _ (by omega)).trans e1, (h.cellAt _ (by omega)).trans e2, (h.cellAt _ (by omega)).trans e3⟩
theorem two_new (w : World) (A B : Obj) : ((w.alloc A).alloc B).heap[w.heap.size + 1]? = some B := by
  simpa using heap_alloc_new (w.alloc A) B
theorem nth2 {α : Type} {l : List α} {k : Nat} (h : k < l.length) : ∃ x, l[k]? = some x := ⟨l[k], by simp [h]⟩

set_option maxRecDepth 100000 in
set_option maxHeartbeats 3200000 in
theorem toDecls_any (ao : Option Addr) (cap : Nat) (l : List Dcl) (w : World) (hn : l.length ≤ 1048576) (h : DeclsIn w ao l) :
    Calls Try.prog 9 #[.slice ao l.length cap] w fun e w' => ∃ (ao' : Option Addr) (cap' : Nat), e = .returned (.slice ao' l.length cap') ∧ DeclsIn w' ao' l ∧ Below w.heap.size w w' := by
  have qT : ∀ (w : World) (a : Option Addr) (n c n' c' : Nat), (binOp .eql 22 (.slice a n c) (.slice none n' c')).run Try.prog w = .ok (.bool a.isNone) w := fun w a n c n' c' => Lib.run_eql_slice_nil w 22 28 a n c n' c' Try.underlying22
  cases ao with
  | none =>
    have hl : l = [] := by
      rcases h with h | ⟨b, off, h1, _⟩
      · exact h
      · cases h1
    subst hl
    go_enter Try.func9, Try.ntmps9
    go_wp2
    go_ret
    exact ⟨none, 0, rfl, .inl rfl, Below.refl _ _⟩
  | some a =>
    obtain ⟨i0, hi, hz0, hz1, hz2⟩ := info_parts Try.info52
    go_enter Try.func9, Try.ntmps9
    go_wp2_with (at_make; refine wpList_make_own _ rfl _ _ 31 rfl w.heap.size 52 i0 _ 4 Try.underlying31 hi hz0 hz1 _ _ _ l.length rfl rfl rfl ?b2 ?b3 (Nat.le_refl _) ?_)
    case b2 => rw [hz2]; omega
    case b3 => unfold maxLen; omega
    intro w0 hown0 hgrow0
    go_wp2
    go_loopw [3, 4] (fun out i wr => ∃ k g cp : Nat, k ≤ l.length ∧ i = .int .i64 k ∧ out = .slice (some ⟨g, 0, none⟩) k cp ∧ wr.ownsRow w.heap.size 52 4 (.slice (some ⟨g, 0, none⟩) k cp) k (cellsOf (l.take k)) ∧ Below w.heap.size w wr ∧ w.heap.size ≤ g) (fun _ i _ => l.length - (intOf i).toNat)
    case atStart => exact ⟨0, w.heap.size, l.length, Nat.zero_le _, rfl, rfl, by simpa [cellsOf] using hown0, (Below.refl _ _).grown hgrow0 (Nat.le_refl _) (fun k h => by cases h), Nat.le_refl _⟩
    case round =>
      obtain ⟨k, g, cp, hk, rfl, rfl, hown, hnx, hg⟩ := hrel
      by_cases hlt : k < l.length
      · obtain ⟨x, hx⟩ := nth2 hlt
        obtain ⟨b, off, e, c0, c1, c2, c3⟩ := h.at hx
        obtain rfl := Option.some.inj e
        have hbl : b < w.heap.size := World.block_lt_of_cell? w _ c0
        have d0 := (hnx.cell (p := ⟨b, off + k * 4, none⟩) hbl).trans c0
        have d1 := (hnx.cell (p := ⟨b, off + k * 4 + 1, none⟩) hbl).trans c1
        have d2 := (hnx.cell (p := ⟨b, off + k * 4 + 2, none⟩) hbl).trans c2
        have d3 := (hnx.cell (p := ⟨b, off + k * 4 + 3, none⟩) hbl).trans c3
        have HC : Hid (cellsOf (l.take (k + 1)) = cellsOf (l.take k) ++ [.string x.p, .string x.s, .string x.r, .bool x.d]) := cellsOf_take l k x hx
        have k0 : (0 : Int) ≤ (k : Int) := Int.natCast_nonneg _
        have k1 : (k : Int) < (l.length : Int) := by omega
        have hsz := hnx.size
        have nb : b ≠ g := by omega
        clear c0 c1 c2 c3 hx e
        go_wp2_with fail
        go_region_held3 (fun w' => w'.cell? ⟨b, off + k * 4, none⟩ = some (.string x.p) ∧ w'.cell? ⟨b, off + k * 4 + 1, none⟩ = some (.string x.s) ∧ w'.cell? ⟨b, off + k * 4 + 2, none⟩ = some (.string x.r) ∧ w'.cell? ⟨b, off + k * 4 + 3, none⟩ = some (.bool x.d))
          (first
            | go_keep
            | (go_split_ands
               refine ⟨?_, ?_, ?_, ?_⟩
               · (rw [hgrow.cell_far _ (by simp; omega) (by simpa [Value.ownBlock] using nb)]; assumption)
               · (rw [hgrow.cell_far _ (by simp; omega) (by simpa [Value.ownBlock] using nb)]; assumption)
               · (rw [hgrow.cell_far _ (by simp; omega) (by simpa [Value.ownBlock] using nb)]; assumption)
               · (rw [hgrow.cell_far _ (by simp; omega) (by simpa [Value.ownBlock] using nb)]; assumption)))
          (first
            | (go_at_call 25; refine (newDecl_any _ _ _ _ _).mono ?_; rintro e w' ⟨rfl, rfl⟩)
            | (refine step_append_lies _ (by rfl) _ _ _ (by rfl) w.heap.size 52 i0 _ 4 56 Try.underlying31 hi hz0 hz1 hz2 rfl (by omega) (.slice (some ⟨g, 0, none⟩) k cp) k _ (by rfl) (((hown.alloc _).alloc _).drew)
                ⟨wr.heap.size + 1, 0, none⟩ 1 1 [.string x.p, .string x.s, .string x.r, .bool x.d] (by rfl) (by rfl) (World.news_of_block (cs := #[.string x.p, .string x.s, .string x.r, .bool x.d]) (t := 52) (fr := (0, 0)) (two_new wr _ _)) (by simp [Value.oneCell'])
                (by omega) (by unfold maxLen; omega) (by omega) (by simp; omega) (wr.heap.size + 2) (by simp) ?_; intro gg cap w1 hown1 hgrow hat hlt1))
        have hb1 : Below w.heap.size w w1 := (((hnx.alloc hsz _).alloc (by simp; omega) _).drew).grown hgrow (by simp; omega) (fun j hj => by simp [Value.ownBlock] at hj; omega)
        have hg1 : w.heap.size ≤ gg := by
          rcases hat with hat | hat
          · simp [Value.ownBlock] at hat; omega
          · omega
        have hown2 : w1.ownsRow w.heap.size 52 4 (.slice (some ⟨gg, 0, none⟩) (k + 1) cap) (k + 1) (cellsOf (l.take (k + 1))) := by rw [HC.out]; exact hown1
        clear hown1 hgrow hat hown d0 d1 d2 d3
        go_wp2
        go_roundw
        case rel => exact ⟨k + 1, gg, cap, by omega, by go_num, rfl, hown2, hb1, hg1⟩
        case measure => simp [intOf]; omega
      · have hown2 : wr.ownsRow w.heap.size 52 4 (.slice (some ⟨g, 0, none⟩) k cp) k (cellsOf l) := by rw [List.take_of_length_le (by omega)] at hown; exact hown
        have HK : Hid (l.length = k) := by show l.length = k; omega
        go_wp2
        go_ret
        exact ⟨some ⟨g, 0, none⟩, cp, by rw [HK.out]; rfl, .inr ⟨_, _, rfl, decls_of_own hown2 HK.out⟩, hnx⟩
end Go.Proofs.Qxb6626242a
