/- Seat b6626242a: (*inherited).within, ZZwithin. -/
import Derived.Test.Qxb6626242aMem
import Derived.WalkSpells
namespace Go.Proofs.Qxb6626242a
open Go.RowKit

/-- A link of a chain lies at block g. -/
structure InhAt (w : World) (g : Nat) (dv rv : Value) (pin : Option Addr) (t : Int × Int × Bool) : Prop where
  c0 : w.cell? ⟨g, 0, none⟩ = some dv
  c1 : w.cell? ⟨g, 1, none⟩ = some rv
  c2 : w.cell? ⟨g, 2, none⟩ = some (.pointer pin)
  c3 : w.cell? ⟨g, 3, none⟩ = some (.int .i64 t.1)
  c4 : w.cell? ⟨g, 4, none⟩ = some (.int .i64 t.2.1)
  c5 : w.cell? ⟨g, 5, none⟩ = some (.bool t.2.2)
theorem InhAt.mono {w w' : World} {g : Nat} {dv rv : Value} {pin : Option Addr} {t : Int × Int × Bool} (h : InhAt w g dv rv pin t) (hb : Below w.heap.size w w') : InhAt w' g dv rv pin t :=
  ⟨cell_below hb h.c0, cell_below hb h.c1, cell_below hb h.c2, cell_below hb h.c3, cell_below hb h.c4, cell_below hb h.c5⟩
theorem nth3 {α : Type} {l : List α} {k : Nat} (h : k < l.length) : ∃ x, l[k]? = some x := ⟨l[k], by simp [h]⟩


theorem set3 (wr : World) (N : Nat) (v0 v1 v2 v3 v4 v5 a b c : Value) (h0 : wr.cell? ⟨N, 0, none⟩ = some v0) (h1 : wr.cell? ⟨N, 1, none⟩ = some v1) (h2 : wr.cell? ⟨N, 2, none⟩ = some v2)
    (h3 : wr.cell? ⟨N, 3, none⟩ = some v3) (h4 : wr.cell? ⟨N, 4, none⟩ = some v4) (h5 : wr.cell? ⟨N, 5, none⟩ = some v5) :
    (((wr.setCell ⟨N, 3, none⟩ a).setCell ⟨N, 4, none⟩ b).setCell ⟨N, 5, none⟩ c).cell? ⟨N, 0, none⟩ = some v0 ∧
    (((wr.setCell ⟨N, 3, none⟩ a).setCell ⟨N, 4, none⟩ b).setCell ⟨N, 5, none⟩ c).cell? ⟨N, 1, none⟩ = some v1 ∧
    (((wr.setCell ⟨N, 3, none⟩ a).setCell ⟨N, 4, none⟩ b).setCell ⟨N, 5, none⟩ c).cell? ⟨N, 2, none⟩ = some v2 ∧
    (((wr.setCell ⟨N, 3, none⟩ a).setCell ⟨N, 4, none⟩ b).setCell ⟨N, 5, none⟩ c).cell? ⟨N, 3, none⟩ = some a ∧
    (((wr.setCell ⟨N, 3, none⟩ a).setCell ⟨N, 4, none⟩ b).setCell ⟨N, 5, none⟩ c).cell? ⟨N, 4, none⟩ = some b ∧
    (((wr.setCell ⟨N, 3, none⟩ a).setCell ⟨N, 4, none⟩ b).setCell ⟨N, 5, none⟩ c).cell? ⟨N, 5, none⟩ = some c := by
  have o : ∀ (W : World) (i j : Nat) (v : Value), i ≠ j → (W.setCell ⟨N, i, none⟩ v).cell? ⟨N, j, none⟩ = W.cell? ⟨N, j, none⟩ := fun W i j v hij => World.cell?_setCell_other _ _ _ _ (by intro e; injection e with _ e2; exact hij e2)
  refine ⟨?_, ?_, ?_, ?_, ?_, ?_⟩
  · rw [o _ 5 0 _ (by decide), o _ 4 0 _ (by decide), o _ 3 0 _ (by decide)]; exact h0
  · rw [o _ 5 1 _ (by decide), o _ 4 1 _ (by decide), o _ 3 1 _ (by decide)]; exact h1
  · rw [o _ 5 2 _ (by decide), o _ 4 2 _ (by decide), o _ 3 2 _ (by decide)]; exact h2
  · rw [o _ 5 3 _ (by decide), o _ 4 3 _ (by decide)]; exact World.cell?_setCell_same _ _ _ h3
  · rw [o _ 5 4 _ (by decide)]; exact World.cell?_setCell_same _ _ _ ((o _ 3 4 _ (by decide)).trans h4)
  · exact World.cell?_setCell_same _ _ _ ((o _ 4 5 _ (by decide)).trans ((o _ 3 5 _ (by decide)).trans h5))

/-- What a round of within does to the link. -/
theorem inh_step {w wr : World} {N : Nat} {dv rv : Value} {pin : Option Addr} {t : Int × Int × Bool} (hI : InhAt wr N dv rv pin t) (hfr : ∀ j, wr.frozen? ⟨N, j, none⟩ = false) (hnx : Below N w wr) (hsz : N < wr.heap.size)
    (a3 a4 : Int) (a5 : Bool) (O : Obj) :
    InhAt ((((wr.setCell ⟨N, 3, none⟩ (.int .i64 a3)).setCell ⟨N, 4, none⟩ (.int .i64 a4)).setCell ⟨N, 5, none⟩ (.bool a5)).alloc O).drew.drew N dv rv pin (a3, a4, a5) ∧
    (∀ j, ((((wr.setCell ⟨N, 3, none⟩ (.int .i64 a3)).setCell ⟨N, 4, none⟩ (.int .i64 a4)).setCell ⟨N, 5, none⟩ (.bool a5)).alloc O).drew.drew.frozen? ⟨N, j, none⟩ = false) ∧
    Below N w ((((wr.setCell ⟨N, 3, none⟩ (.int .i64 a3)).setCell ⟨N, 4, none⟩ (.int .i64 a4)).setCell ⟨N, 5, none⟩ (.bool a5)).alloc O).drew.drew ∧
    N < ((((wr.setCell ⟨N, 3, none⟩ (.int .i64 a3)).setCell ⟨N, 4, none⟩ (.int .i64 a4)).setCell ⟨N, 5, none⟩ (.bool a5)).alloc O).drew.drew.heap.size := by
  obtain ⟨k0, k1, k2, k3, k4, k5⟩ := set3 wr N _ _ _ _ _ _ (.int .i64 a3) (.int .i64 a4) (.bool a5) hI.c0 hI.c1 hI.c2 hI.c3 hI.c4 hI.c5
  have hs : N < (((wr.setCell ⟨N, 3, none⟩ (.int .i64 a3)).setCell ⟨N, 4, none⟩ (.int .i64 a4)).setCell ⟨N, 5, none⟩ (.bool a5)).heap.size := by simpa [World.setCell] using hsz
  refine ⟨⟨?_, ?_, ?_, ?_, ?_, ?_⟩, ?_, ?_, ?_⟩
  · rw [World.cell?_drew, World.cell?_drew, World.cell?_alloc_past _ _ _ hs]; exact k0
  · rw [World.cell?_drew, World.cell?_drew, World.cell?_alloc_past _ _ _ hs]; exact k1
  · rw [World.cell?_drew, World.cell?_drew, World.cell?_alloc_past _ _ _ hs]; exact k2
  · rw [World.cell?_drew, World.cell?_drew, World.cell?_alloc_past _ _ _ hs]; exact k3
  · rw [World.cell?_drew, World.cell?_drew, World.cell?_alloc_past _ _ _ hs]; exact k4
  · rw [World.cell?_drew, World.cell?_drew, World.cell?_alloc_past _ _ _ hs]; exact k5
  · intro j
    rw [World.frozen?_drew, World.frozen?_drew, World.frozen?_alloc_past _ _ _ hs, World.frozen?_setCell, World.frozen?_setCell, World.frozen?_setCell]; exact hfr j
  · exact ((((hnx.setCell (Nat.le_refl _) _).setCell (Nat.le_refl _) _).setCell (Nat.le_refl _) _).alloc (Nat.le_of_lt hs) _).drew.drew
  · show N < (World.alloc _ _).heap.size
    rw [World.size_alloc]; omega

theorem hid_tot {T : Int × Int × Bool} {p q r : Int} {u e : Bool} {u' : Bool} (H : Hid (T = (p + r, max q r, u || e))) (hu : (u || e) = u') : Hid (T = (p + r, (if q < r then r else q), u')) := by
  show T = _
  rw [H.out, hu]
  congr 2
  split <;> omega

set_option maxRecDepth 100000 in
set_option maxHeartbeats 3200000 in
theorem within_any (pin ao ra : Option Addr) (cap rn rc : Nat) (l : List Dcl) (t0 : Int × Int × Bool) (w : World) (hn : l.length ≤ maxLen) (h : DeclsIn w ao l) (ht : 0 ≤ t0.1) (h1 : t0.1 + dsize l ≤ 2097152)
    (hp : (pin = none ∧ t0 = (0, 0, false)) ∨ ∃ g dv rv pp, pin = some ⟨g, 0, none⟩ ∧ InhAt w g dv rv pp t0) :
    Calls Try.prog 24 #[.pointer pin, .slice ao l.length cap, .slice ra rn rc] w fun e w' =>
      e = .returned (.pointer (some ⟨w.heap.size, 0, none⟩)) ∧ InhAt w' w.heap.size (.slice ao l.length cap) (.slice ra rn rc) pin (tot l t0) ∧ Below w.heap.size w w' := by
  unfold maxLen at hn
  rcases hp with ⟨rfl, rfl⟩ | ⟨g, dv, rv, pp, rfl, hg⟩
  · go_enter Try.func24, Try.ntmps24
    go_wp2
    go_loopw [40] (fun i wr => ∃ (k : Nat) (p q : Int) (u : Bool), k ≤ l.length ∧ i = .int .i64 k ∧ Hid (tot (l.take k) (0, 0, false) = (p, q, u)) ∧ InhAt wr w.heap.size (.slice ao l.length cap) (.slice ra rn rc) none (p, q, u) ∧
      (∀ j, wr.frozen? ⟨w.heap.size, j, none⟩ = false) ∧ Below w.heap.size w wr ∧ w.heap.size < wr.heap.size) (fun i _ => l.length - (intOf i).toNat)
    case atStart => exact ⟨0, 0, 0, false, Nat.zero_le _, rfl, rfl, ⟨by simp, by simp, by simp, by simp, by simp, by simp⟩, fun j => by simp, (Below.refl _ _).alloc (Nat.le_refl _) _, by simp⟩
    case round =>
      obtain ⟨k, p, q, u, hk, rfl, HT, hI, hfr, hnx, hsz⟩ := hrel
      by_cases hlt : k < l.length
      · obtain ⟨x, hx⟩ := nth3 hlt
        obtain ⟨b, off, rfl, c0, c1, c2, c3⟩ := h.at hx
        have hbl : b < w.heap.size := World.block_lt_of_cell? w _ c0
        have d0 := (hnx.cell (p := ⟨b, off + k * 4, none⟩) hbl).trans c0
        have d1 := (hnx.cell (p := ⟨b, off + k * 4 + 1, none⟩) hbl).trans c1
        have d2 := (hnx.cell (p := ⟨b, off + k * 4 + 2, none⟩) hbl).trans c2
        have d3 := (hnx.cell (p := ⟨b, off + k * 4 + 3, none⟩) hbl).trans c3
        have HD : Hid (tot (l.take (k + 1)) (0, 0, false) = (p + x.r.size, max q x.r.size, u || x.p.toList.isEmpty)) := by
          show tot (l.take (k + 1)) (0, 0, false) = _
          rw [tot_take l k x hx, HT.out]; rfl
        have hb : 0 ≤ p ∧ p + x.r.size ≤ 2097152 := by
          have b1 := tot_bd (l.take k) (0, 0, false)
          have b2 := tot_bd (l.take (k + 1)) (0, 0, false)
          rw [HD.out] at b2
          rw [HT.out] at b1
          have b3 := dsize_append (l.take (k + 1)) (l.drop (k + 1))
          rw [List.take_append_drop] at b3
          have b4 := dsize_nn (l.drop (k + 1))
          simp only at b1 b2 h1 ht
          omega
        obtain ⟨f0, f1, f2, f3, f4, f5⟩ := hI
        have hI : Hid (InhAt wr w.heap.size (.slice (some ⟨b, off, none⟩) l.length cap) (.slice ra rn rc) none (p, q, u)) := ⟨f0, f1, f2, f3, f4, f5⟩
        have HF : Hid (∀ j, wr.frozen? ⟨w.heap.size, j, none⟩ = false) := hfr
        simp only at f3 f4 f5
        have fr3 := hfr 3
        have fr4 := hfr 4
        have fr5 := hfr 5
        clear c0 c1 c2 c3 hx h hfr
        cases u
        · go_wp2
          go_region
          all_goals go_wp2
          all_goals go_region
          all_goals go_wp2
          all_goals
            go_roundw
            case rel => exact ⟨k + 1, _, _, _, by omega, by go_num, hid_tot HD rfl, inh_step hI.out HF.out hnx hsz _ _ _ _⟩
            case measure => simp [intOf]; omega
        · go_wp2
          go_region
          all_goals go_wp2
          all_goals go_region
          all_goals go_wp2
          all_goals
            go_roundw
            case rel => exact ⟨k + 1, _, _, _, by omega, by go_num, hid_tot HD rfl, inh_step hI.out HF.out hnx hsz _ _ _ _⟩
            case measure => simp [intOf]; omega
      · have HE : Hid (tot l (0, 0, false) = (p, q, u)) := by
          have e := HT.out
          rw [List.take_of_length_le (by omega)] at e
          exact e
        go_wp2
        go_ret
        exact ⟨rfl, by rw [HE.out]; exact hI, hnx⟩
  · obtain ⟨e0, e1, e2, e3, e4, e5⟩ := hg
    have hgl : g < w.heap.size := World.block_lt_of_cell? w _ e0
    have HG : w.heap.size ≠ g := by omega
    clear e0 e1 e2
    go_enter Try.func24, Try.ntmps24
    go_wp2
    go_region
    go_wp2
    go_loopw [40] (fun i wr => ∃ (k : Nat) (p q : Int) (u : Bool), k ≤ l.length ∧ i = .int .i64 k ∧ Hid (tot (l.take k) t0 = (p, q, u)) ∧ InhAt wr w.heap.size (.slice ao l.length cap) (.slice ra rn rc) (some ⟨g, 0, none⟩) (p, q, u) ∧
      (∀ j, wr.frozen? ⟨w.heap.size, j, none⟩ = false) ∧ Below w.heap.size w wr ∧ w.heap.size < wr.heap.size) (fun i _ => l.length - (intOf i).toNat)
    case atStart => exact ⟨0, t0.1, t0.2.1, t0.2.2, Nat.zero_le _, rfl, rfl, ⟨by simp, by simp, by simp, by simp, by simp, by simp⟩, fun j => by simp, ((Below.refl _ _).alloc (Nat.le_refl _) _).drew, by simp⟩
    case round =>
      clear e3 e4 e5
      obtain ⟨k, p, q, u, hk, rfl, HT, hI, hfr, hnx, hsz⟩ := hrel
      by_cases hlt : k < l.length
      · obtain ⟨x, hx⟩ := nth3 hlt
        obtain ⟨b, off, rfl, c0, c1, c2, c3⟩ := h.at hx
        have hbl : b < w.heap.size := World.block_lt_of_cell? w _ c0
        have d0 := (hnx.cell (p := ⟨b, off + k * 4, none⟩) hbl).trans c0
        have d1 := (hnx.cell (p := ⟨b, off + k * 4 + 1, none⟩) hbl).trans c1
        have d2 := (hnx.cell (p := ⟨b, off + k * 4 + 2, none⟩) hbl).trans c2
        have d3 := (hnx.cell (p := ⟨b, off + k * 4 + 3, none⟩) hbl).trans c3
        have HD : Hid (tot (l.take (k + 1)) t0 = (p + x.r.size, max q x.r.size, u || x.p.toList.isEmpty)) := by
          show tot (l.take (k + 1)) t0 = _
          rw [tot_take l k x hx, HT.out]; rfl
        have hb : 0 ≤ p ∧ p + x.r.size ≤ 2097152 := by
          have b1 := tot_bd (l.take k) t0
          have b2 := tot_bd (l.take (k + 1)) t0
          rw [HD.out] at b2
          rw [HT.out] at b1
          have b3 := dsize_append (l.take (k + 1)) (l.drop (k + 1))
          rw [List.take_append_drop] at b3
          have b4 := dsize_nn (l.drop (k + 1))
          simp only at b1 b2 h1 ht
          omega
        obtain ⟨f0, f1, f2, f3, f4, f5⟩ := hI
        have hI : Hid (InhAt wr w.heap.size (.slice (some ⟨b, off, none⟩) l.length cap) (.slice ra rn rc) (some ⟨g, 0, none⟩) (p, q, u)) := ⟨f0, f1, f2, f3, f4, f5⟩
        have HF : Hid (∀ j, wr.frozen? ⟨w.heap.size, j, none⟩ = false) := hfr
        simp only at f3 f4 f5
        have fr3 := hfr 3
        have fr4 := hfr 4
        have fr5 := hfr 5
        clear c0 c1 c2 c3 hx h hfr
        cases u
        · go_wp2
          go_region
          all_goals go_wp2
          all_goals go_region
          all_goals go_wp2
          all_goals
            go_roundw
            case rel => exact ⟨k + 1, _, _, _, by omega, by go_num, hid_tot HD rfl, inh_step hI.out HF.out hnx hsz _ _ _ _⟩
            case measure => simp [intOf]; omega
        · go_wp2
          go_region
          all_goals go_wp2
          all_goals go_region
          all_goals go_wp2
          all_goals
            go_roundw
            case rel => exact ⟨k + 1, _, _, _, by omega, by go_num, hid_tot HD rfl, inh_step hI.out HF.out hnx hsz _ _ _ _⟩
            case measure => simp [intOf]; omega
      · have HE : Hid (tot l t0 = (p, q, u)) := by
          have e := HT.out
          rw [List.take_of_length_le (by omega)] at e
          exact e
        go_wp2
        go_ret
        exact ⟨rfl, by rw [HE.out]; exact hI, hnx⟩

theorem zwithin_any (pin ao ra : Option Addr) (cap rn rc : Nat) (l : List Dcl) (t0 : Int × Int × Bool) (w : World) (hn : l.length ≤ maxLen) (h : DeclsIn w ao l) (ht : 0 ≤ t0.1) (h1 : t0.1 + dsize l ≤ 2097152)
    (hp : (pin = none ∧ t0 = (0, 0, false)) ∨ ∃ g dv rv pp, pin = some ⟨g, 0, none⟩ ∧ InhAt w g dv rv pp t0) :
    Calls Try.prog 8 #[.pointer pin, .slice ao l.length cap, .slice ra rn rc] w fun e w' =>
      e = .returned (.pointer (some ⟨w.heap.size, 0, none⟩)) ∧ InhAt w' w.heap.size (.slice ao l.length cap) (.slice ra rn rc) pin (tot l t0) ∧ Below w.heap.size w w' := by
  have H : Hid _ := hp
  clear hp
  go_enter Try.func8, Try.ntmps8
  go_wp2_with fail
  refine (within_any pin ao ra cap rn rc l t0 w hn h ht h1 H.out).mono ?_
  rintro e w' ⟨rfl, hI, hb⟩
  go_wp2_with fail
  go_ret
  exact ⟨rfl, hI, hb⟩
end Go.Proofs.Qxb6626242a
