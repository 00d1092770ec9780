/- Seat b6626342a: the walk of FnKeepEqualDetectsOneChange. -/
import Derived.Test.Qxb6626342aLeaf
import Derived.Test.Qxb6626342aBytes
import Derived.Test.Qxb6626342aMake
import Derived.Test.Qxb6626342aEqual
import Derived.Deep.AppendLies
namespace Go.Proofs.Qxb6626342a
open Go.RowKit

theorem own_mono {w w' : World} {base e size n : Nat} {v : Value} {xs : List Value} (h : w.ownsRow base e size v n xs) (hb : Below w.heap.size w w') : w'.ownsRow base e size v n xs := by
  obtain ⟨h1, h2⟩ := h
  refine ⟨h1, ?_⟩
  rcases h2 with h2 | ⟨g, cap, cur, hv, hg, hh, r⟩
  · exact .inl h2
  · have hlt : g < w.heap.size := by
      rcases Nat.lt_or_ge g w.heap.size with h3 | h3
      · exact h3
      · rw [Array.getElem?_eq_none h3] at hh; cases hh
    exact .inr ⟨g, cap, cur, hv, hg, (hb.block g hlt).trans hh, r⟩

/-- The Bool says whether P. -/
def Tells (b : Bool) (P : Prop) : Prop := b = true ↔ P
theorem Tells.out {b : Bool} {P : Prop} (h : Tells b P) : b = true ↔ P := h
theorem same_comm {l m : List Lab} {s t : List ByteArray} : Same m l t s ↔ Same l m s t := ⟨fun h => ⟨h.1.symm, h.2.symm⟩, fun h => ⟨h.1.symm, h.2.symm⟩⟩
theorem set_yes {l : List Lab} {s : List ByteArray} {j : Nat} {x : Lab} {key value : ByteArray} (hx : l[j]? = some x) (h1 : x.k = key) (h2 : x.v = value) : Tells true (Same l (l.set j ⟨key, value⟩) s s) := by
  refine ⟨fun _ => ⟨?_, rfl⟩, fun _ => rfl⟩
  subst h1 h2
  apply List.ext_getElem?
  intro i
  rw [List.getElem?_set]
  split
  · rename_i h; subst h; rw [if_pos (lt_of_nth hx), hx]
  · rfl
theorem set_no {l : List Lab} {s : List ByteArray} {j : Nat} {x : Lab} {key value : ByteArray} (hx : l[j]? = some x) (h : x ≠ ⟨key, value⟩) : Tells false (Same l (l.set j ⟨key, value⟩) s s) := by
  refine ⟨fun h' => Bool.noConfusion h', fun hs => absurd ?_ h⟩
  have e := hs.1
  have : (l.set j ⟨key, value⟩)[j]? = some ⟨key, value⟩ := by rw [List.getElem?_set_self (lt_of_nth hx)]
  rw [← e, hx] at this
  exact Option.some.inj this

theorem eql_bool (w : World) (a b : Bool) : (binOp .eql 4 (.bool a) (.bool b)).run Try.prog w = .ok (.bool (a == b)) w := by
  have h : ∀ d : Nat, (Op.equalIn (d + 1) 4 (.bool a) (.bool b)).run Try.prog w = .ok (a == b) w := fun d => run_equalIn_bool w d 4 a b Try.underlying4
  simp only [binOp]
  simp [Op.equal, Op.maxDepth, h 9999]
theorem sset_yes {l : List Lab} {s : List ByteArray} {j : Nat} {x cond : ByteArray} (hx : s[j]? = some x) (h1 : x = cond) : Tells true (Same l l s (s.set j cond)) := by
  refine ⟨fun _ => ⟨rfl, ?_⟩, fun _ => rfl⟩
  subst h1
  apply List.ext_getElem?
  intro i
  rw [List.getElem?_set]
  split
  · rename_i h; subst h; rw [if_pos (lt_of_nth hx), hx]
  · rfl
theorem sset_no {l : List Lab} {s : List ByteArray} {j : Nat} {x cond : ByteArray} (hx : s[j]? = some x) (h : x ≠ cond) : Tells false (Same l l s (s.set j cond)) := by
  refine ⟨fun h' => Bool.noConfusion h', fun hs => absurd ?_ h⟩
  have e := hs.2
  have : (s.set j cond)[j]? = some cond := by rw [List.getElem?_set_self (lt_of_nth hx)]
  rw [← e, hx] at this
  exact Option.some.inj this
theorem sapp_no {l : List Lab} {s : List ByteArray} {cond : ByteArray} : Tells false (Same l l s (s ++ [cond])) := by
  refine ⟨fun h' => Bool.noConfusion h', fun hs => ?_⟩
  have := congrArg List.length hs.2
  simp at this
theorem lapp_no {l : List Lab} {s : List ByteArray} {x : Lab} : Tells false (Same l (l ++ [x]) s s) := by
  refine ⟨fun h' => Bool.noConfusion h', fun hs => ?_⟩
  have := congrArg List.length hs.1
  simp at this
theorem news1 (w : World) (t : TypeId) (a : Value) : ∀ j u, [a][j]? = some u → (w.alloc (.cells #[a] t)).cell? ((⟨w.heap.size, 0, none⟩ : Addr).add j) = some u :=
  World.news_of_block (cs := #[a]) (t := t) (fr := (0, 0)) (heap_alloc_new w _)
theorem news2 (w : World) (t : TypeId) (a b : Value) : ∀ j u, [a, b][j]? = some u → (w.alloc (.cells #[a, b] t)).cell? ((⟨w.heap.size, 0, none⟩ : Addr).add j) = some u :=
  World.news_of_block (cs := #[a, b]) (t := t) (fr := (0, 0)) (heap_alloc_new w _)

set_option maxRecDepth 100000 in
set_option maxHeartbeats 3200000 in
theorem change_walk (a0 a1 : Option Addr) (c0 c1 : Nat) (l : List Lab) (s : List ByteArray) (i : Int) (key value cond : ByteArray) (w : World) (n0 : l.length ≤ maxLen) (n1 : s.length ≤ maxLen)
    (h0 : LabsIn w a0 l) (h1 : StrsIn w a1 s) (i0 : -9223372036854775808 ≤ i) (i1 : i ≤ 9223372036854775807) :
    Calls Try.prog 4 #[.slice a0 l.length c0, .slice a1 s.length c1, .int .i64 i, .string key, .string value, .string cond] w fun e w' => e = .returned (.bool true) ∧ Below w.heap.size w w' := by
  go_enter Try.func4, Try.ntmps4
  go_wp2_with fail
  refine (bytes11_any a0 a1 c0 c1 l s i key value cond w h0 h1).mono ?_
  rintro e w ⟨⟨bb, rfl, HP⟩, rfl⟩
  cases bb
  · clear HP
    go_wp2_with fail
    go_ret
    exact ⟨rfl, Below.refl _ _⟩
  obtain ⟨z0, z1, z2, z3, z4⟩ := HP rfl
  have Z0 : Hid (LabsSmall l) := z0
  have Z1 : Hid (StrsSmall s) := z1
  clear HP z0 z1
  go_wp2_with fail
  refine (labelBytes_any _ _ l _ _ n0 h0 Z0 (by omega) (by omega)).mono ?_
  rintro e w ⟨r0, rfl, p0, q0, H0, rfl⟩
  by_cases g0 : 1048576 < r0
  · go_wp2_with fail
    go_ret
    exact ⟨rfl, Below.refl _ _⟩
  go_wp2_with fail
  refine (stringBytes_any _ _ s _ _ n1 h1 Z1 p0 (by omega)).mono ?_
  rintro e w ⟨r1, rfl, p1, q1, H1, rfl⟩
  by_cases g1 : 1048576 < r1
  · go_wp2_with fail
    go_ret
    exact ⟨rfl, Below.refl _ _⟩
  by_cases g2 : 1048576 < r1 + (key.size : Int)
  · go_wp2_with fail
    go_ret
    exact ⟨rfl, Below.refl _ _⟩
  by_cases g3 : 1048576 < r1 + (key.size : Int) + (value.size : Int)
  · go_wp2_with fail
    go_ret
    exact ⟨rfl, Below.refl _ _⟩
  by_cases g4 : 1048576 < r1 + (key.size : Int) + (value.size : Int) + (cond.size : Int)
  · go_wp2_with fail
    go_ret
    exact ⟨rfl, Below.refl _ _⟩
  have m0 : l.length ≤ 1048576 ∧ s.length ≤ 1048576 := by
    have e1 := H1.out (by omega)
    have e0 := H0.out (by omega)
    have := lsize_nn l
    have := ssize_nn s
    omega
  obtain ⟨m0, m1⟩ := m0
  clear H0 H1 q0 q1 p0 Z0 Z1 z2 z3 z4
  go_wp2_with fail
  refine (toLabels_any _ _ l _ m0 h0).mono ?_
  rintro e w0 ⟨ka, kc, rfl, own1, B1⟩
  have LK0 := labs_of_own own1
  clear own1
  go_wp2_with fail
  have KC0 : (w0.alloc (.cells #[.slice ka l.length kc, .slice a1 s.length c1] 30)).cell? ⟨w0.heap.size, 0, none⟩ = some (.slice ka l.length kc) := by simp
  have KC1 : (w0.alloc (.cells #[.slice ka l.length kc, .slice a1 s.length c1] 30)).cell? ⟨w0.heap.size, 1, none⟩ = some (.slice a1 s.length c1) := by simp
  have A1 : Below w0.heap.size w0 (w0.alloc (.cells #[.slice ka l.length kc, .slice a1 s.length c1] 30)) := (Below.refl _ _).alloc (Nat.le_refl _) _
  have LK := LK0.mono A1
  have E1 := comp B1 A1
  have HL := h0.mono E1
  have HS := h1.mono E1
  clear LK0 A1 B1
  generalize w0.alloc (.cells #[.slice ka l.length kc, .slice a1 s.length c1] 30) = w1 at *
  generalize w0.heap.size = kb at *
  refine (toLabels_any _ _ l _ m0 HL).mono ?_
  rintro e w2 ⟨oa, oc, rfl, own2, B2⟩
  go_wp2_with fail
  refine (clone_any _ _ s _ m1 (HS.mono B2)).mono ?_
  rintro e w3 ⟨pa, pc, rfl, own3, B3⟩
  have own2' := own_mono own2 B3
  have E3 := comp B2 B3
  have kbl : kb < w1.heap.size := World.block_lt_of_cell? w1 _ KC0
  clear h0 h1
  by_cases hA : 0 ≤ i ∧ i < (l.length : Int)
  · obtain ⟨hA0, hA1⟩ := hA
    obtain ⟨j, rfl⟩ : ∃ j : Nat, i = (j : Int) := ⟨i.toNat, by omega⟩
    have hj : j < l.length := by omega
    obtain ⟨x, hx⟩ := nth hj
    obtain ⟨g, cp, e, hg1, hg2⟩ := own2.form (by omega)
    simp only [Value.slice.injEq] at e
    obtain ⟨rfl, _, rfl⟩ := e
    obtain ⟨b, off, rfl, f0, f1⟩ := (HL.mono E3).at hx
    have d0 : ∃ u, w3.cell? ⟨g, j * 2, none⟩ = some u := by
      rw [own2'.cellAt (j * 2) (by omega)]
      exact ⟨_, List.getElem?_eq_getElem (by have := own2'.1; omega)⟩
    obtain ⟨u0, d0⟩ := d0
    have d1 : ∃ u, w3.cell? ⟨g, j * 2 + 1, none⟩ = some u := by
      rw [own2'.cellAt (j * 2 + 1) (by omega)]
      exact ⟨_, List.getElem?_eq_getElem (by have := own2'.1; omega)⟩
    obtain ⟨u1, d1⟩ := d1
    have d2 := own2'.frozenAt (j * 2)
    have d3 := own2'.frozenAt (j * 2 + 1)
    have T1 := ((own2'.stored (j * 2) (.string key)).1.stored (j * 2 + 1) (.string value)).1
    have T2 : ((w3.setCell ⟨g, j * 2, none⟩ (.string key)).setCell ⟨g, j * 2 + 1, none⟩ (.string value)).ownsRow w1.heap.size 38 2 (.slice (some ⟨g, 0, none⟩) l.length oc) l.length (lcells (l.set j ⟨key, value⟩)) := by
      unfold lcells
      rw [texts_set, List.map_set, List.map_set]
      exact T1
    have U5 : ((w3.setCell ⟨g, j * 2, none⟩ (.string key)).setCell ⟨g, j * 2 + 1, none⟩ (.string value)).ownsRow w2.heap.size 9 1 (.slice pa s.length pc) s.length (scells s) := ownsRow_setCell_below (ownsRow_setCell_below own3 hg2 _) hg2 _
    have E5 : Below w1.heap.size w1 ((w3.setCell ⟨g, j * 2, none⟩ (.string key)).setCell ⟨g, j * 2 + 1, none⟩ (.string value)) := (E3.setCell (by exact hg1) _).setCell (by exact hg1) _
    have LO := labs_of_own T2
    have SO := strs_of_own U5
    have LK5 := LK.mono E5
    have SK5 := HS.mono E5
    have KD0 := cell_below E3 KC0
    have KD1 := cell_below E3 KC1
    have kb3 : kb < w3.heap.size := by have := E3.size; omega
    have kbg : kb ≠ g := by omega
    have HX : Hid (l[j]? = some x) := hx
    clear T1 T2 U5 own2 own2' own3 hx
    have HXs : Hid (((w3.setCell ⟨g, j * 2, none⟩ (.string key)).setCell ⟨g, j * 2 + 1, none⟩ (.string value)).heap.size = w3.heap.size) := by show Array.size _ = _; simp
    by_cases hk : (x.k.toList == key.toList) = true
    · by_cases hv : (x.v.toList == value.toList) = true
      · skip
        go_wp2_with fail
        have AX : Below ((w3.setCell ⟨g, j * 2, none⟩ (.string key)).setCell ⟨g, j * 2 + 1, none⟩ (.string value)).heap.size ((w3.setCell ⟨g, j * 2, none⟩ (.string key)).setCell ⟨g, j * 2 + 1, none⟩ (.string value)) (((w3.setCell ⟨g, j * 2, none⟩ (.string key)).setCell ⟨g, j * 2 + 1, none⟩ (.string value)).alloc (.cells #[.slice (some ⟨g, 0, none⟩) l.length oc, .slice pa s.length pc] 30)) := (Below.refl _ _).alloc (Nat.le_refl _) _
        have XO0 : (((w3.setCell ⟨g, j * 2, none⟩ (.string key)).setCell ⟨g, j * 2 + 1, none⟩ (.string value)).alloc (.cells #[.slice (some ⟨g, 0, none⟩) l.length oc, .slice pa s.length pc] 30)).cell? ⟨w3.heap.size, 0, none⟩ = some (.slice (some ⟨g, 0, none⟩) l.length oc) := by rw [World.cell?_alloc_at _ _ _ _ HXs.out.symm]; rfl
        have XO1 : (((w3.setCell ⟨g, j * 2, none⟩ (.string key)).setCell ⟨g, j * 2 + 1, none⟩ (.string value)).alloc (.cells #[.slice (some ⟨g, 0, none⟩) l.length oc, .slice pa s.length pc] 30)).cell? ⟨w3.heap.size, 1, none⟩ = some (.slice pa s.length pc) := by rw [World.cell?_alloc_at _ _ _ _ HXs.out.symm]; rfl
        have EW := comp E5 AX
        have XK0 := cell_below EW KC0
        have XK1 := cell_below EW KC1
        have LKx := LK.mono EW
        have SKx := HS.mono EW
        have LOx := LO.mono AX
        have SOx := SO.mono AX
        have EF := comp E1 EW
        have HQ : Tells true (Same l (l.set j ⟨key, value⟩) s s) := by exact set_yes HX.out (eq_of_toList hk) (eq_of_toList hv)
        clear AX EW E5 LO SO HXs LK5 SK5 KD0 KD1 HX hk d0 d1 d2 d3 f0 f1 HL hv
        generalize (((w3.setCell ⟨g, j * 2, none⟩ (.string key)).setCell ⟨g, j * 2 + 1, none⟩ (.string value)).alloc (.cells #[.slice (some ⟨g, 0, none⟩) l.length oc, .slice pa s.length pc] 30)) = W at *
        refine (equal_any ka a1 ka a1 kc c1 kc c1 _ _ _ _ l l s s W n0 n1 LKx SKx LKx SKx rfl rfl rfl rfl).mono ?_
        rintro e w6 ⟨⟨b1, rfl, q1⟩, B6⟩
        obtain rfl : b1 = true := q1.2 ⟨rfl, rfl⟩
        have YO0 := cell_below B6 XO0
        have YO1 := cell_below B6 XO1
        go_wp2_with fail
        refine (equal_any (some ⟨g, 0, none⟩) pa (some ⟨g, 0, none⟩) pa oc pc oc pc (l.length) (s.length) (l.length) (s.length) (l.set j ⟨key, value⟩) (l.set j ⟨key, value⟩) s s w6 (by unfold maxLen; omega) (by unfold maxLen; omega) (LOx.mono B6) (SOx.mono B6) (LOx.mono B6) (SOx.mono B6) (by simp) rfl (by simp) rfl).mono ?_
        rintro e w7 ⟨⟨b2, rfl, q2⟩, B7⟩
        obtain rfl : b2 = true := q2.2 ⟨rfl, rfl⟩
        have ZO0 := cell_below B7 YO0
        have ZO1 := cell_below B7 YO1
        have C7 := comp B6 B7
        have ZK0 := cell_below C7 XK0
        have ZK1 := cell_below C7 XK1
        go_wp2_with fail
        refine (equal_any ka a1 (some ⟨g, 0, none⟩) pa kc c1 oc pc l.length s.length (l.length) (s.length) l (l.set j ⟨key, value⟩) s s w7 n0 n1 (LKx.mono C7) (SKx.mono C7) (LOx.mono C7) (SOx.mono C7) rfl rfl (by simp) rfl).mono ?_
        rintro e w8 ⟨⟨b3, rfl, q3⟩, B8⟩
        obtain rfl : b3 = true := Bool.eq_iff_iff.2 (q3.trans HQ.out.symm)
        have VO0 := cell_below B8 ZO0
        have VO1 := cell_below B8 ZO1
        have VK0 := cell_below B8 ZK0
        have VK1 := cell_below B8 ZK1
        have C8 := comp C7 B8
        have qb := eql_bool
        go_wp2_with fail
        refine (equal_any (some ⟨g, 0, none⟩) pa ka a1 oc pc kc c1 (l.length) (s.length) l.length s.length (l.set j ⟨key, value⟩) l s s w8 (by unfold maxLen; omega) (by unfold maxLen; omega) (LOx.mono C8) (SOx.mono C8) (LKx.mono C8) (SKx.mono C8) (by simp) rfl rfl rfl).mono ?_
        rintro e w9 ⟨⟨b4, rfl, q4⟩, B9⟩
        obtain rfl : b4 = true := Bool.eq_iff_iff.2 ((q4.trans same_comm).trans HQ.out.symm)
        go_wp2_with fail
        go_ret
        exact ⟨rfl, comp EF (comp C8 B9)⟩
      · have hv : (x.v.toList == value.toList) = false := by simpa using hv
        go_wp2_with fail
        have AX : Below ((w3.setCell ⟨g, j * 2, none⟩ (.string key)).setCell ⟨g, j * 2 + 1, none⟩ (.string value)).heap.size ((w3.setCell ⟨g, j * 2, none⟩ (.string key)).setCell ⟨g, j * 2 + 1, none⟩ (.string value)) (((w3.setCell ⟨g, j * 2, none⟩ (.string key)).setCell ⟨g, j * 2 + 1, none⟩ (.string value)).alloc (.cells #[.slice (some ⟨g, 0, none⟩) l.length oc, .slice pa s.length pc] 30)) := (Below.refl _ _).alloc (Nat.le_refl _) _
        have XO0 : (((w3.setCell ⟨g, j * 2, none⟩ (.string key)).setCell ⟨g, j * 2 + 1, none⟩ (.string value)).alloc (.cells #[.slice (some ⟨g, 0, none⟩) l.length oc, .slice pa s.length pc] 30)).cell? ⟨w3.heap.size, 0, none⟩ = some (.slice (some ⟨g, 0, none⟩) l.length oc) := by rw [World.cell?_alloc_at _ _ _ _ HXs.out.symm]; rfl
        have XO1 : (((w3.setCell ⟨g, j * 2, none⟩ (.string key)).setCell ⟨g, j * 2 + 1, none⟩ (.string value)).alloc (.cells #[.slice (some ⟨g, 0, none⟩) l.length oc, .slice pa s.length pc] 30)).cell? ⟨w3.heap.size, 1, none⟩ = some (.slice pa s.length pc) := by rw [World.cell?_alloc_at _ _ _ _ HXs.out.symm]; rfl
        have EW := comp E5 AX
        have XK0 := cell_below EW KC0
        have XK1 := cell_below EW KC1
        have LKx := LK.mono EW
        have SKx := HS.mono EW
        have LOx := LO.mono AX
        have SOx := SO.mono AX
        have EF := comp E1 EW
        have HQ : Tells false (Same l (l.set j ⟨key, value⟩) s s) := by exact set_no HX.out (fun e => ne_of_toList hv (by rw [e]))
        clear AX EW E5 LO SO HXs LK5 SK5 KD0 KD1 HX hk d0 d1 d2 d3 f0 f1 HL hv
        generalize (((w3.setCell ⟨g, j * 2, none⟩ (.string key)).setCell ⟨g, j * 2 + 1, none⟩ (.string value)).alloc (.cells #[.slice (some ⟨g, 0, none⟩) l.length oc, .slice pa s.length pc] 30)) = W at *
        refine (equal_any ka a1 ka a1 kc c1 kc c1 _ _ _ _ l l s s W n0 n1 LKx SKx LKx SKx rfl rfl rfl rfl).mono ?_
        rintro e w6 ⟨⟨b1, rfl, q1⟩, B6⟩
        obtain rfl : b1 = true := q1.2 ⟨rfl, rfl⟩
        have YO0 := cell_below B6 XO0
        have YO1 := cell_below B6 XO1
        go_wp2_with fail
        refine (equal_any (some ⟨g, 0, none⟩) pa (some ⟨g, 0, none⟩) pa oc pc oc pc (l.length) (s.length) (l.length) (s.length) (l.set j ⟨key, value⟩) (l.set j ⟨key, value⟩) s s w6 (by unfold maxLen; omega) (by unfold maxLen; omega) (LOx.mono B6) (SOx.mono B6) (LOx.mono B6) (SOx.mono B6) (by simp) rfl (by simp) rfl).mono ?_
        rintro e w7 ⟨⟨b2, rfl, q2⟩, B7⟩
        obtain rfl : b2 = true := q2.2 ⟨rfl, rfl⟩
        have ZO0 := cell_below B7 YO0
        have ZO1 := cell_below B7 YO1
        have C7 := comp B6 B7
        have ZK0 := cell_below C7 XK0
        have ZK1 := cell_below C7 XK1
        go_wp2_with fail
        refine (equal_any ka a1 (some ⟨g, 0, none⟩) pa kc c1 oc pc l.length s.length (l.length) (s.length) l (l.set j ⟨key, value⟩) s s w7 n0 n1 (LKx.mono C7) (SKx.mono C7) (LOx.mono C7) (SOx.mono C7) rfl rfl (by simp) rfl).mono ?_
        rintro e w8 ⟨⟨b3, rfl, q3⟩, B8⟩
        obtain rfl : b3 = false := Bool.eq_iff_iff.2 (q3.trans HQ.out.symm)
        have VO0 := cell_below B8 ZO0
        have VO1 := cell_below B8 ZO1
        have VK0 := cell_below B8 ZK0
        have VK1 := cell_below B8 ZK1
        have C8 := comp C7 B8
        have qb := eql_bool
        go_wp2_with fail
        refine (equal_any (some ⟨g, 0, none⟩) pa ka a1 oc pc kc c1 (l.length) (s.length) l.length s.length (l.set j ⟨key, value⟩) l s s w8 (by unfold maxLen; omega) (by unfold maxLen; omega) (LOx.mono C8) (SOx.mono C8) (LKx.mono C8) (SKx.mono C8) (by simp) rfl rfl rfl).mono ?_
        rintro e w9 ⟨⟨b4, rfl, q4⟩, B9⟩
        obtain rfl : b4 = false := Bool.eq_iff_iff.2 ((q4.trans same_comm).trans HQ.out.symm)
        go_wp2_with fail
        go_ret
        exact ⟨rfl, comp EF (comp C8 B9)⟩
    · have hk : (x.k.toList == key.toList) = false := by simpa using hk
      go_wp2_with fail
      have AX : Below ((w3.setCell ⟨g, j * 2, none⟩ (.string key)).setCell ⟨g, j * 2 + 1, none⟩ (.string value)).heap.size ((w3.setCell ⟨g, j * 2, none⟩ (.string key)).setCell ⟨g, j * 2 + 1, none⟩ (.string value)) (((w3.setCell ⟨g, j * 2, none⟩ (.string key)).setCell ⟨g, j * 2 + 1, none⟩ (.string value)).alloc (.cells #[.slice (some ⟨g, 0, none⟩) l.length oc, .slice pa s.length pc] 30)) := (Below.refl _ _).alloc (Nat.le_refl _) _
      have XO0 : (((w3.setCell ⟨g, j * 2, none⟩ (.string key)).setCell ⟨g, j * 2 + 1, none⟩ (.string value)).alloc (.cells #[.slice (some ⟨g, 0, none⟩) l.length oc, .slice pa s.length pc] 30)).cell? ⟨w3.heap.size, 0, none⟩ = some (.slice (some ⟨g, 0, none⟩) l.length oc) := by rw [World.cell?_alloc_at _ _ _ _ HXs.out.symm]; rfl
      have XO1 : (((w3.setCell ⟨g, j * 2, none⟩ (.string key)).setCell ⟨g, j * 2 + 1, none⟩ (.string value)).alloc (.cells #[.slice (some ⟨g, 0, none⟩) l.length oc, .slice pa s.length pc] 30)).cell? ⟨w3.heap.size, 1, none⟩ = some (.slice pa s.length pc) := by rw [World.cell?_alloc_at _ _ _ _ HXs.out.symm]; rfl
      have EW := comp E5 AX
      have XK0 := cell_below EW KC0
      have XK1 := cell_below EW KC1
      have LKx := LK.mono EW
      have SKx := HS.mono EW
      have LOx := LO.mono AX
      have SOx := SO.mono AX
      have EF := comp E1 EW
      have HQ : Tells false (Same l (l.set j ⟨key, value⟩) s s) := by exact set_no HX.out (fun e => ne_of_toList hk (by rw [e]))
      clear AX EW E5 LO SO HXs LK5 SK5 KD0 KD1 HX hk d0 d1 d2 d3 f0 f1 HL
      generalize (((w3.setCell ⟨g, j * 2, none⟩ (.string key)).setCell ⟨g, j * 2 + 1, none⟩ (.string value)).alloc (.cells #[.slice (some ⟨g, 0, none⟩) l.length oc, .slice pa s.length pc] 30)) = W at *
      refine (equal_any ka a1 ka a1 kc c1 kc c1 _ _ _ _ l l s s W n0 n1 LKx SKx LKx SKx rfl rfl rfl rfl).mono ?_
      rintro e w6 ⟨⟨b1, rfl, q1⟩, B6⟩
      obtain rfl : b1 = true := q1.2 ⟨rfl, rfl⟩
      have YO0 := cell_below B6 XO0
      have YO1 := cell_below B6 XO1
      go_wp2_with fail
      refine (equal_any (some ⟨g, 0, none⟩) pa (some ⟨g, 0, none⟩) pa oc pc oc pc (l.length) (s.length) (l.length) (s.length) (l.set j ⟨key, value⟩) (l.set j ⟨key, value⟩) s s w6 (by unfold maxLen; omega) (by unfold maxLen; omega) (LOx.mono B6) (SOx.mono B6) (LOx.mono B6) (SOx.mono B6) (by simp) rfl (by simp) rfl).mono ?_
      rintro e w7 ⟨⟨b2, rfl, q2⟩, B7⟩
      obtain rfl : b2 = true := q2.2 ⟨rfl, rfl⟩
      have ZO0 := cell_below B7 YO0
      have ZO1 := cell_below B7 YO1
      have C7 := comp B6 B7
      have ZK0 := cell_below C7 XK0
      have ZK1 := cell_below C7 XK1
      go_wp2_with fail
      refine (equal_any ka a1 (some ⟨g, 0, none⟩) pa kc c1 oc pc l.length s.length (l.length) (s.length) l (l.set j ⟨key, value⟩) s s w7 n0 n1 (LKx.mono C7) (SKx.mono C7) (LOx.mono C7) (SOx.mono C7) rfl rfl (by simp) rfl).mono ?_
      rintro e w8 ⟨⟨b3, rfl, q3⟩, B8⟩
      obtain rfl : b3 = false := Bool.eq_iff_iff.2 (q3.trans HQ.out.symm)
      have VO0 := cell_below B8 ZO0
      have VO1 := cell_below B8 ZO1
      have VK0 := cell_below B8 ZK0
      have VK1 := cell_below B8 ZK1
      have C8 := comp C7 B8
      have qb := eql_bool
      go_wp2_with fail
      refine (equal_any (some ⟨g, 0, none⟩) pa ka a1 oc pc kc c1 (l.length) (s.length) l.length s.length (l.set j ⟨key, value⟩) l s s w8 (by unfold maxLen; omega) (by unfold maxLen; omega) (LOx.mono C8) (SOx.mono C8) (LKx.mono C8) (SKx.mono C8) (by simp) rfl rfl rfl).mono ?_
      rintro e w9 ⟨⟨b4, rfl, q4⟩, B9⟩
      obtain rfl : b4 = false := Bool.eq_iff_iff.2 ((q4.trans same_comm).trans HQ.out.symm)
      go_wp2_with fail
      go_ret
      exact ⟨rfl, comp EF (comp C8 B9)⟩
  · by_cases hB : (l.length : Int) ≤ i ∧ i - (l.length : Int) < (s.length : Int)
    · obtain ⟨hB0, hB1⟩ := hB
      obtain ⟨j, rfl⟩ : ∃ j : Nat, i = (l.length : Int) + (j : Int) := ⟨(i - (l.length : Int)).toNat, by omega⟩
      have hj : j < s.length := by omega
      have hA' : ¬ ((l.length : Int) + (j : Int) < (l.length : Int)) := by omega
      clear hA
      obtain ⟨x, hx⟩ := nth hj
      obtain ⟨g, cp, e, hg1, hg2⟩ := own3.form (by omega)
      simp only [Value.slice.injEq] at e
      obtain ⟨rfl, _, rfl⟩ := e
      obtain ⟨b, off, rfl, f0⟩ := (HS.mono E3).at hx
      have d0 : ∃ u, w3.cell? ⟨g, j, none⟩ = some u := by
        rw [own3.cellAt j (by omega)]
        exact ⟨_, List.getElem?_eq_getElem (by have := own3.1; omega)⟩
      obtain ⟨u0, d0⟩ := d0
      have d2 := own3.frozenAt j
      have T1 := (own3.stored j (.string cond)).1
      have T2 : (w3.setCell ⟨g, j, none⟩ (.string cond)).ownsRow w2.heap.size 9 1 (.slice (some ⟨g, 0, none⟩) s.length pc) s.length (scells (s.set j cond)) := by
        unfold scells
        rw [List.map_set]
        exact T1
      have hw12 := B2.size
      have F5 : Below w2.heap.size w2 (w3.setCell ⟨g, j, none⟩ (.string cond)) := B3.setCell (by exact hg1) _
      have E5 : Below w1.heap.size w1 (w3.setCell ⟨g, j, none⟩ (.string cond)) := E3.setCell (p := ⟨g, j, none⟩) (by show _ ≤ g; omega) _
      have LO := (labs_of_own own2).mono F5
      have SO := strs_of_own T2
      have KD0 := cell_below E3 KC0
      have KD1 := cell_below E3 KC1
      have kb3 : kb < w3.heap.size := by have := E3.size; omega
      have kbg : kb ≠ g := by omega
      have HX : Hid (s[j]? = some x) := hx
      have HXs : Hid ((w3.setCell ⟨g, j, none⟩ (.string cond)).heap.size = w3.heap.size) := by show Array.size _ = _; simp
      clear T1 T2 F5 own2 own2' own3 hx
      by_cases hk : (x.toList == cond.toList) = true
      · skip
        go_wp2_with fail
        have AX : Below (w3.setCell ⟨g, j, none⟩ (.string cond)).heap.size (w3.setCell ⟨g, j, none⟩ (.string cond)) ((w3.setCell ⟨g, j, none⟩ (.string cond)).alloc (.cells #[.slice oa l.length oc, .slice (some ⟨g, 0, none⟩) s.length pc] 30)) := (Below.refl _ _).alloc (Nat.le_refl _) _
        have XO0 : ((w3.setCell ⟨g, j, none⟩ (.string cond)).alloc (.cells #[.slice oa l.length oc, .slice (some ⟨g, 0, none⟩) s.length pc] 30)).cell? ⟨w3.heap.size, 0, none⟩ = some (.slice oa l.length oc) := by rw [World.cell?_alloc_at _ _ _ _ HXs.out.symm]; rfl
        have XO1 : ((w3.setCell ⟨g, j, none⟩ (.string cond)).alloc (.cells #[.slice oa l.length oc, .slice (some ⟨g, 0, none⟩) s.length pc] 30)).cell? ⟨w3.heap.size, 1, none⟩ = some (.slice (some ⟨g, 0, none⟩) s.length pc) := by rw [World.cell?_alloc_at _ _ _ _ HXs.out.symm]; rfl
        have EW := comp E5 AX
        have XK0 := cell_below EW KC0
        have XK1 := cell_below EW KC1
        have LKx := LK.mono EW
        have SKx := HS.mono EW
        have LOx := LO.mono AX
        have SOx := SO.mono AX
        have EF := comp E1 EW
        have HQ : Tells true (Same l l s (s.set j cond)) := by exact sset_yes HX.out (eq_of_toList hk)
        clear AX EW E5 LO SO HXs KD0 KD1 HX hk d0 d2 f0 HL
        generalize ((w3.setCell ⟨g, j, none⟩ (.string cond)).alloc (.cells #[.slice oa l.length oc, .slice (some ⟨g, 0, none⟩) s.length pc] 30)) = W at *
        refine (equal_any ka _ ka _ kc c1 kc c1 _ _ _ _ l l s s W n0 n1 LKx SKx LKx SKx rfl rfl rfl rfl).mono ?_
        rintro e w6 ⟨⟨b1, rfl, q1⟩, B6⟩
        obtain rfl : b1 = true := q1.2 ⟨rfl, rfl⟩
        have YO0 := cell_below B6 XO0
        have YO1 := cell_below B6 XO1
        go_wp2_with fail
        refine (equal_any oa (some ⟨g, 0, none⟩) oa (some ⟨g, 0, none⟩) oc pc oc pc (l.length) (s.length) (l.length) (s.length) l l (s.set j cond) (s.set j cond) w6 (by unfold maxLen; omega) (by unfold maxLen; omega) (LOx.mono B6) (SOx.mono B6) (LOx.mono B6) (SOx.mono B6) rfl (by simp) rfl (by simp)).mono ?_
        rintro e w7 ⟨⟨b2, rfl, q2⟩, B7⟩
        obtain rfl : b2 = true := q2.2 ⟨rfl, rfl⟩
        have ZO0 := cell_below B7 YO0
        have ZO1 := cell_below B7 YO1
        have C7 := comp B6 B7
        have ZK0 := cell_below C7 XK0
        have ZK1 := cell_below C7 XK1
        go_wp2_with fail
        refine (equal_any ka _ oa (some ⟨g, 0, none⟩) kc c1 oc pc l.length s.length (l.length) (s.length) l l s (s.set j cond) w7 n0 n1 (LKx.mono C7) (SKx.mono C7) (LOx.mono C7) (SOx.mono C7) rfl rfl rfl (by simp)).mono ?_
        rintro e w8 ⟨⟨b3, rfl, q3⟩, B8⟩
        obtain rfl : b3 = true := Bool.eq_iff_iff.2 (q3.trans HQ.out.symm)
        have VO0 := cell_below B8 ZO0
        have VO1 := cell_below B8 ZO1
        have VK0 := cell_below B8 ZK0
        have VK1 := cell_below B8 ZK1
        have C8 := comp C7 B8
        have qb := eql_bool
        go_wp2_with fail
        refine (equal_any oa (some ⟨g, 0, none⟩) ka _ oc pc kc c1 (l.length) (s.length) l.length s.length l l (s.set j cond) s w8 (by unfold maxLen; omega) (by unfold maxLen; omega) (LOx.mono C8) (SOx.mono C8) (LKx.mono C8) (SKx.mono C8) rfl (by simp) rfl rfl).mono ?_
        rintro e w9 ⟨⟨b4, rfl, q4⟩, B9⟩
        obtain rfl : b4 = true := Bool.eq_iff_iff.2 ((q4.trans same_comm).trans HQ.out.symm)
        go_wp2_with fail
        go_ret
        exact ⟨rfl, comp EF (comp C8 B9)⟩
      · have hk : (x.toList == cond.toList) = false := by simpa using hk
        go_wp2_with fail
        have AX : Below (w3.setCell ⟨g, j, none⟩ (.string cond)).heap.size (w3.setCell ⟨g, j, none⟩ (.string cond)) ((w3.setCell ⟨g, j, none⟩ (.string cond)).alloc (.cells #[.slice oa l.length oc, .slice (some ⟨g, 0, none⟩) s.length pc] 30)) := (Below.refl _ _).alloc (Nat.le_refl _) _
        have XO0 : ((w3.setCell ⟨g, j, none⟩ (.string cond)).alloc (.cells #[.slice oa l.length oc, .slice (some ⟨g, 0, none⟩) s.length pc] 30)).cell? ⟨w3.heap.size, 0, none⟩ = some (.slice oa l.length oc) := by rw [World.cell?_alloc_at _ _ _ _ HXs.out.symm]; rfl
        have XO1 : ((w3.setCell ⟨g, j, none⟩ (.string cond)).alloc (.cells #[.slice oa l.length oc, .slice (some ⟨g, 0, none⟩) s.length pc] 30)).cell? ⟨w3.heap.size, 1, none⟩ = some (.slice (some ⟨g, 0, none⟩) s.length pc) := by rw [World.cell?_alloc_at _ _ _ _ HXs.out.symm]; rfl
        have EW := comp E5 AX
        have XK0 := cell_below EW KC0
        have XK1 := cell_below EW KC1
        have LKx := LK.mono EW
        have SKx := HS.mono EW
        have LOx := LO.mono AX
        have SOx := SO.mono AX
        have EF := comp E1 EW
        have HQ : Tells false (Same l l s (s.set j cond)) := by exact sset_no HX.out (ne_of_toList hk)
        clear AX EW E5 LO SO HXs KD0 KD1 HX hk d0 d2 f0 HL
        generalize ((w3.setCell ⟨g, j, none⟩ (.string cond)).alloc (.cells #[.slice oa l.length oc, .slice (some ⟨g, 0, none⟩) s.length pc] 30)) = W at *
        refine (equal_any ka _ ka _ kc c1 kc c1 _ _ _ _ l l s s W n0 n1 LKx SKx LKx SKx rfl rfl rfl rfl).mono ?_
        rintro e w6 ⟨⟨b1, rfl, q1⟩, B6⟩
        obtain rfl : b1 = true := q1.2 ⟨rfl, rfl⟩
        have YO0 := cell_below B6 XO0
        have YO1 := cell_below B6 XO1
        go_wp2_with fail
        refine (equal_any oa (some ⟨g, 0, none⟩) oa (some ⟨g, 0, none⟩) oc pc oc pc (l.length) (s.length) (l.length) (s.length) l l (s.set j cond) (s.set j cond) w6 (by unfold maxLen; omega) (by unfold maxLen; omega) (LOx.mono B6) (SOx.mono B6) (LOx.mono B6) (SOx.mono B6) rfl (by simp) rfl (by simp)).mono ?_
        rintro e w7 ⟨⟨b2, rfl, q2⟩, B7⟩
        obtain rfl : b2 = true := q2.2 ⟨rfl, rfl⟩
        have ZO0 := cell_below B7 YO0
        have ZO1 := cell_below B7 YO1
        have C7 := comp B6 B7
        have ZK0 := cell_below C7 XK0
        have ZK1 := cell_below C7 XK1
        go_wp2_with fail
        refine (equal_any ka _ oa (some ⟨g, 0, none⟩) kc c1 oc pc l.length s.length (l.length) (s.length) l l s (s.set j cond) w7 n0 n1 (LKx.mono C7) (SKx.mono C7) (LOx.mono C7) (SOx.mono C7) rfl rfl rfl (by simp)).mono ?_
        rintro e w8 ⟨⟨b3, rfl, q3⟩, B8⟩
        obtain rfl : b3 = false := Bool.eq_iff_iff.2 (q3.trans HQ.out.symm)
        have VO0 := cell_below B8 ZO0
        have VO1 := cell_below B8 ZO1
        have VK0 := cell_below B8 ZK0
        have VK1 := cell_below B8 ZK1
        have C8 := comp C7 B8
        have qb := eql_bool
        go_wp2_with fail
        refine (equal_any oa (some ⟨g, 0, none⟩) ka _ oc pc kc c1 (l.length) (s.length) l.length s.length l l (s.set j cond) s w8 (by unfold maxLen; omega) (by unfold maxLen; omega) (LOx.mono C8) (SOx.mono C8) (LKx.mono C8) (SKx.mono C8) rfl (by simp) rfl rfl).mono ?_
        rintro e w9 ⟨⟨b4, rfl, q4⟩, B9⟩
        obtain rfl : b4 = false := Bool.eq_iff_iff.2 ((q4.trans same_comm).trans HQ.out.symm)
        go_wp2_with fail
        go_ret
        exact ⟨rfl, comp EF (comp C8 B9)⟩
    · by_cases hC : i < 0
      · clear hA hB
        obtain ⟨i9, hi9, hz0, hz1, hz2⟩ := info_parts Try.info9
        have hw12 := B2.size
        have hw23 := B3.size
        have O3 := own3.lt
        have KD0 := cell_below E3 KC0
        have KD1 := cell_below E3 KC1
        go_wp2_with (at_builtin; refine wpList_append_lies _ rfl (.tmp 123) (.tmp 125) 23 rfl w2.heap.size 9 i9 (.string ByteArray.empty) 1 16 Try.underlying23 hi9 hz0 hz1 hz2 rfl (by omega) (.slice pa s.length pc) s.length (scells s) rfl (own3.alloc _) ⟨w3.heap.size, 0, none⟩ 1 1 [.string cond] rfl rfl (news1 _ _ _) (by simp [Value.oneCell']) (by omega) (by unfold maxLen; omega) (by omega) (by simp; omega) (w3.heap.size + 1) (by simp) ?_; intro gg cap w4 own4 hgrow hat hlt; have F5 : Below w2.heap.size w2 w4 := (B3.alloc hw23 _).grown hgrow (by simp; omega) (fun q hq => (O3 q hq).1); have E5 : Below w1.heap.size w1 w4 := comp B2 F5; have kb4 : kb < w4.heap.size := Nat.lt_of_lt_of_le kbl E5.size; have KE0 := cell_below E5 KC0; have KE1 := cell_below E5 KC1)
        have LO := (labs_of_own own2).mono F5
        have SO : StrsIn w4 (some ⟨gg, 0, none⟩) (s ++ [cond]) := strs_of_own (by unfold scells at own4 ⊢; rw [List.map_append]; exact own4)
        clear own2 own2' own3 own4 hgrow hat hlt F5 O3 hi9 hz0 hz1 hz2 KD0 KD1
        go_wp2_with fail
        have AX : Below w4.heap.size w4 (w4.alloc (.cells #[.slice oa l.length oc, .slice (some ⟨gg, 0, none⟩) (s.length + 1) cap] 30)) := (Below.refl _ _).alloc (Nat.le_refl _) _
        have XO0 : (w4.alloc (.cells #[.slice oa l.length oc, .slice (some ⟨gg, 0, none⟩) (s.length + 1) cap] 30)).cell? ⟨w4.heap.size, 0, none⟩ = some (.slice oa l.length oc) := by rw [World.cell?_alloc_at _ _ _ _ rfl]; rfl
        have XO1 : (w4.alloc (.cells #[.slice oa l.length oc, .slice (some ⟨gg, 0, none⟩) (s.length + 1) cap] 30)).cell? ⟨w4.heap.size, 1, none⟩ = some (.slice (some ⟨gg, 0, none⟩) (s.length + 1) cap) := by rw [World.cell?_alloc_at _ _ _ _ rfl]; rfl
        have EW := comp E5 AX
        have XK0 := cell_below EW KC0
        have XK1 := cell_below EW KC1
        have LKx := LK.mono EW
        have SKx := HS.mono EW
        have LOx := LO.mono AX
        have SOx := SO.mono AX
        have EF := comp E1 EW
        have HQ : Tells false (Same l l s (s ++ [cond])) := by exact sapp_no
        clear AX EW E5 LO SO KE0 KE1 HL
        generalize (w4.alloc (.cells #[.slice oa l.length oc, .slice (some ⟨gg, 0, none⟩) (s.length + 1) cap] 30)) = W at *
        refine (equal_any ka a1 ka a1 kc c1 kc c1 _ _ _ _ l l s s W n0 n1 LKx SKx LKx SKx rfl rfl rfl rfl).mono ?_
        rintro e w6 ⟨⟨b1, rfl, q1⟩, B6⟩
        obtain rfl : b1 = true := q1.2 ⟨rfl, rfl⟩
        have YO0 := cell_below B6 XO0
        have YO1 := cell_below B6 XO1
        go_wp2_with fail
        refine (equal_any oa (some ⟨gg, 0, none⟩) oa (some ⟨gg, 0, none⟩) oc cap oc cap (l.length) ((s.length + 1)) (l.length) ((s.length + 1)) l l (s ++ [cond]) (s ++ [cond]) w6 (by unfold maxLen; omega) (by unfold maxLen; omega) (LOx.mono B6) (SOx.mono B6) (LOx.mono B6) (SOx.mono B6) rfl (by simp) rfl (by simp)).mono ?_
        rintro e w7 ⟨⟨b2, rfl, q2⟩, B7⟩
        obtain rfl : b2 = true := q2.2 ⟨rfl, rfl⟩
        have ZO0 := cell_below B7 YO0
        have ZO1 := cell_below B7 YO1
        have C7 := comp B6 B7
        have ZK0 := cell_below C7 XK0
        have ZK1 := cell_below C7 XK1
        go_wp2_with fail
        refine (equal_any ka a1 oa (some ⟨gg, 0, none⟩) kc c1 oc cap l.length s.length (l.length) ((s.length + 1)) l l s (s ++ [cond]) w7 n0 n1 (LKx.mono C7) (SKx.mono C7) (LOx.mono C7) (SOx.mono C7) rfl rfl rfl (by simp)).mono ?_
        rintro e w8 ⟨⟨b3, rfl, q3⟩, B8⟩
        obtain rfl : b3 = false := Bool.eq_iff_iff.2 (q3.trans HQ.out.symm)
        have VO0 := cell_below B8 ZO0
        have VO1 := cell_below B8 ZO1
        have VK0 := cell_below B8 ZK0
        have VK1 := cell_below B8 ZK1
        have C8 := comp C7 B8
        have qb := eql_bool
        go_wp2_with fail
        refine (equal_any oa (some ⟨gg, 0, none⟩) ka a1 oc cap kc c1 (l.length) ((s.length + 1)) l.length s.length l l (s ++ [cond]) s w8 (by unfold maxLen; omega) (by unfold maxLen; omega) (LOx.mono C8) (SOx.mono C8) (LKx.mono C8) (SKx.mono C8) rfl (by simp) rfl rfl).mono ?_
        rintro e w9 ⟨⟨b4, rfl, q4⟩, B9⟩
        obtain rfl : b4 = false := Bool.eq_iff_iff.2 ((q4.trans same_comm).trans HQ.out.symm)
        go_wp2_with fail
        go_ret
        exact ⟨rfl, comp EF (comp C8 B9)⟩
      · have hD : (l.length : Int) ≤ i := by omega
        have hD' : ¬ (i - (l.length : Int) < (s.length : Int)) := by omega
        have hD2 : ¬ (i < (l.length : Int)) := by omega
        have hD3 : (0 : Int) ≤ i := by omega
        clear hA hB
        obtain ⟨i38, hi38, hz0, hz1, hz2⟩ := info_parts Try.info38
        have hw12 := B2.size
        have hw23 := B3.size
        have O2 := own2.lt
        have O3 := own3.lt
        go_wp2_with (at_builtin; refine wpList_append_lies _ rfl (.tmp 127) (.tmp 131) 27 rfl w1.heap.size 38 i38 _ 2 32 Try.underlying27 hi38 hz0 hz1 hz2 rfl (by omega) (.slice oa l.length oc) l.length (lcells l) rfl (own2'.alloc _) ⟨w3.heap.size, 0, none⟩ 1 1 [.string key, .string value] rfl rfl (news2 _ _ _ _) (by simp [Value.oneCell']) (by omega) (by unfold maxLen; omega) (by omega) (by simp; omega) (w3.heap.size + 1) (by simp) ?_; intro gg cap w4 own4 hgrow hat hlt; have E5 : Below w1.heap.size w1 w4 := (E3.alloc E3.size _).grown hgrow (by simp; omega) (fun q hq => (O2 q hq).1); have kb4 : kb < w4.heap.size := Nat.lt_of_lt_of_le kbl E5.size; have KE0 := cell_below E5 KC0; have KE1 := cell_below E5 KC1)
        have LO : LabsIn w4 (some ⟨gg, 0, none⟩) (l ++ [⟨key, value⟩]) := labs_of_own (by unfold lcells at own4 ⊢; rw [texts_append, List.map_append]; exact own4)
        have SO : StrsIn w4 pa s := strs_of_own ((own3.alloc _).kept hgrow (by
          rcases h3 : (Value.slice pa s.length pc).ownBlock with _ | q
          · exact .inl rfl
          · right
            intro e
            have := (O2 q e.symm).2
            have := (O3 q h3).1
            omega))
        clear own2 own2' own3 own4 hgrow hat hlt O2 O3 hi38 hz0 hz1 hz2
        go_wp2_with fail
        have AX : Below w4.heap.size w4 (w4.alloc (.cells #[.slice (some ⟨gg, 0, none⟩) (l.length + 1) cap, .slice pa s.length pc] 30)) := (Below.refl _ _).alloc (Nat.le_refl _) _
        have XO0 : (w4.alloc (.cells #[.slice (some ⟨gg, 0, none⟩) (l.length + 1) cap, .slice pa s.length pc] 30)).cell? ⟨w4.heap.size, 0, none⟩ = some (.slice (some ⟨gg, 0, none⟩) (l.length + 1) cap) := by rw [World.cell?_alloc_at _ _ _ _ rfl]; rfl
        have XO1 : (w4.alloc (.cells #[.slice (some ⟨gg, 0, none⟩) (l.length + 1) cap, .slice pa s.length pc] 30)).cell? ⟨w4.heap.size, 1, none⟩ = some (.slice pa s.length pc) := by rw [World.cell?_alloc_at _ _ _ _ rfl]; rfl
        have EW := comp E5 AX
        have XK0 := cell_below EW KC0
        have XK1 := cell_below EW KC1
        have LKx := LK.mono EW
        have SKx := HS.mono EW
        have LOx := LO.mono AX
        have SOx := SO.mono AX
        have EF := comp E1 EW
        have HQ : Tells false (Same l (l ++ [⟨key, value⟩]) s s) := by exact lapp_no
        clear AX EW E5 LO SO KE0 KE1 HL
        generalize (w4.alloc (.cells #[.slice (some ⟨gg, 0, none⟩) (l.length + 1) cap, .slice pa s.length pc] 30)) = W at *
        refine (equal_any ka a1 ka a1 kc c1 kc c1 _ _ _ _ l l s s W n0 n1 LKx SKx LKx SKx rfl rfl rfl rfl).mono ?_
        rintro e w6 ⟨⟨b1, rfl, q1⟩, B6⟩
        obtain rfl : b1 = true := q1.2 ⟨rfl, rfl⟩
        have YO0 := cell_below B6 XO0
        have YO1 := cell_below B6 XO1
        go_wp2_with fail
        refine (equal_any (some ⟨gg, 0, none⟩) pa (some ⟨gg, 0, none⟩) pa cap pc cap pc ((l.length + 1)) (s.length) ((l.length + 1)) (s.length) (l ++ [⟨key, value⟩]) (l ++ [⟨key, value⟩]) s s w6 (by unfold maxLen; omega) (by unfold maxLen; omega) (LOx.mono B6) (SOx.mono B6) (LOx.mono B6) (SOx.mono B6) (by simp) rfl (by simp) rfl).mono ?_
        rintro e w7 ⟨⟨b2, rfl, q2⟩, B7⟩
        obtain rfl : b2 = true := q2.2 ⟨rfl, rfl⟩
        have ZO0 := cell_below B7 YO0
        have ZO1 := cell_below B7 YO1
        have C7 := comp B6 B7
        have ZK0 := cell_below C7 XK0
        have ZK1 := cell_below C7 XK1
        go_wp2_with fail
        refine (equal_any ka a1 (some ⟨gg, 0, none⟩) pa kc c1 cap pc l.length s.length ((l.length + 1)) (s.length) l (l ++ [⟨key, value⟩]) s s w7 n0 n1 (LKx.mono C7) (SKx.mono C7) (LOx.mono C7) (SOx.mono C7) rfl rfl (by simp) rfl).mono ?_
        rintro e w8 ⟨⟨b3, rfl, q3⟩, B8⟩
        obtain rfl : b3 = false := Bool.eq_iff_iff.2 (q3.trans HQ.out.symm)
        have VO0 := cell_below B8 ZO0
        have VO1 := cell_below B8 ZO1
        have VK0 := cell_below B8 ZK0
        have VK1 := cell_below B8 ZK1
        have C8 := comp C7 B8
        have qb := eql_bool
        go_wp2_with fail
        refine (equal_any (some ⟨gg, 0, none⟩) pa ka a1 cap pc kc c1 ((l.length + 1)) (s.length) l.length s.length (l ++ [⟨key, value⟩]) l s s w8 (by unfold maxLen; omega) (by unfold maxLen; omega) (LOx.mono C8) (SOx.mono C8) (LKx.mono C8) (SKx.mono C8) (by simp) rfl rfl rfl).mono ?_
        rintro e w9 ⟨⟨b4, rfl, q4⟩, B9⟩
        obtain rfl : b4 = false := Bool.eq_iff_iff.2 ((q4.trans same_comm).trans HQ.out.symm)
        go_wp2_with fail
        go_ret
        exact ⟨rfl, comp EF (comp C8 B9)⟩
end Go.Proofs.Qxb6626342a
