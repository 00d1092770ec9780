/- Seat b6626242a: the walk of FnWithinJoinAtAnyCut. -/
import Derived.Test.Qxb6626242aAll
namespace Go.Proofs.Qxb6626242a
open Go.RowKit

theorem Try.info28 : (Try.prog.info? 28).map (fun i => (i.zero, i.size, i.bytes)) = some (some (.agg #[.string ByteArray.empty, .string ByteArray.empty, .string ByteArray.empty, .bool false]), 4, 56) := by kernel_rfl

theorem comp {a b c : World} (h : Below a.heap.size a b) (k : Below b.heap.size b c) : Below a.heap.size a c := h.trans (k.mono h.size)
theorem tot_lay (l : List Dcl) (t : Int × Int × Bool) : ∃ x y z, Hid (tot l t = (x, y, z)) := ⟨_, _, _, rfl⟩
theorem tot_bd1 {l : List Dcl} {a b : Int} {c : Bool} {x y : Int} {z : Bool} (h : Hid (tot l (a, b, c) = (x, y, z))) : a ≤ x ∧ x ≤ a + dsize l := by
  have := tot_bd l (a, b, c)
  rw [h.out] at this
  exact ⟨this.1, this.2.1⟩
theorem news4 (w : World) (t : TypeId) (a b c d : Value) : ∀ j u, [a, b, c, d][j]? = some u → (w.alloc (.cells #[a, b, c, d] t)).cell? ((⟨w.heap.size, 0, none⟩ : Addr).add j) = some u :=
  World.news_of_block (cs := #[a, b, c, d]) (t := t) (fr := (0, 0)) (heap_alloc_new w _)

set_option maxRecDepth 100000 in
set_option maxHeartbeats 3200000 in
theorem join_walk (a0 a1 a2 a3 : Option Addr) (c0 c1 c2 c3 : Nat) (l0 l2 : List Dcl) (l1 l3 : List ByteArray) (w : World) (n0 : l0.length ≤ maxLen) (n1 : l1.length ≤ maxLen) (n2 : l2.length ≤ maxLen) (n3 : l3.length ≤ maxLen)
    (h0 : DeclsIn w a0 l0) (h1 : StrsIn w a1 l1) (h2 : DeclsIn w a2 l2) (h3 : StrsIn w a3 l3) :
    Calls Try.prog 3 #[.slice a0 l0.length c0, .slice a1 l1.length c1, .slice a2 l2.length c2, .slice a3 l3.length c3] w fun e w' => e = .returned (.bool true) ∧ Below w.heap.size w w' := by
  go_enter Try.func3, Try.ntmps3
  go_wp2_with fail
  refine (bytes5_any a0 a1 a2 a3 c0 c1 c2 c3 l0 l2 l1 l3 w h0 h1 h2 h3).mono ?_
  rintro e w ⟨⟨bb, rfl⟩, rfl⟩
  cases bb
  · go_wp2_with fail
    go_ret
    exact ⟨rfl, Below.refl _ _⟩
  go_wp2_with fail
  refine (declsSize_any _ _ l0 _ _ n0 h0 (by omega) (by omega)).mono ?_
  rintro e w ⟨r0, rfl, p0, q0, H0, rfl⟩
  go_wp2_with fail
  refine (stringsSize_any _ _ l1 _ _ n1 h1 p0 q0).mono ?_
  rintro e w ⟨r1, rfl, p1, q1, H1, rfl⟩
  go_wp2_with fail
  refine (declsSize_any _ _ l2 _ _ n2 h2 p1 q1).mono ?_
  rintro e w ⟨r2, rfl, p2, q2, H2, rfl⟩
  go_wp2_with fail
  refine (stringsSize_any _ _ l3 _ _ n3 h3 p2 q2).mono ?_
  rintro e w ⟨r3, rfl, p3, q3, H3, rfl⟩
  by_cases hB : 1048576 < r3
  · go_wp2_with fail
    go_ret
    exact ⟨rfl, Below.refl _ _⟩
  have hs : r3 = dsize l0 + ssize l1 + dsize l2 + ssize l3 := by
    have e3 := H3.out (by omega)
    have g3 := ssize_nn l3
    have e2 := H2.out (by omega)
    have g2 := dsize_nn l2
    have e1 := H1.out (by omega)
    have g1 := ssize_nn l1
    have e0 := H0.out (by omega)
    omega
  have HB : Hid (dsize l0 + ssize l1 + dsize l2 + ssize l3 ≤ 1048576) := by show _ ≤ _; omega
  have m0 : l0.length ≤ 131072 ∧ l1.length ≤ 131072 ∧ l2.length ≤ 131072 ∧ l3.length ≤ 131072 := by
    have := HB.out
    have g0 := dsize_nn l0
    have g1 := ssize_nn l1
    have g2 := dsize_nn l2
    have g3 := ssize_nn l3
    omega
  obtain ⟨m0, m1, m2, m3⟩ := m0
  clear hs H0 H1 H2 H3 p0 q0 p1 q1 p2 q2 p3 q3 n0 n1 n2 n3
  obtain ⟨i0, hi, hz0, hz1, hz2⟩ := info_parts Try.info28
  go_wp2_with (at_make; refine wpList_make_own _ rfl _ _ 22 rfl w.heap.size 28 i0 _ 4 Try.underlying22 hi hz0 hz1 _ _ _ (l0.length + l2.length) rfl rfl (by omega) ?b2 ?b3 (Nat.le_refl _) ?_)
  case b2 => rw [hz2]; omega
  case b3 => unfold maxLen; omega
  intro w0 hown0 hgrow0
  go_wp2
  go_loopw [10, 11] (fun out i wr => ∃ k : Nat, k ≤ l0.length ∧ i = .int .i64 k ∧ out = .slice (some ⟨w.heap.size, 0, none⟩) k (l0.length + l2.length) ∧ wr.ownsRow w.heap.size 28 4 (.slice (some ⟨w.heap.size, 0, none⟩) k (l0.length + l2.length)) k (cellsOf (l0.take k)) ∧ Below w.heap.size w wr) (fun _ i _ => l0.length - (intOf i).toNat)
  case atStart => exact ⟨0, Nat.zero_le _, rfl, rfl, by simpa [cellsOf] using hown0, (Below.refl _ _).grown hgrow0 (Nat.le_refl _) (fun k h => by cases h)⟩
  case round =>
    obtain ⟨k, hk, rfl, rfl, hown, hnx⟩ := hrel
    by_cases hlt : k < l0.length
    · obtain ⟨x, hx⟩ := nth2 hlt
      obtain ⟨b, off, rfl, e0, e1, e2, e3⟩ := h0.at hx
      have d0 := cell_below hnx e0
      have d1 := cell_below hnx e1
      have d2 := cell_below hnx e2
      have d3 := cell_below hnx e3
      have HC : Hid (cellsOf (l0.take (k + 1)) = cellsOf (l0.take k) ++ [.string x.p, .string x.s, .string x.r, .bool x.d]) := cellsOf_take l0 k x hx
      clear e0 e1 e2 e3 hx
      go_wp2_with (at_builtin; refine wpList_append_fits _ rfl (.tmp 54) (.tmp 59) 22 rfl w.heap.size 28 i0 4 Try.underlying22 hi hz1 w.heap.size k (l0.length + l2.length) _ rfl (hown.alloc _) ⟨wr.heap.size, 0, none⟩ 1 1 [.string x.p, .string x.s, .string x.r, .bool x.d] rfl rfl (news4 _ _ _ _ _ _) (by simp [Value.oneCell']) (by omega) ?_; intro w1 hown1 hgrow1)
      go_roundw
      case rel => exact ⟨k + 1, by omega, by go_num, rfl, by rw [HC.out]; exact hown1, (hnx.alloc hnx.size _).grown hgrow1 (by simp; have := hnx.size; omega) (fun j hj => by cases hj; exact Nat.le_refl _)⟩
      case measure => simp [intOf]; omega
    · obtain rfl : k = l0.length := by omega
      have hown' : wr.ownsRow w.heap.size 28 4 (.slice (some ⟨w.heap.size, 0, none⟩) (l0.length + 0) (l0.length + l2.length)) (l0.length + 0) (cellsOf (l0 ++ l2.take 0)) := by
        simpa using hown
      clear hown hown0 hgrow0
      go_wp2_with fail
      go_loopw [10, 12] (fun out i wr => ∃ k : Nat, k ≤ l2.length ∧ i = .int .i64 k ∧ out = .slice (some ⟨w.heap.size, 0, none⟩) (l0.length + k) (l0.length + l2.length) ∧ wr.ownsRow w.heap.size 28 4 (.slice (some ⟨w.heap.size, 0, none⟩) (l0.length + k) (l0.length + l2.length)) (l0.length + k) (cellsOf (l0 ++ l2.take k)) ∧ Below w.heap.size w wr) (fun _ i _ => l2.length - (intOf i).toNat)
      case atStart => exact ⟨0, Nat.zero_le _, rfl, rfl, hown', hnx⟩
      case round =>
        clear hown' hnx
        obtain ⟨k, hk, rfl, rfl, hown, hnx⟩ := hrel
        by_cases hlt : k < l2.length
        · obtain ⟨x, hx⟩ := nth2 hlt
          obtain ⟨b, off, rfl, e0, e1, e2, e3⟩ := h2.at hx
          have d0 := cell_below hnx e0
          have d1 := cell_below hnx e1
          have d2 := cell_below hnx e2
          have d3 := cell_below hnx e3
          have HC : Hid (cellsOf (l0 ++ l2.take (k + 1)) = cellsOf (l0 ++ l2.take k) ++ [.string x.p, .string x.s, .string x.r, .bool x.d]) := by
            show cellsOf (l0 ++ l2.take (k + 1)) = _
            rw [cellsOf_append, cellsOf_append, cellsOf_take l2 k x hx, List.append_assoc]
          clear e0 e1 e2 e3 hx
          go_wp2_with (at_builtin; refine wpList_append_fits _ rfl (.tmp 67) (.tmp 72) 22 rfl w.heap.size 28 i0 4 Try.underlying22 hi hz1 w.heap.size (l0.length + k) (l0.length + l2.length) _ rfl (hown.alloc _) ⟨wr.heap.size, 0, none⟩ 1 1 [.string x.p, .string x.s, .string x.r, .bool x.d] rfl rfl (news4 _ _ _ _ _ _) (by simp [Value.oneCell']) (by omega) ?_; intro w1 hown1 hgrow1)
          go_roundw
          case rel => exact ⟨k + 1, by omega, by go_num, rfl, by rw [HC.out]; exact hown1, (hnx.alloc hnx.size _).grown hgrow1 (by simp; have := hnx.size; omega) (fun j hj => by cases hj; exact Nat.le_refl _)⟩
          case measure => simp [intOf]; omega
        · obtain rfl : k = l2.length := by omega
          have DJ : DeclsIn wr (some ⟨w.heap.size, 0, none⟩) (l0 ++ l2) := .inr ⟨_, _, rfl, decls_of_own (by rw [List.take_of_length_le (Nat.le_refl _)] at hown; exact hown) (by simp)⟩
          have HL : Hid ((l0 ++ l2).length = l0.length + l2.length) := by show (l0 ++ l2).length = _; simp
          obtain ⟨xa, ya, za, HA⟩ := tot_lay l0 (0, 0, false)
          obtain ⟨xb, yb, zb, HBt⟩ := tot_lay l2 (xa, ya, za)
          have HCt : Hid (tot (l0 ++ l2) (0, 0, false) = (xb, yb, zb)) := by show tot (l0 ++ l2) (0, 0, false) = _; rw [tot_append, HA.out, HBt.out]
          have HDj : Hid (dsize (l0 ++ l2) = dsize l0 + dsize l2) := dsize_append l0 l2
          have HN : Hid (0 ≤ dsize l0 ∧ 0 ≤ ssize l1 ∧ 0 ≤ dsize l2 ∧ 0 ≤ ssize l3) := by
            have g0 := dsize_nn l0
            have g1 := ssize_nn l1
            have g2 := dsize_nn l2
            have g3 := ssize_nn l3
            exact ⟨by omega, by omega, by omega, by omega⟩
          have HX : Hid (0 ≤ xa ∧ xa ≤ 0 + dsize l0) := tot_bd1 HA
          clear hown hi hz0 hz1 hz2
          go_wp2_with fail
          refine (toDecls_n _ _ _ l0 _ rfl (by omega) (h0.mono hnx)).mono ?_
          rintro e w1 ⟨da, dca, rfl, D1, B1⟩
          have B1' := comp hnx B1
          go_wp2_with fail
          refine (clone_any _ _ l1 _ (by omega) (h1.mono B1')).mono ?_
          rintro e w2 ⟨ra, rca, rfl, S1, B2⟩
          have B2' := comp B1' B2
          go_wp2_with fail
          refine (zwithin_n none da ra _ dca _ rca l0 0 0 false xa ya za w2 rfl (by omega) (D1.mono B2) (by omega) (by have := HB.out; have := HN.out; omega) (.inl ⟨rfl, rfl, rfl, rfl⟩) HA.out).mono ?_
          rintro e w3 ⟨rfl, Ia, B3⟩
          have B3' := comp B2' B3
          go_wp2_with fail
          refine (toDecls_n _ _ _ l2 _ rfl (by omega) (h2.mono B3')).mono ?_
          rintro e w4 ⟨db, dcb, rfl, D2, B4⟩
          have B4' := comp B3' B4
          go_wp2_with fail
          refine (clone_any _ _ l3 _ (by omega) (h3.mono B4')).mono ?_
          rintro e w5 ⟨rb, rcb, rfl, S2, B5⟩
          have B5' := comp B4' B5
          have Ia5 := Ia.mono (comp B4 B5)
          go_wp2_with fail
          refine (zwithin_n (some ⟨w2.heap.size, 0, none⟩) db rb _ dcb _ rcb l2 xa ya za xb yb zb w5 rfl (by omega) (D2.mono B5) (by have := HX.out; omega) (by have := HB.out; have := HN.out; have := HX.out; omega) (.inr ⟨_, _, _, _, rfl, Ia5⟩) HBt.out).mono ?_
          rintro e w6 ⟨rfl, Ib, B6⟩
          have B6' := comp B5' B6
          have DJ6 := DJ.mono (comp B1 (comp B2 (comp B3 (comp B4 (comp B5 B6)))))
          go_wp2_with fail
          refine (toDecls_n _ _ _ (l0 ++ l2) _ HL.out (by omega) DJ6).mono ?_
          rintro e w7 ⟨dc, dcc, rfl, D3, B7⟩
          have B7' := comp B6' B7
          go_wp2_with fail
          refine (zwithin_n none dc none _ dcc 0 0 (l0 ++ l2) 0 0 false xb yb zb w7 HL.out (by omega) D3 (by omega) (by have := HB.out; have := HN.out; have := HDj.out; omega) (.inl ⟨rfl, rfl, rfl, rfl⟩) HCt.out).mono ?_
          rintro e w8 ⟨rfl, Ic, B8⟩
          have B8' := comp B7' B8
          have Ja := Ia5.mono (comp B6 (comp B7 B8))
          have Jb := Ib.mono (comp B7 B8)
          clear Ia Ia5 Ib
          go_wp2_with fail
          refine (totals_n _ _ _ l0 0 0 false xa ya za _ rfl (by omega) (h0.mono B8') (by omega) (by have := HB.out; have := HN.out; omega) HA.out).mono ?_
          rintro e w8 ⟨rfl, rfl⟩
          go_wp2_with fail
          refine (totals_n _ _ _ l2 xa ya za xb yb zb _ rfl (by omega) (h2.mono B8') (by have := HX.out; omega) (by have := HB.out; have := HN.out; have := HX.out; omega) HBt.out).mono ?_
          rintro e w8 ⟨rfl, rfl⟩
          have qp := neq_ptr_same
          go_wp2_with fail
          refine (around_any Ja).mono ?_
          rintro e w8 ⟨rfl, rfl⟩
          go_wp2_with fail
          refine (around_any Jb).mono ?_
          rintro e w8 ⟨rfl, rfl⟩
          go_wp2_with fail
          refine (around_any Ic).mono ?_
          rintro e w8 ⟨rfl, rfl⟩
          go_wp2_with fail
          refine (bytes_any Ja).mono ?_
          rintro e w8 ⟨rfl, rfl⟩
          go_wp2_with fail
          refine (longest_any Ja).mono ?_
          rintro e w8 ⟨rfl, rfl⟩
          go_wp2_with fail
          refine (default_any Ja).mono ?_
          rintro e w8 ⟨rfl, rfl⟩
          go_wp2_with fail
          refine (bytes_any Jb).mono ?_
          rintro e w8 ⟨rfl, rfl⟩
          go_wp2_with fail
          refine (longest_any Jb).mono ?_
          rintro e w8 ⟨rfl, rfl⟩
          go_wp2_with fail
          refine (default_any Jb).mono ?_
          rintro e w8 ⟨rfl, rfl⟩
          go_wp2_with fail
          refine (bytes_any Ic).mono ?_
          rintro e w8 ⟨rfl, rfl⟩
          go_wp2_with fail
          refine (bytes_any Jb).mono ?_
          rintro e w8 ⟨rfl, rfl⟩
          go_wp2_with fail
          refine (longest_any Ic).mono ?_
          rintro e w8 ⟨rfl, rfl⟩
          go_wp2_with fail
          refine (longest_any Jb).mono ?_
          rintro e w8 ⟨rfl, rfl⟩
          go_wp2_with fail
          refine (default_any Ic).mono ?_
          rintro e w8 ⟨rfl, rfl⟩
          go_wp2_with fail
          refine (default_any Jb).mono ?_
          rintro e w8 ⟨rfl, rfl⟩
          go_wp2_with fail
          refine (decls_any _ _ _ Ja).mono ?_
          rintro e w8 ⟨rfl, rfl⟩
          have Da := D1.mono (comp B2 (comp B3 (comp B4 (comp B5 (comp B6 (comp B7 B8))))))
          have Sa := S1.mono (comp B3 (comp B4 (comp B5 (comp B6 (comp B7 B8)))))
          have Db := D2.mono (comp B5 (comp B6 (comp B7 B8)))
          have Sb := S2.mono (comp B6 (comp B7 B8))
          have Dc := D3.mono B8
          have Dj := DJ6.mono (comp B7 B8)
          have P0 := h0.mono B8'
          have P1 := h1.mono B8'
          have P2 := h2.mono B8'
          have P3 := h3.mono B8'
          have PB := B8'
          clear D1 S1 D2 S2 D3 DJ6 DJ h0 h1 h2 h3 B1 B2 B3 B4 B5 B6 B7 B8 B1' B2' B3' B4' B5' B6' B7' B8' hnx
          go_wp2_with fail
          refine (sameDecls_n _ _ _ _ _ l0 _ rfl (by omega) Da P0).mono ?_
          rintro e w9 ⟨rfl, B9⟩
          have Ja9 := Ja.mono B9
          go_wp2_with fail
          refine (rebound_any _ _ _ Ja9).mono ?_
          rintro e w9 ⟨rfl, rfl⟩
          go_wp2_with fail
          refine (sameStrings_any _ _ _ _ l1 _ (by unfold maxLen; omega) (Sa.mono B9) (P1.mono B9)).mono ?_
          rintro e w10 ⟨rfl, B10⟩
          have C10 := comp B9 B10
          go_wp2_with fail
          refine (decls_any _ _ _ (Jb.mono C10)).mono ?_
          rintro e w10 ⟨rfl, rfl⟩
          go_wp2_with fail
          refine (sameDecls_n _ _ _ _ _ l2 _ rfl (by omega) (Db.mono C10) (P2.mono C10)).mono ?_
          rintro e w11 ⟨rfl, B11⟩
          have C11 := comp C10 B11
          go_wp2_with fail
          refine (rebound_any _ _ _ (Jb.mono C11)).mono ?_
          rintro e w11 ⟨rfl, rfl⟩
          go_wp2_with fail
          refine (sameStrings_any _ _ _ _ l3 _ (by unfold maxLen; omega) (Sb.mono C11) (P3.mono C11)).mono ?_
          rintro e w12 ⟨rfl, B12⟩
          have C12 := comp C11 B12
          go_wp2_with fail
          refine (decls_any _ _ _ (Ic.mono C12)).mono ?_
          rintro e w12 ⟨rfl, rfl⟩
          go_wp2_with fail
          refine (sameDecls_n _ _ _ _ _ (l0 ++ l2) _ HL.out (by omega) (Dc.mono C12) (Dj.mono C12)).mono ?_
          rintro e w13 ⟨rfl, B13⟩
          have C13 := comp C12 B13
          go_wp2_with fail
          refine (rebound_any _ _ _ (Ic.mono C13)).mono ?_
          rintro e w13 ⟨rfl, rfl⟩
          go_wp2_with fail
          go_ret
          exact ⟨rfl, comp PB C13⟩
end Go.Proofs.Qxb6626242a
