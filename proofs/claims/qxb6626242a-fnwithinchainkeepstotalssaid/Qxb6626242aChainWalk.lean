/- Seat b6626242a: the walk of FnWithinChainKeepsTotals. -/
import Derived.Test.Qxb6626242aChainMem
import Derived.Test.Qxb6626242aJoinWalk
namespace Go.Proofs.Qxb6626242a
open Go.RowKit

attribute [local go_sem ↓] Go.wp_at_zero Go.wp_at_succ

set_option maxRecDepth 100000 in
set_option maxHeartbeats 6400000 in
theorem chain_walk (ao : Option Addr) (cap : Nat) (L : List Lnk) (w : World) (n0 : L.length ≤ maxLen) (h : LinksIn w ao L) :
    Calls Try.prog 4 #[.slice ao L.length cap] w fun e w' => e = .returned (.bool true) ∧ Below w.heap.size w w' := by
  unfold maxLen at n0
  go_enter Try.func4, Try.ntmps4
  go_wp2_with fail
  refine (bytes20_any ao cap L w h).mono ?_
  rintro e w ⟨⟨bb, rfl⟩, rfl⟩
  cases bb
  · go_wp2_with fail
    go_ret
    exact ⟨rfl, Below.refl _ _⟩
  by_cases hL : (1024 : Int) < (L.length : Int)
  · go_wp2_with fail
    go_ret
    exact ⟨rfl, Below.refl _ _⟩
  go_wp2_with fail
  go_loop [3, 4] (fun n i => ∃ (k : Nat) (r : Int), k ≤ L.length ∧ i = .int .i64 k ∧ n = .int .i64 r ∧ 0 ≤ r ∧ r ≤ 1048576 ∧ Hid (r = lsize (L.take k))) (fun _ i => L.length - (intOf i).toNat)
  case atStart => exact ⟨0, 0, Nat.zero_le _, rfl, rfl, by omega, by omega, rfl⟩
  case round =>
    obtain ⟨k, r, hk, rfl, rfl, hr0, hr1, HR⟩ := hrel
    by_cases hlt : k < L.length
    · obtain ⟨x, hx⟩ := nth hlt
      have HS : Hid (lsize (L.take (k + 1)) = lsize (L.take k) + (8 + dsize x.ds + ssize x.rs)) := lsize_take L k x hx
      obtain ⟨b, off, rfl, da, dc, ra, rc, c0, c1, hD, hS, xd, xr⟩ := h.at hx
      clear hx
      go_wp2_with fail
      refine (add_any _ _ _ hr0 (by omega)).mono ?_
      rintro e w ⟨r1, rfl, p1, q1, H1, rfl⟩
      go_wp2_with fail
      refine (declsSize_any _ _ x.ds _ _ xd hD p1 q1).mono ?_
      rintro e w ⟨r2, rfl, p2, q2, H2, rfl⟩
      go_wp2_with fail
      refine (stringsSize_any _ _ x.rs _ _ xr hS p2 q2).mono ?_
      rintro e w ⟨r3, rfl, p3, q3, H3, rfl⟩
      by_cases hB : 1048576 < r3
      · go_wp2_with fail
        go_ret
        exact ⟨rfl, Below.refl _ _⟩
      · go_wp2_with fail
        go_round
        case rel => exact ⟨k + 1, r3, by omega, by go_num, rfl, p3, by omega, by
          show r3 = _
          have e3 := H3.out (by omega)
          have g3 := ssize_nn x.rs
          have e2 := H2.out (by omega)
          have g2 := dsize_nn x.ds
          have e1 := H1.out (by omega)
          have e0 := HR.out
          have es := HS.out
          omega⟩
        case measure => simp [intOf]; omega
    · have HB : Hid (lsize L ≤ 1048576) := by
        have e := HR.out
        rw [List.take_of_length_le (by omega)] at e
        show lsize L ≤ 1048576
        omega
      clear HR
      go_wp2_with fail
      go_loopw [5, 6] (fun cur i wr => ∃ (k : Nat) (p : Option Addr) (t : Int × Int × Bool), k ≤ L.length ∧ i = .int .i64 k ∧ cur = .pointer p ∧ Chain wr (L.take k).reverse p t ∧ Below w.heap.size w wr) (fun _ i _ => L.length - (intOf i).toNat)
      case atStart => exact ⟨0, none, (0, 0, false), Nat.zero_le _, rfl, rfl, ⟨rfl, rfl⟩, Below.refl _ _⟩
      case round =>
        clear hlt hk hr0 hr1
        obtain ⟨k, p, ⟨ta, tb, tc⟩, hk, rfl, rfl, hC, hnx⟩ := hrel
        by_cases hlt : k < L.length
        · obtain ⟨x, hx⟩ := nth hlt
          have HT : Hid (lsize (L.take (k + 1)) = lsize (L.take k) + (8 + dsize x.ds + ssize x.rs)) := lsize_take L k x hx
          have HLe : Hid (lsize (L.take (k + 1)) ≤ lsize L) := lsize_le L (k + 1)
          have HRv : Hid ((L.take (k + 1)).reverse = x :: (L.take k).reverse) := rev_take L k x hx
          have HBd : Hid (0 ≤ ta ∧ ta ≤ lsize (L.take k) ∧ 0 ≤ tb) := by
            have := hC.bd
            rw [lsize_rev] at this
            exact this
          have hr := h.mono hnx
          obtain ⟨b, off, e, da, dc, ra, rc, c0, c1, hD, hS, xd, xr⟩ := hr.at hx
          subst e
          have k0 : (0 : Int) ≤ (k : Int) := Int.natCast_nonneg _
          have k1 : (k : Int) < (L.length : Int) := by omega
          have xn : x.ds.length ≤ 1048576 ∧ x.rs.length ≤ 1048576 := by
            have := dsize_nn x.ds
            have := ssize_nn x.rs
            have := HT.out
            have := HLe.out
            have := HB.out
            have := lsize_nn (L.take k)
            omega
          obtain ⟨xn1, xn2⟩ := xn
          obtain ⟨xa, ya, za, HTot⟩ := tot_lay x.ds (ta, tb, tc)
          clear hr
          go_wp2_with fail
          go_region_held3 (fun w' => w'.cell? ⟨b, off + k * 2, none⟩ = some (.slice da x.ds.length dc) ∧ w'.cell? ⟨b, off + k * 2 + 1, none⟩ = some (.slice ra x.rs.length rc)) (go_keep)
            (first
              | (go_at_call 9; refine (toDecls_n _ _ _ x.ds _ rfl xn1 ?_).mono ?_; (exact hD); rintro e w1 ⟨da1, dc1, rfl, D1, B1'⟩; have B1 : Below wr.heap.size wr w1 := comp (Below.drew (Below.refl _ _)) B1'; clear B1'; have s0 := cell_below B1 c0; have s1 := cell_below B1 c1)
              | (go_at_call 10; refine (clone_any _ _ x.rs _ xn2 ?_).mono ?_; (exact hS.mono B1); rintro e w2 ⟨ra1, rc1, rfl, S1, B2⟩; have s2 := cell_below B2 s0; have s3 := cell_below B2 s1)
              | (go_at_call 8; refine (zwithin_n _ _ _ _ _ _ _ x.ds ta tb tc xa ya za _ rfl xn1 ?_ ?_ ?_ ?_ HTot.out).mono ?_; (exact D1.mono B2); (exact HBd.out.1); (have := HBd.out; have := HT.out; have := HLe.out; have := HB.out; have := ssize_nn x.rs; omega); (exact (hC.mono (comp B1 B2)).pin); rintro e w3 ⟨rfl, I3, B3⟩; have s4 := cell_below B3 s2; have s5 := cell_below B3 s3))
          have C3 : Chain w3 (L.take (k + 1)).reverse (some ⟨w2.heap.size, 0, none⟩) (xa, ya, za) := by
            rw [HRv.out]
            exact ⟨_, _, _, _, _, _, _, rfl, I3, D1.mono (comp B2 B3), S1.mono B3, HTot.out.symm, hC.mono (comp B1 (comp B2 B3))⟩
          have E3 := comp hnx (comp B1 (comp B2 B3))
          have hL3 := h.mono E3
          have HTb : Hid (0 ≤ ya) := by
            have g1 := tot_bd x.ds (ta, tb, tc)
            rw [HTot.out] at g1
            simp only at g1
            have := HBd.out
            show 0 ≤ ya
            omega
          have HTs : Hid (xa ≤ 1048576) := by
            have := C3.bd
            rw [lsize_rev] at this
            have := HLe.out
            have := HB.out
            show xa ≤ 1048576
            omega
          clear s0 s1 s2 s3 s4 s5 c0 c1 hD hS D1 S1 B1 B2 B3 hC xd xr xn1 xn2 h hnx
          have qp := neq_ptr_any
          go_wp2_with fail
          refine (around_any I3).mono ?_
          rintro e w3 ⟨rfl, rfl⟩
          go_wp2_with fail
          go_loopw [8, 9, 10, 11, 12] (fun B M D P J wr => ∃ (c : Nat) (j a b : Int) (d : Bool) (q : Option Addr) (t : Int × Int × Bool), c ≤ k + 1 ∧ Hid (j = (c : Int) - 1) ∧ J = .int .i64 j ∧ B = .int .i64 a ∧ M = .int .i64 b ∧ D = .bool d ∧ P = .pointer q ∧ Chain wr (L.take c).reverse q t ∧ Hid (cmb (a, b, d) t = (xa, ya, za)) ∧ 0 ≤ a ∧ 0 ≤ b ∧ Below w3.heap.size w3 wr) (fun _ _ _ _ J _ => (intOf J + 1).toNat)
          case atStart => exact ⟨k + 1, (k : Int), 0, 0, false, _, _, Nat.le_refl _, by show (k : Int) = _; omega, rfl, rfl, rfl, rfl, rfl, C3, cmb_zero_left _ HTb.out, by omega, by omega, Below.refl _ _⟩
          case round =>
            obtain ⟨c, j, a, bb, d, q, t, hc, HJ, rfl, rfl, rfl, rfl, rfl, hC, HM, ha, hbb, hn3⟩ := hrel
            by_cases hj : 0 ≤ j
            · obtain ⟨c', rfl, rfl⟩ : ∃ c' : Nat, c = c' + 1 ∧ j = (c' : Int) := ⟨c - 1, by have := HJ.out; omega, by have := HJ.out; omega⟩
              have hcl : c' < L.length := by omega
              obtain ⟨y, hy⟩ := nth hcl
              rw [rev_take L c' y hy] at hC
              obtain ⟨g, da', dc', ra', rc', q', t', rfl, Iy, Dy, Sy, hty, Cy⟩ := hC
              obtain ⟨b0, off0, e, da2, dc2, ra2, rc2, c0, c1, hD, hS, xd, xr⟩ := (hL3.mono hn3).at hy
              simp only [Option.some.injEq, Addr.mk.injEq] at e
              obtain ⟨rfl, rfl, _⟩ := e
              obtain ⟨ua, ub, uc⟩ := t
              have j0 : (0 : Int) ≤ (c' : Int) := Int.natCast_nonneg _
              have j1 : (c' : Int) < (L.length : Int) := by omega
              go_wp2_with fail
              refine (decls_any _ _ _ Iy).mono ?_
              rintro e w4 ⟨rfl, rfl⟩
              go_wp2_with fail
              go_region_held3 (fun w' => w'.cell? ⟨b, off + c' * 2, none⟩ = some (.slice da2 y.ds.length dc2) ∧ w'.cell? ⟨b, off + c' * 2 + 1, none⟩ = some (.slice ra2 y.rs.length rc2)) (go_keep)
                (first
                  | (go_at_call 16; refine (sameDecls_any _ _ _ _ y.ds _ xd ?_ ?_).mono ?_; (exact Dy); (exact hD); rintro e w5 ⟨rfl, B5'⟩; have B5 : Below w4.heap.size w4 w5 := comp (Below.drew (Below.refl _ _)) B5'; clear B5'; have s0 := cell_below B5 c0; have s1 := cell_below B5 c1)
                  | (go_at_call 19; refine (rebound_any _ _ _ (Iy.mono B5)).mono ?_; rintro e w5 ⟨rfl, rfl⟩)
                  | (go_at_call 18; refine (sameStrings_any _ _ _ _ y.rs _ xr ?_ ?_).mono ?_; (exact Sy.mono B5); (exact hS.mono B5); rintro e w6 ⟨rfl, B6⟩; have s2 := cell_below B6 s0; have s3 := cell_below B6 s1))
              have HF : Hid (cmb (tot y.ds (a, bb, d)) t' = (xa, ya, za)) := by
                show cmb (tot y.ds (a, bb, d)) t' = _
                rw [cmb_tot, ← hty]
                exact HM.out
              have HF1 : Hid ((tot y.ds (a, bb, d)).1 ≤ 1048576) := by
                have e := congrArg Prod.fst HF.out
                simp only [cmb] at e
                have := Cy.bd
                have := HTs.out
                show (tot y.ds (a, bb, d)).1 ≤ 1048576
                omega
              have N6 := comp hn3 (comp B5 B6)
              have I6 := Iy.mono (comp B5 B6)
              have D6 := Dy.mono (comp B5 B6)
              have C6 := Cy.mono (comp B5 B6)
              unfold maxLen at xd
              clear s0 s1 s2 s3 c0 c1 hD hS Dy Sy Iy Cy B5 B6 hn3 HM hy xr hty
              go_wp2_with fail
              go_loopw [8, 9, 10, 14] (fun B M D K wr => ∃ (m : Nat) (a' b' : Int) (d' : Bool), m ≤ y.ds.length ∧ K = .int .i64 m ∧ B = .int .i64 a' ∧ M = .int .i64 b' ∧ D = .bool d' ∧ Hid (tot (y.ds.take m) (a, bb, d) = (a', b', d')) ∧ Below w6.heap.size w6 wr) (fun _ _ _ K _ => y.ds.length - (intOf K).toNat)
              case atStart => exact ⟨0, a, bb, d, Nat.zero_le _, rfl, rfl, rfl, rfl, rfl, Below.refl _ _⟩
              case round =>
                obtain ⟨m, a', b', d', hm, rfl, rfl, rfl, rfl, HT2, hn6⟩ := hrel
                by_cases hml : m < y.ds.length
                · obtain ⟨z, hz⟩ := nth hml
                  obtain ⟨b1, off1, rfl, f0, f1, f2, f3⟩ := (D6.mono hn6).at hz
                  have HD : Hid (tot (y.ds.take (m + 1)) (a, bb, d) = (a' + z.r.size, max b' z.r.size, d' || z.p.toList.isEmpty)) := by
                    show tot (y.ds.take (m + 1)) (a, bb, d) = _
                    rw [tot_take y.ds m z hz, HT2.out]; rfl
                  have hb : 0 ≤ a' ∧ a' + z.r.size ≤ 1048576 := by
                    have g1 := tot_bd (y.ds.take m) (a, bb, d)
                    rw [HT2.out] at g1
                    have g2 := tot_bd (y.ds.drop (m + 1)) (tot (y.ds.take (m + 1)) (a, bb, d))
                    rw [← tot_append, List.take_append_drop, HD.out] at g2
                    have g3 := HF1.out
                    simp only at g1 g2
                    omega
                  clear hz
                  by_cases hq : b' < (z.r.size : Int)
                  · cases hE : z.p.toList.isEmpty
                    · go_wp2_with fail
                      refine (declRaw_any _ _ _ _ _).mono ?_
                      rintro e w7 ⟨rfl, B7⟩
                      have F0 := cell_below B7 f0
                      have F1 := cell_below B7 f1
                      have F2 := cell_below B7 f2
                      have F3 := cell_below B7 f3
                      go_wp2_with fail
                      refine (declPrefix_any _ _ _ _ _).mono ?_
                      rintro e w8 ⟨rfl, B8⟩
                      go_wp2_with fail
                      go_roundw
                      case rel => exact ⟨m + 1, _, _, _, by omega, by go_num, rfl, rfl, rfl, tot_way HD.out (by omega) (by simp [hE]), comp hn6 (comp B7 B8)⟩
                      case measure => simp [intOf]; omega
                    · go_wp2_with fail
                      refine (declRaw_any _ _ _ _ _).mono ?_
                      rintro e w7 ⟨rfl, B7⟩
                      have F0 := cell_below B7 f0
                      have F1 := cell_below B7 f1
                      have F2 := cell_below B7 f2
                      have F3 := cell_below B7 f3
                      go_wp2_with fail
                      refine (declPrefix_any _ _ _ _ _).mono ?_
                      rintro e w8 ⟨rfl, B8⟩
                      go_wp2_with fail
                      go_roundw
                      case rel => exact ⟨m + 1, _, _, _, by omega, by go_num, rfl, rfl, rfl, tot_way HD.out (by omega) (by simp [hE]), comp hn6 (comp B7 B8)⟩
                      case measure => simp [intOf]; omega
                  · cases hE : z.p.toList.isEmpty
                    · go_wp2_with fail
                      refine (declRaw_any _ _ _ _ _).mono ?_
                      rintro e w7 ⟨rfl, B7⟩
                      have F0 := cell_below B7 f0
                      have F1 := cell_below B7 f1
                      have F2 := cell_below B7 f2
                      have F3 := cell_below B7 f3
                      go_wp2_with fail
                      refine (declPrefix_any _ _ _ _ _).mono ?_
                      rintro e w8 ⟨rfl, B8⟩
                      go_wp2_with fail
                      go_roundw
                      case rel => exact ⟨m + 1, _, _, _, by omega, by go_num, rfl, rfl, rfl, tot_way HD.out (by omega) (by simp [hE]), comp hn6 (comp B7 B8)⟩
                      case measure => simp [intOf]; omega
                    · go_wp2_with fail
                      refine (declRaw_any _ _ _ _ _).mono ?_
                      rintro e w7 ⟨rfl, B7⟩
                      have F0 := cell_below B7 f0
                      have F1 := cell_below B7 f1
                      have F2 := cell_below B7 f2
                      have F3 := cell_below B7 f3
                      go_wp2_with fail
                      refine (declPrefix_any _ _ _ _ _).mono ?_
                      rintro e w8 ⟨rfl, B8⟩
                      go_wp2_with fail
                      go_roundw
                      case rel => exact ⟨m + 1, _, _, _, by omega, by go_num, rfl, rfl, rfl, tot_way HD.out (by omega) (by simp [hE]), comp hn6 (comp B7 B8)⟩
                      case measure => simp [intOf]; omega
                · have HE : Hid (tot y.ds (a, bb, d) = (a', b', d')) := by
                    have e := HT2.out
                    rw [List.take_of_length_le (by omega)] at e
                    exact e
                  go_wp2_with fail
                  refine (around_any (I6.mono hn6)).mono ?_
                  rintro e w7 ⟨rfl, rfl⟩
                  go_wp2_with fail
                  go_roundw
                  case rel => exact ⟨c', (c' : Int) - 1, a', b', d', q', t', by omega, rfl, rfl, rfl, rfl, rfl, rfl, C6.mono hn6, by have e := HF.out; rw [HE.out] at e; exact e, by have g1 := tot_bd y.ds (a, bb, d); rw [HE.out] at g1; simp only at g1; omega, by have g1 := tot_bd y.ds (a, bb, d); rw [HE.out] at g1; simp only at g1; omega, comp N6 hn6⟩
                  case measure => simp [intOf]
            · obtain rfl : c = 0 := by have := HJ.out; omega
              obtain ⟨rfl, rfl⟩ := hC
              obtain ⟨rfl, rfl, rfl⟩ : a = xa ∧ bb = ya ∧ d = za := by
                have e := HM.out
                rw [cmb_zero_right _ hbb] at e
                simpa using e
              go_wp2_with fail
              refine (bytes_any (I3.mono hn3)).mono ?_
              rintro e w4 ⟨rfl, rfl⟩
              go_wp2_with fail
              refine (longest_any (I3.mono hn3)).mono ?_
              rintro e w4 ⟨rfl, rfl⟩
              go_wp2_with fail
              refine (default_any (I3.mono hn3)).mono ?_
              rintro e w4 ⟨rfl, rfl⟩
              go_wp2_with fail
              go_roundw
              case rel => exact ⟨k + 1, _, _, by omega, by go_num, rfl, C3.mono hn3, comp E3 hn3⟩
              case measure => simp [intOf]; omega
        · go_wp2_with fail
          go_ret
          exact ⟨rfl, hnx⟩
end Go.Proofs.Qxb6626242a
