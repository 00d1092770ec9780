/- Seat b6626242a: slices of links in memory; the second bound laid by program returns. -/
import Derived.Test.Qxb6626242aBytes
namespace Go.Proofs.Qxb6626242a
open Go.RowKit

/-- What one call of within is handed. -/
structure Lnk where
  ds : List Dcl
  rs : List ByteArray

/-- One link's two cells, and what they lead to. -/
def LinkAt (w : World) (b o : Nat) (x : Lnk) : Prop := ∃ da dc ra rc, w.cell? ⟨b, o, none⟩ = some (.slice da x.ds.length dc) ∧ w.cell? ⟨b, o + 1, none⟩ = some (.slice ra x.rs.length rc) ∧ DeclsIn w da x.ds ∧ StrsIn w ra x.rs ∧ x.ds.length ≤ maxLen ∧ x.rs.length ≤ maxLen
def LinksIn (w : World) (ao : Option Addr) (L : List Lnk) : Prop := L = [] ∨ ∃ b off, ao = some ⟨b, off, none⟩ ∧ ∀ i x, L[i]? = some x → LinkAt w b (off + i * 2) x
theorem LinkAt.mono {w w' : World} {b o : Nat} {x : Lnk} (h : LinkAt w b o x) (hb : Below w.heap.size w w') : LinkAt w' b o x := by
  obtain ⟨da, dc, ra, rc, h1, h2, h3, h4, h5⟩ := h
  exact ⟨da, dc, ra, rc, cell_below hb h1, cell_below hb h2, h3.mono hb, h4.mono hb, h5⟩
theorem LinksIn.at {w : World} {ao : Option Addr} {L : List Lnk} (h : LinksIn w ao L) {i : Nat} {x : Lnk} (hi : L[i]? = some x) : ∃ b off, ao = some ⟨b, off, none⟩ ∧ LinkAt w b (off + i * 2) x := by
  rcases h with h | ⟨b, off, h1, h2⟩
  · subst h; simp at hi
  · exact ⟨b, off, h1, h2 i x hi⟩
theorem LinksIn.mono {w w' : World} {ao : Option Addr} {L : List Lnk} (h : LinksIn w ao L) (hb : Below w.heap.size w w') : LinksIn w' ao L := by
  rcases h with h | ⟨b, off, h1, h2⟩
  · exact .inl h
  · exact .inr ⟨b, off, h1, fun i x hi => (h2 i x hi).mono hb⟩

set_option maxRecDepth 100000 in
set_option maxHeartbeats 4000000 in
theorem bytes20_any (ao : Option Addr) (cap : Nat) (L : List Lnk) (w : World) (h : LinksIn w ao L) :
    Calls Try.prog 20 #[.slice ao L.length cap] w fun e w' => IsBool e ∧ w' = w := by
  by_cases g0 : (1048576 : Int) < (L.length : Int)
  · go_enter Try.func20, Try.ntmps20
    go_wp2
    go_ret
    exact ⟨isBool _, rfl⟩
  · go_enter Try.func20, Try.ntmps20
    go_wp2
    go_loop [3, 4] (fun z i => ∃ (k : Nat) (m : Int), k ≤ L.length ∧ i = .int .i64 k ∧ z = .int .i64 m ∧ 0 ≤ m ∧ m ≤ 1048576) (fun _ i => L.length - (intOf i).toNat)
    case atStart => exact ⟨0, _, Nat.zero_le _, rfl, rfl, by omega, by omega⟩
    case round =>
      obtain ⟨k, m, hk, rfl, rfl, hm0, hm1⟩ := hrel
      by_cases hlt : k < L.length
      · obtain ⟨x, hx⟩ := nth hlt
        obtain ⟨b, off, rfl, da, dc, ra, rc, c0, c1, hD, hS, xd, xr⟩ := h.at hx
        clear hx
        unfold maxLen at xd xr
        by_cases g1 : (1048576 : Int) < (x.ds.length : Int)
        · go_wp2
          go_ret
          exact ⟨isBool _, rfl⟩
        · by_cases s1 : 1048576 < m + (x.ds.length : Int)
          · go_wp2
            go_ret
            exact ⟨isBool _, rfl⟩
          · go_wp2
            go_loop [3, 5] (fun z i => ∃ (j : Nat) (m : Int), j ≤ x.ds.length ∧ i = .int .i64 j ∧ z = .int .i64 m ∧ 0 ≤ m ∧ m ≤ 1048576) (fun _ i => x.ds.length - (intOf i).toNat)
            case atStart => exact ⟨0, _, Nat.zero_le _, rfl, rfl, by omega, by omega⟩
            case round =>
              clear s1 hm0 hm1
              obtain ⟨j, m, hj, rfl, rfl, hm0, hm1⟩ := hrel
              by_cases hjl : j < x.ds.length
              · obtain ⟨y, hy⟩ := nth hjl
                obtain ⟨b', off', rfl, e0, e1, e2, e3⟩ := hD.at hy
                clear hy
                go_wp2
                all_goals first
                  | (go_ret; exact ⟨isBool _, rfl⟩)
                  | (go_round
                     case rel => exact ⟨j + 1, _, by omega, by go_num, rfl, by omega, by omega⟩
                     case measure => simp [intOf]; omega)
              · by_cases g2 : (1048576 : Int) < (x.rs.length : Int)
                · go_wp2
                  go_ret
                  exact ⟨isBool _, rfl⟩
                · by_cases s2 : 1048576 < m + (x.rs.length : Int)
                  · go_wp2
                    go_ret
                    exact ⟨isBool _, rfl⟩
                  · go_wp2
                    go_loop [3, 6] (fun z i => ∃ (j : Nat) (m : Int), j ≤ x.rs.length ∧ i = .int .i64 j ∧ z = .int .i64 m ∧ 0 ≤ m ∧ m ≤ 1048576) (fun _ i => x.rs.length - (intOf i).toNat)
                    case atStart => exact ⟨0, _, Nat.zero_le _, rfl, rfl, by omega, by omega⟩
                    case round =>
                      clear s2 hm0 hm1
                      obtain ⟨i, m, hi, rfl, rfl, hm0, hm1⟩ := hrel
                      by_cases hil : i < x.rs.length
                      · obtain ⟨y, hy⟩ := nth hil
                        obtain ⟨b', off', rfl, e0⟩ := hS.at hy
                        clear hy
                        go_wp2
                        all_goals first
                          | (go_ret; exact ⟨isBool _, rfl⟩)
                          | (go_round
                             case rel => exact ⟨i + 1, _, by omega, by go_num, rfl, by omega, by omega⟩
                             case measure => simp [intOf]; omega)
                      · go_wp2
                        go_round
                        case rel => exact ⟨k + 1, _, by omega, by go_num, rfl, by omega, by omega⟩
                        case measure => simp [intOf]; omega
      · go_wp2
        go_ret
        exact ⟨isBool _, rfl⟩
end Go.Proofs.Qxb6626242a
