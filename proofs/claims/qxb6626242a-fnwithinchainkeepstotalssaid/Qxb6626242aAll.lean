/- Seat b6626242a: the readers of a link; the contracts at a length of whatever spelling and totals laid out. -/
import Derived.Test.Qxb6626242aLeaf
import Derived.Test.Qxb6626242aBytes
import Derived.Test.Qxb6626242aClone
import Derived.Test.Qxb6626242aWithin
import Derived.Test.Qxb6626242aSame
import Derived.LaidEqlPtr
namespace Go.Proofs.Qxb6626242a
open Go.RowKit

theorem Try.info56 : (Try.prog.info? 56).map (fun i => i.size) = some 6 := by kernel_rfl
theorem neq_ptr_same (w : World) (a : Addr) : (binOp .neq 29 (.pointer (some a)) (.pointer (some a))).run Try.prog w = .ok (.bool false) w := by
  obtain ⟨j, hj, _⟩ := Option.map_eq_some_iff.1 Try.info56
  have h : ∀ d : Nat, (Op.equalIn (d + 1) 29 (.pointer (some a)) (.pointer (some a))).run Try.prog w = .ok true w := fun d => by
    simp [Op.equalIn, run_underlying Try.underlying29, sizeOf, typeInfo, hj, run_sameAddr_same]
  simp only [binOp]
  simp [Op.equal, Op.maxDepth, h 9999]

section
variable {w : World} {g : Nat} {dv rv : Value} {pin : Option Addr} {x y : Int} {z : Bool}
theorem around_any (h : InhAt w g dv rv pin (x, y, z)) : Calls Try.prog 12 #[.pointer (some ⟨g, 0, none⟩)] w fun e w' => e = .returned (.pointer pin) ∧ w' = w := by
  have c := h.c2
  clear h
  go_enter Try.func12, Try.ntmps12
  go_wp2
  go_ret
  exact ⟨rfl, rfl⟩
theorem bytes_any (h : InhAt w g dv rv pin (x, y, z)) : Calls Try.prog 13 #[.pointer (some ⟨g, 0, none⟩)] w fun e w' => e = .returned (.int .i64 x) ∧ w' = w := by
  have c := h.c3
  clear h
  simp only at c
  go_enter Try.func13, Try.ntmps13
  go_wp2
  go_ret
  exact ⟨rfl, rfl⟩
theorem longest_any (h : InhAt w g dv rv pin (x, y, z)) : Calls Try.prog 14 #[.pointer (some ⟨g, 0, none⟩)] w fun e w' => e = .returned (.int .i64 y) ∧ w' = w := by
  have c := h.c4
  clear h
  simp only at c
  go_enter Try.func14, Try.ntmps14
  go_wp2
  go_ret
  exact ⟨rfl, rfl⟩
theorem default_any (h : InhAt w g dv rv pin (x, y, z)) : Calls Try.prog 15 #[.pointer (some ⟨g, 0, none⟩)] w fun e w' => e = .returned (.bool z) ∧ w' = w := by
  have c := h.c5
  clear h
  simp only at c
  go_enter Try.func15, Try.ntmps15
  go_wp2
  go_ret
  exact ⟨rfl, rfl⟩
theorem decls_any (da : Option Addr) (dn dc : Nat) (h : InhAt w g (.slice da dn dc) rv pin (x, y, z)) : Calls Try.prog 17 #[.pointer (some ⟨g, 0, none⟩)] w fun e w' => e = .returned (.slice da dn dc) ∧ w' = w := by
  have c := h.c0
  clear h
  go_enter Try.func17, Try.ntmps17
  go_wp2
  go_ret
  exact ⟨rfl, rfl⟩
theorem rebound_any (ra : Option Addr) (rn rc : Nat) (h : InhAt w g dv (.slice ra rn rc) pin (x, y, z)) : Calls Try.prog 19 #[.pointer (some ⟨g, 0, none⟩)] w fun e w' => e = .returned (.slice ra rn rc) ∧ w' = w := by
  have c := h.c1
  clear h
  go_enter Try.func19, Try.ntmps19
  go_wp2
  go_ret
  exact ⟨rfl, rfl⟩
end

theorem toDecls_n (ao : Option Addr) (cap n : Nat) (l : List Dcl) (w : World) (hl : l.length = n) (hn : n ≤ 1048576) (h : DeclsIn w ao l) :
    Calls Try.prog 9 #[.slice ao n cap] w fun e w' => ∃ (ao' : Option Addr) (cap' : Nat), e = .returned (.slice ao' n cap') ∧ DeclsIn w' ao' l ∧ Below w.heap.size w w' := by
  subst hl; exact toDecls_any ao cap l w hn h
theorem zwithin_n (pin ao ra : Option Addr) (n cap rn rc : Nat) (l : List Dcl) (a b : Int) (c : Bool) (x y : Int) (z : Bool) (w : World) (hl : l.length = n) (hn : n ≤ 1048576) (h : DeclsIn w ao l) (ht : 0 ≤ a) (h1 : a + dsize l ≤ 2097152)
    (hp : (pin = none ∧ a = 0 ∧ b = 0 ∧ c = false) ∨ ∃ g dv rv pp, pin = some ⟨g, 0, none⟩ ∧ InhAt w g dv rv pp (a, b, c)) (hT : tot l (a, b, c) = (x, y, z)) :
    Calls Try.prog 8 #[.pointer pin, .slice ao n cap, .slice ra rn rc] w fun e w' =>
      e = .returned (.pointer (some ⟨w.heap.size, 0, none⟩)) ∧ InhAt w' w.heap.size (.slice ao n cap) (.slice ra rn rc) pin (x, y, z) ∧ Below w.heap.size w w' := by
  subst hl
  rw [← hT]
  exact zwithin_any pin ao ra cap rn rc l (a, b, c) w (by unfold maxLen; omega) h ht h1 (by
    rcases hp with ⟨hpn, rfl, rfl, rfl⟩ | h
    · exact .inl ⟨hpn, rfl⟩
    · exact .inr h)
theorem totals_n (ao : Option Addr) (n cap : Nat) (l : List Dcl) (a b : Int) (c : Bool) (x y : Int) (z : Bool) (w : World) (hl : l.length = n) (hn : n ≤ 1048576) (h : DeclsIn w ao l) (ht : 0 ≤ a) (h1 : a + dsize l ≤ 2097152) (hT : tot l (a, b, c) = (x, y, z)) :
    Calls Try.prog 11 #[.slice ao n cap, .int .i64 a, .int .i64 b, .bool c] w fun e w' => e = .returned (.tuple #[.int .i64 x, .int .i64 y, .bool z]) ∧ w' = w := by
  subst hl
  have := totals_any ao cap l (a, b, c) w (by unfold maxLen; omega) h ht h1
  rw [hT] at this
  exact this
theorem sameDecls_n (ao bo : Option Addr) (n ca cb : Nat) (l : List Dcl) (w : World) (hl : l.length = n) (hn : n ≤ 1048576) (h : DeclsIn w ao l) (h' : DeclsIn w bo l) :
    Calls Try.prog 16 #[.slice ao n ca, .slice bo n cb] w fun e w' => e = .returned (.bool true) ∧ Below w.heap.size w w' := by
  subst hl; exact sameDecls_any ao bo ca cb l w (by unfold maxLen; omega) h h'
end Go.Proofs.Qxb6626242a
