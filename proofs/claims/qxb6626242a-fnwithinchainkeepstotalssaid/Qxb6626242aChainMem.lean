/- Seat b6626242a: a chain of links in memory, and the totals found by walking it. No walk. -/
import Derived.Test.Qxb6626242aAll
import Derived.Test.Qxb6626242aLinks
namespace Go.Proofs.Qxb6626242a
open Go.RowKit

/-! ### totals put together -/
def cmb (a t : Int × Int × Bool) : Int × Int × Bool := (a.1 + t.1, max a.2.1 t.2.1, a.2.2 || t.2.2)
theorem tstep_comm (t : Int × Int × Bool) (x y : Dcl) : tstep (tstep t x) y = tstep (tstep t y) x := by
  unfold tstep
  refine Prod.ext (by simp only; omega) (Prod.ext (by simp only; omega) ?_)
  simp only
  cases t.2.2 <;> cases x.p.toList.isEmpty <;> cases y.p.toList.isEmpty <;> rfl
theorem tot_tstep (l : List Dcl) : ∀ (t : Int × Int × Bool) (x : Dcl), tot l (tstep t x) = tstep (tot l t) x := by
  induction l with
  | nil => intro t x; rfl
  | cons y l ih =>
    intro t x
    show tot l (tstep (tstep t x) y) = tstep (tot l (tstep t y)) x
    rw [tstep_comm, ih]
theorem cmb_tstep (a t : Int × Int × Bool) (x : Dcl) : cmb (tstep a x) t = cmb a (tstep t x) := by
  unfold cmb tstep
  refine Prod.ext (by simp only; omega) (Prod.ext (by simp only; omega) ?_)
  simp only
  cases a.2.2 <;> cases x.p.toList.isEmpty <;> cases t.2.2 <;> rfl
theorem cmb_tot (l : List Dcl) : ∀ (a t : Int × Int × Bool), cmb (tot l a) t = cmb a (tot l t) := by
  induction l with
  | nil => intro a t; rfl
  | cons x l ih =>
    intro a t
    show cmb (tot l (tstep a x)) t = cmb a (tot l (tstep t x))
    rw [ih, cmb_tstep, tot_tstep]
theorem cmb_zero_left (t : Int × Int × Bool) (h : 0 ≤ t.2.1) : cmb (0, 0, false) t = t := by
  unfold cmb
  refine Prod.ext (by simp only; omega) (Prod.ext (by simp only; omega) (by simp))
theorem cmb_zero_right (t : Int × Int × Bool) (h : 0 ≤ t.2.1) : cmb t (0, 0, false) = t := by
  unfold cmb
  refine Prod.ext (by simp only; omega) (Prod.ext (by simp only; omega) (by simp))

/-! ### sizes of links -/
def lsize : List Lnk → Int
  | [] => 0
  | x :: l => (8 + dsize x.ds + ssize x.rs) + lsize l
theorem lsize_append (a b : List Lnk) : lsize (a ++ b) = lsize a + lsize b := by
  induction a with
  | nil => simp [lsize]
  | cons x l ih => simp [lsize, ih]; omega
theorem lsize_take (L : List Lnk) (k : Nat) (x : Lnk) (h : L[k]? = some x) : lsize (L.take (k + 1)) = lsize (L.take k) + (8 + dsize x.ds + ssize x.rs) := by
  rw [take_snoc L k x h, lsize_append]; simp [lsize]
theorem lsize_nn (L : List Lnk) : 0 ≤ lsize L := by
  induction L with
  | nil => simp [lsize]
  | cons x l ih =>
    have := dsize_nn x.ds
    have := ssize_nn x.rs
    simp [lsize]; omega
theorem lsize_le (L : List Lnk) (k : Nat) : lsize (L.take k) ≤ lsize L := by
  have := lsize_append (L.take k) (L.drop k)
  rw [List.take_append_drop] at this
  have := lsize_nn (L.drop k)
  omega

/-- The chain whose newest link lies at p: the links, the newest first; its totals. -/
def Chain (w : World) : List Lnk → Option Addr → Int × Int × Bool → Prop
  | [], p, t => p = none ∧ t = (0, 0, false)
  | x :: rest, p, t => ∃ g da dc ra rc q t', p = some ⟨g, 0, none⟩ ∧ InhAt w g (.slice da x.ds.length dc) (.slice ra x.rs.length rc) q t ∧ DeclsIn w da x.ds ∧ StrsIn w ra x.rs ∧ t = tot x.ds t' ∧ Chain w rest q t'
theorem Chain.mono {w w' : World} (hb : Below w.heap.size w w') : ∀ {l : List Lnk} {p : Option Addr} {t : Int × Int × Bool}, Chain w l p t → Chain w' l p t := by
  intro l
  induction l with
  | nil => intro p t h; exact h
  | cons x l ih =>
    intro p t h
    obtain ⟨g, da, dc, ra, rc, q, t', h1, h2, h3, h4, h5, h6⟩ := h
    exact ⟨g, da, dc, ra, rc, q, t', h1, h2.mono hb, h3.mono hb, h4.mono hb, h5, ih h6⟩
theorem Chain.bd {w : World} : ∀ {l : List Lnk} {p : Option Addr} {t : Int × Int × Bool}, Chain w l p t → 0 ≤ t.1 ∧ t.1 ≤ lsize l ∧ 0 ≤ t.2.1 := by
  intro l
  induction l with
  | nil => intro p t h; obtain ⟨_, rfl⟩ := h; simp [lsize]
  | cons x l ih =>
    intro p t h
    obtain ⟨g, da, dc, ra, rc, q, t', h1, h2, h3, h4, h5, h6⟩ := h
    have := ih h6
    have b := tot_bd x.ds t'
    have := ssize_nn x.rs
    subst h5
    simp only [lsize]
    omega
theorem Chain.pin {w : World} {l : List Lnk} {p : Option Addr} {a b : Int} {c : Bool} (h : Chain w l p (a, b, c)) : (p = none ∧ a = 0 ∧ b = 0 ∧ c = false) ∨ ∃ g dv rv pp, p = some ⟨g, 0, none⟩ ∧ InhAt w g dv rv pp (a, b, c) := by
  cases l with
  | nil =>
    obtain ⟨rfl, e⟩ := h
    simp only [Prod.mk.injEq] at e
    exact .inl ⟨rfl, e.1, e.2.1, e.2.2⟩
  | cons x l =>
    obtain ⟨g, da, dc, ra, rc, q, t', h1, h2, _⟩ := h
    exact .inr ⟨g, _, _, _, h1, h2⟩
theorem lsize_rev (L : List Lnk) : lsize L.reverse = lsize L := by
  induction L with
  | nil => rfl
  | cons x l ih => simp [lsize_append, lsize, ih]; omega
theorem rev_take {α : Type} (L : List α) (k : Nat) (x : α) (h : L[k]? = some x) : (L.take (k + 1)).reverse = x :: (L.take k).reverse := by
  rw [take_snoc L k x h]; simp

theorem neq_ptr_any (w : World) (p : Option Addr) : (binOp .neq 29 (.pointer p) (.pointer p)).run Try.prog w = .ok (.bool false) w := by
  cases p with
  | none => exact run_neq_pointer_nil w 29 none Try.underlying29
  | some a => exact neq_ptr_same w a

/-! ### ZZdeclRaw, ZZdeclPrefix -/
theorem declRaw_any (p s r : ByteArray) (d : Bool) (w : World) : Calls Try.prog 22 #[.agg #[.string p, .string s, .string r, .bool d]] w fun e w' => e = .returned (.string r) ∧ Below w.heap.size w w' := by
  go_enter Try.func22, Try.ntmps22
  go_wp2
  go_ret
  exact ⟨rfl, (Below.refl _ _).alloc (Nat.le_refl _) _⟩
theorem declPrefix_any (p s r : ByteArray) (d : Bool) (w : World) : Calls Try.prog 23 #[.agg #[.string p, .string s, .string r, .bool d]] w fun e w' => e = .returned (.string p) ∧ Below w.heap.size w w' := by
  go_enter Try.func23, Try.ntmps23
  go_wp2
  go_ret
  exact ⟨rfl, (Below.refl _ _).alloc (Nat.le_refl _) _⟩
end Go.Proofs.Qxb6626242a
