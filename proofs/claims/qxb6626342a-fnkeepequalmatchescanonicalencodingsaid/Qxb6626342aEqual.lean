/- Seat b6626342a: (Keep).Equal. -/
import Derived.Test.Qxb6626342aMem
import Derived.WalkSpells
import Derived.Deep.QuietTactic
import Derived.BigQuiet
namespace Go.Proofs.Qxb6626342a
open Go.RowKit

theorem below_dn {B : Nat} {a w : World} (h : Below B a w) (n : Nat) : Below B a (w.drewN n) := h.trans ⟨rfl, rfl, rfl, Nat.le_refl _, fun _ _ => rfl⟩

/-- The two keeps are the same, element by element. -/
def Same (l m : List Lab) (s t : List ByteArray) : Prop := l = m ∧ s = t
/-- The call has returned a Bool that says whether P. -/
def BoolIff (e : Ending) (P : Prop) : Prop := ∃ b, e = .returned (.bool b) ∧ (b = true ↔ P)


theorem eq_of_toList {a b : ByteArray} (h : (a.toList == b.toList) = true) : a = b := by
  have e := eq_of_beq h
  rw [ByteArray.toList_eq, ByteArray.toList_eq] at e
  obtain ⟨⟨x⟩⟩ := a
  obtain ⟨⟨y⟩⟩ := b
  have : x = y := e
  rw [this]
theorem ne_of_toList {a b : ByteArray} (h : (a.toList == b.toList) = false) : a ≠ b := by
  intro e
  subst e
  simp at h
theorem lab_yes {l m : List Lab} {j : Nat} {x y : Lab} (HT : Hid (l.take j = m.take j)) (HX : Hid (l[j]? = some x)) (HY : Hid (m[j]? = some y)) (hk : (x.k.toList == y.k.toList) = true) (hv : (x.v.toList == y.v.toList) = true) : Hid (l.take (j + 1) = m.take (j + 1)) := by
  show l.take (j + 1) = m.take (j + 1)
  rw [take_snoc l j x HX.out, take_snoc m j y HY.out, HT.out]
  obtain ⟨xk, xv⟩ := x
  obtain ⟨yk, yv⟩ := y
  obtain rfl : xk = yk := eq_of_toList hk
  obtain rfl : xv = yv := eq_of_toList hv
  rfl
theorem lab_no1 {l m : List Lab} {s t : List ByteArray} {j : Nat} {x y : Lab} (HX : Hid (l[j]? = some x)) (HY : Hid (m[j]? = some y)) (hk : (x.k.toList == y.k.toList) = false) : Hid (¬ Same l m s t) := by
  rintro ⟨rfl, _⟩
  have := HX.out
  rw [HY.out] at this
  cases this
  exact ne_of_toList hk rfl
theorem lab_no2 {l m : List Lab} {s t : List ByteArray} {j : Nat} {x y : Lab} (HX : Hid (l[j]? = some x)) (HY : Hid (m[j]? = some y)) (hk : (x.v.toList == y.v.toList) = false) : Hid (¬ Same l m s t) := by
  rintro ⟨rfl, _⟩
  have := HX.out
  rw [HY.out] at this
  cases this
  exact ne_of_toList hk rfl
theorem str_yes {l m : List ByteArray} {j : Nat} {x y : ByteArray} (HT : Hid (l.take j = m.take j)) (HX : Hid (l[j]? = some x)) (HY : Hid (m[j]? = some y)) (hk : (x.toList == y.toList) = true) : Hid (l.take (j + 1) = m.take (j + 1)) := by
  show l.take (j + 1) = m.take (j + 1)
  rw [take_snoc l j x HX.out, take_snoc m j y HY.out, HT.out, eq_of_toList hk]
theorem str_no {l m : List Lab} {s t : List ByteArray} {j : Nat} {x y : ByteArray} (HX : Hid (s[j]? = some x)) (HY : Hid (t[j]? = some y)) (hk : (x.toList == y.toList) = false) : Hid (¬ Same l m s t) := by
  rintro ⟨_, rfl⟩
  have := HX.out
  rw [HY.out] at this
  cases this
  exact ne_of_toList hk rfl

set_option maxRecDepth 100000 in
set_option maxHeartbeats 1600000 in
theorem equal_len (ao bo co eo : Option Addr) (ca cb cc ce n k : Nat) (l m : List Lab) (s t : List ByteArray) (w : World) (n0 : n ≤ maxLen) (n1 : k ≤ maxLen)
    (hl : LabsIn w ao l) (hs : StrsIn w bo s) (hm : LabsIn w co m) (ht : StrsIn w eo t) (Hl : Hid (l.length = n)) (Hm : Hid (m.length = n)) (Hs : Hid (s.length = k)) (Ht : Hid (t.length = k)) :
    Calls Try.prog 9 #[.agg #[.slice ao n ca, .slice bo k cb], .agg #[.slice co n cc, .slice eo k ce]] w fun e w' => BoolIff e (Same l m s t) ∧ Below w.heap.size w w' := by
  unfold maxLen at n0 n1
  go_enter Try.func9, Try.ntmps9
  go_wp2
  go_loopw [26] (fun i wr => ∃ j : Nat, j ≤ n ∧ i = .int .i64 j ∧ Hid (l.take j = m.take j) ∧ wr.cell? ⟨w.heap.size, 0, none⟩ = some (.slice ao n ca) ∧ wr.cell? ⟨w.heap.size, 1, none⟩ = some (.slice bo k cb) ∧ wr.cell? ⟨w.heap.size + 1, 0, none⟩ = some (.slice co n cc) ∧ wr.cell? ⟨w.heap.size + 1, 1, none⟩ = some (.slice eo k ce) ∧ Below w.heap.size w wr) (fun i _ => n - (intOf i).toNat)
  case atStart => exact ⟨0, Nat.zero_le _, rfl, rfl, by simp, by simp, by simp, by simp, ((Below.refl _ _).alloc (Nat.le_refl _) _).alloc (by simp) _⟩
  case round =>
    obtain ⟨j, hj, rfl, HT, p0, p1, p2, p3, hnx⟩ := hrel
    by_cases hlt : j < n
    · obtain ⟨x, hx⟩ := nth (show j < l.length by have := Hl.out; omega)
      obtain ⟨y, hy⟩ := nth (show j < m.length by have := Hm.out; omega)
      obtain ⟨b, off, rfl, c0, c1⟩ := hl.at hx
      obtain ⟨b', off', rfl, e0, e1⟩ := hm.at hy
      have d0 := cell_below hnx c0
      have d1 := cell_below hnx c1
      have g0 := cell_below hnx e0
      have g1 := cell_below hnx e1
      have k0 : (0 : Int) ≤ (j : Int) := Int.natCast_nonneg _
      have k1 : (j : Int) < (n : Int) := by omega
      have HX : Hid (l[j]? = some x) := hx
      have HY : Hid (m[j]? = some y) := hy
      clear c0 c1 e0 e1 hx hy
      by_cases hk : (x.k.toList == y.k.toList) = true
      · by_cases hv : (x.v.toList == y.v.toList) = true
        · have HT' := lab_yes HT HX HY hk hv
          go_wp2
          go_quiet (fail)
          go_wp2
          go_roundw
          case rel => exact ⟨j + 1, by omega, by go_num, HT', by simpa using p0, by simpa using p1, by simpa using p2, by simpa using p3, below_dn hnx _⟩
          case measure => simp [intOf]; omega
        · have hv : (x.v.toList == y.v.toList) = false := by simpa using hv
          have HN : Hid (¬ Same l m s t) := lab_no2 HX HY hv
          go_wp2
          go_quiet (fail)
          go_wp2
          go_ret
          exact ⟨⟨false, rfl, by simp [HN.out]⟩, below_dn hnx _⟩
      · have hk : (x.k.toList == y.k.toList) = false := by simpa using hk
        have HN : Hid (¬ Same l m s t) := lab_no1 HX HY hk
        go_wp2
        go_quiet (fail)
        go_wp2
        go_ret
        exact ⟨⟨false, rfl, by simp [HN.out]⟩, below_dn hnx _⟩
    · have HE : Hid (l = m) := by
        have e := HT.out
        rw [List.take_of_length_le (by have := Hl.out; omega), List.take_of_length_le (by have := Hm.out; omega)] at e
        exact e
      clear HT
      go_wp2
      go_loopw [44] (fun i wr => ∃ j : Nat, j ≤ k ∧ i = .int .i64 j ∧ Hid (s.take j = t.take j) ∧ wr.cell? ⟨w.heap.size, 1, none⟩ = some (.slice bo k cb) ∧ wr.cell? ⟨w.heap.size + 1, 1, none⟩ = some (.slice eo k ce) ∧ Below w.heap.size w wr) (fun i _ => k - (intOf i).toNat)
      case atStart => exact ⟨0, Nat.zero_le _, rfl, rfl, p1, p3, hnx⟩
      case round =>
        clear p0 p1 p2 p3 hnx
        obtain ⟨j, hj, rfl, HT, p1, p3, hnx⟩ := hrel
        by_cases hlt : j < k
        · obtain ⟨x, hx⟩ := nth (show j < s.length by have := Hs.out; omega)
          obtain ⟨y, hy⟩ := nth (show j < t.length by have := Ht.out; omega)
          obtain ⟨b, off, rfl, c0⟩ := hs.at hx
          obtain ⟨b', off', rfl, e0⟩ := ht.at hy
          have d0 := cell_below hnx c0
          have g0 := cell_below hnx e0
          have k0 : (0 : Int) ≤ (j : Int) := Int.natCast_nonneg _
          have k1 : (j : Int) < (k : Int) := by omega
          have HX : Hid (s[j]? = some x) := hx
          have HY : Hid (t[j]? = some y) := hy
          clear c0 e0 hx hy
          by_cases hk : (x.toList == y.toList) = true
          · have HT' := str_yes HT HX HY hk
            go_wp2
            go_quiet (fail)
            go_wp2
            go_roundw
            case rel => exact ⟨j + 1, by omega, by go_num, HT', by simpa using p1, by simpa using p3, below_dn hnx _⟩
            case measure => simp [intOf]; omega
          · have hk : (x.toList == y.toList) = false := by simpa using hk
            have HN : Hid (¬ Same l m s t) := str_no HX HY hk
            go_wp2
            go_quiet (fail)
            go_wp2
            go_ret
            exact ⟨⟨false, rfl, by simp [HN.out]⟩, below_dn hnx _⟩
        · have HF : Hid (s = t) := by
            have e := HT.out
            rw [List.take_of_length_le (by have := Hs.out; omega), List.take_of_length_le (by have := Ht.out; omega)] at e
            exact e
          go_wp2
          go_ret
          exact ⟨⟨true, rfl, ⟨fun _ => ⟨HE.out, HF.out⟩, fun _ => rfl⟩⟩, hnx⟩

theorem equal_any (ao bo co eo : Option Addr) (ca cb cc ce n k n' k' : Nat) (l m : List Lab) (s t : List ByteArray) (w : World) (n0 : n ≤ maxLen) (n1 : k ≤ maxLen)
    (hl : LabsIn w ao l) (hs : StrsIn w bo s) (hm : LabsIn w co m) (ht : StrsIn w eo t) (Hl : l.length = n) (Hs : s.length = k) (Hm : m.length = n') (Ht : t.length = k') :
    Calls Try.prog 9 #[.agg #[.slice ao n ca, .slice bo k cb], .agg #[.slice co n' cc, .slice eo k' ce]] w fun e w' => BoolIff e (Same l m s t) ∧ Below w.heap.size w w' := by
  by_cases h1 : n = n'
  · subst h1
    by_cases h2 : k = k'
    · subst h2
      exact equal_len ao bo co eo ca cb cc ce n k l m s t w n0 n1 hl hs hm ht Hl Hm Hs Ht
    · have HN : Hid (¬ Same l m s t) := by
        rintro ⟨_, rfl⟩
        exact h2 (Hs.symm.trans Ht)
      have hne : ((k : Int) == (k' : Int)) = false := by simp; omega
      clear hl hs hm ht Hl Hs Hm Ht h2
      go_enter Try.func9, Try.ntmps9
      go_wp2
      go_ret
      exact ⟨⟨false, rfl, by simp [HN.out]⟩, ((Below.refl _ _).alloc (Nat.le_refl _) _).alloc (by simp) _⟩
  · have HN : Hid (¬ Same l m s t) := by
      rintro ⟨rfl, _⟩
      exact h1 (Hl.symm.trans Hm)
    have hne : ((n : Int) == (n' : Int)) = false := by simp; omega
    clear hl hs hm ht Hl Hs Hm Ht h1
    go_enter Try.func9, Try.ntmps9
    go_wp2
    go_ret
    exact ⟨⟨false, rfl, by simp [HN.out]⟩, ((Below.refl _ _).alloc (Nat.le_refl _) _).alloc (by simp) _⟩
end Go.Proofs.Qxb6626342a
