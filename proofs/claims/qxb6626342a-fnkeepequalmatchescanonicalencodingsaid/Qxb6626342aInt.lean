/- Seat b6626342a: lawAppendInt, lawAppendField. -/
import Derived.Test.Qxb6626342aEnc
import Derived.Lib.AppendStr
import Derived.WalkSpells
import Derived.Deep.AppendLies
namespace Go.Proofs.Qxb6626342a
open Go.RowKit

theorem Try.info5 : (Try.prog.info? 5).map (fun i => (i.zero, i.size, i.bytes)) = some (some (.int .u8 0), 1, 1) := by kernel_rfl

theorem news1' (w : World) (t : TypeId) (a : Value) : ∀ j u, [a][j]? = some u → (w.alloc (.cells #[a] t)).cell? ((⟨w.heap.size, 0, none⟩ : Addr).add j) = some u :=
  World.news_of_block (cs := #[a]) (t := t) (fr := (0, 0)) (heap_alloc_new w _)
/-- Bytes as cells. -/
def bcells (l : List UInt8) : List Value := l.map fun b => Value.int .u8 b.toNat
theorem bcells_append (a b : List UInt8) : bcells (a ++ b) = bcells a ++ bcells b := by simp [bcells]
theorem bcells_len (a : List UInt8) : (bcells a).length = a.length := by simp [bcells]
theorem bcells_one (a : List UInt8) : ∀ u ∈ bcells a, u.oneCell' = true := by
  intro u hu
  simp only [bcells, List.mem_map] at hu
  obtain ⟨b, _, rfl⟩ := hu
  rfl


theorem ownsRow_mono {w w' : World} {base e size n : Nat} {v : Value} {xs : List Value} (h : w.ownsRow base e size v n xs) (hb : Below w.heap.size w w') : w'.ownsRow base e size v n xs := by
  obtain ⟨h1, h2⟩ := h
  refine ⟨h1, ?_⟩
  rcases h2 with h2 | ⟨g, cap, cur, hv, hg, hh, r⟩
  · exact .inl h2
  · have hlt : g < w.heap.size := by
      rcases Nat.lt_or_ge g w.heap.size with h3 | h3
      · exact h3
      · rw [Array.getElem?_eq_none h3] at hh; cases hh
    exact .inr ⟨g, cap, cur, hv, hg, (hb.block g hlt).trans hh, r⟩

/-- What of the array has been filled: from j on the digits suf; every cell is there; nothing else has turned. -/
structure Arr (w wr : World) (j : Nat) (suf : List UInt8) : Prop where
  len : j + suf.length = 20
  at_ : ∀ i x, suf[i]? = some x → wr.cell? ⟨w.heap.size, j + i, none⟩ = some (.int .u8 (x.toNat : Int))
  all : ∀ i, i < 20 → ∃ u, wr.cell? ⟨w.heap.size, i, none⟩ = some u
  free : ∀ i, wr.frozen? ⟨w.heap.size, i, none⟩ = false
  below : Below w.heap.size w wr
theorem Arr.step {w wr : World} {j : Nat} {suf : List UInt8} (h : Arr w wr (j + 1) suf) (b : UInt8) : Arr w (wr.setCell ⟨w.heap.size, j, none⟩ (.int .u8 (b.toNat : Int))) j (b :: suf) := by
  have hl := h.len
  obtain ⟨u, hu⟩ := h.all j (by omega)
  refine ⟨by simp; omega, ?_, ?_, fun i => ?_, h.below.setCell (Nat.le_refl _) _⟩
  · intro i x hi
    cases i with
    | zero =>
      simp at hi
      subst hi
      exact World.cell?_setCell_same _ _ _ hu
    | succ i =>
      rw [World.cell?_setCell_other _ _ _ _ (by intro e; injection e with _ e2; omega)]
      rw [show j + (i + 1) = j + 1 + i by omega]
      exact h.at_ i x (by simpa using hi)
  · intro i hi
    by_cases e : i = j
    · subst e; exact ⟨_, World.cell?_setCell_same _ _ _ hu⟩
    · rw [World.cell?_setCell_other _ _ _ _ (by intro e2; injection e2 with _ e3; omega)]
      exact h.all i hi
  · rw [World.frozen?_setCell]; exact h.free i

theorem Arr.news {w wr : World} {j : Nat} {suf : List UInt8} (h : Arr w wr j suf) : ∀ i u, (bcells suf)[i]? = some u → wr.cell? ((⟨w.heap.size, j, none⟩ : Addr).add i) = some u := by
  intro i u hi
  have e : (⟨w.heap.size, j, none⟩ : Addr).add i = ⟨w.heap.size, j + i, none⟩ := by
    unfold Addr.add
    split
    · rename_i h; subst h; rfl
    · rfl
  rw [e]
  unfold bcells at hi
  rw [List.getElem?_map] at hi
  obtain ⟨x, hx, rfl⟩ := Option.map_eq_some_iff.1 hi
  exact h.at_ i x hx
theorem digsF_zero (f : Nat) : digsF f 0 = [] := by cases f <;> simp [digsF]
theorem digsF_step {N f r : Nat} {suf : List UInt8} (h : Hid (digsF 20 N = digsF (f + 1) r ++ suf)) (hr : ¬ r = 0) : Hid (digsF 20 N = digsF f (r / 10) ++ (UInt8.ofNat (48 + r % 10) :: suf)) := by
  show digsF 20 N = _
  rw [h.out]
  simp only [digsF]
  rw [if_neg hr]
  simp

set_option maxRecDepth 100000 in
set_option maxHeartbeats 800000 in
theorem appendInt_any (base : Nat) (v : Value) (n : Nat) (xs : List UInt8) (N : Nat) (w : World) (hown : w.ownsRow base 5 1 v n (bcells xs)) (hb : base ≤ w.heap.size) (hn : n ≤ 4194304) (hN : N ≤ 1048576) :
    Calls Try.prog 13 #[v, .int .i64 N] w fun e w' => ∃ v', e = .returned v' ∧ w'.ownsRow base 5 1 v' (n + (digs N).length) (bcells (xs ++ digs N)) ∧ Below base w w' ∧ base ≤ w'.heap.size := by
  obtain ⟨i5, hi, hz0, hz1, hz2⟩ := info_parts Try.info5
  have hlt := hown.lt
  by_cases h0 : N = 0
  · subst h0
    go_enter Try.func13, Try.ntmps13
    go_wp2_with (at_builtin; refine wpList_append_own _ rfl (.tmp 9) (.tmp 10) 32 rfl base 5 i5 (.int .u8 0) 1 1 Try.underlying32 hi hz0 hz1 hz2 rfl (by omega) v n (bcells xs) rfl (hown.alloc _) ⟨w.heap.size, 0, none⟩ 1 1 [.int .u8 48] rfl rfl (news1' _ _ _) (by simp [Value.oneCell']) (by unfold maxLen; omega) (by omega) (by simp; omega) ?_; intro v' w1 hown1 hgrow _)
    go_ret
    refine ⟨v', rfl, ?_, ((Below.refl base w).alloc hb _).grown hgrow (by simp; omega) (fun q hq => (hlt q hq).1), by have := hgrow.size; simp at this; omega⟩
    rw [bcells_append]
    exact hown1
  · have h0' : ((N : Int) == 0) = false := by simp; omega
    have HN : Hid (digs N = digsF 20 N) := by show digs N = _; unfold digs; rw [if_neg h0]
    have HP : Hid (N < 10 ^ 20) := by show N < 10 ^ 20; have : (10 : Nat) ^ 20 = 100000000000000000000 := by decide
                                      omega
    go_enter Try.func13, Try.ntmps13
    go_wp2_with fail
    go_loopw [1, 6] (fun m i wr => ∃ (r j : Nat) (suf : List UInt8), m = .int .i64 r ∧ i = .int .i64 j ∧ r ≤ 1048576 ∧ j ≤ 20 ∧ Hid (r < 10 ^ j) ∧ Hid (digsF 20 N = digsF j r ++ suf) ∧ Hid (Arr w wr j suf)) (fun m _ _ => (intOf m).toNat)
    case atStart =>
      refine ⟨N, 20, [], rfl, rfl, hN, Nat.le_refl _, HP, by show _ = _; simp, ?_⟩
      refine ⟨rfl, fun i x hi => by simp at hi, fun i hi => ?_, fun i => ?_, (Below.refl _ _).alloc (Nat.le_refl _) _⟩
      · rw [World.cell?_alloc_at _ _ _ _ rfl]
        exact ⟨_, Array.getElem?_eq_getElem (by simpa using hi)⟩
      · exact World.frozen?_alloc_at _ _ _ _ rfl
    case round =>
      obtain ⟨r, j, suf, rfl, rfl, hr, hj, HR, HD, HA⟩ := hrel
      by_cases hr0 : 0 < r
      · obtain ⟨j', rfl⟩ : ∃ j', j = j' + 1 := by
          cases j with
          | zero => have := HR.out; simp at this; omega
          | succ j' => exact ⟨j', rfl⟩
        have HD' := digsF_step HD (by omega)
        have HA' : Hid (Arr w (wr.setCell ⟨w.heap.size, j', none⟩ (.int .u8 (48 + (r : Int) % 10))) j' (UInt8.ofNat (48 + r % 10) :: suf)) := by
          have := HA.out.step (UInt8.ofNat (48 + r % 10))
          rw [dig_toNat] at this
          have e : ((48 + r % 10 : Nat) : Int) = 48 + (r : Int) % 10 := by omega
          rw [e] at this
          exact this
        have HR' : Hid (r / 10 < 10 ^ j') := by
          have := HR.out
          rw [Nat.pow_succ] at this
          show r / 10 < 10 ^ j'
          omega
        obtain ⟨u, hu⟩ := HA.out.all j' (by omega)
        have hf := HA.out.free j'
        go_wp2
        go_roundw
        case rel => exact ⟨r / 10, j', _, by go_num, by go_num, by omega, by omega, HR', HD', HA'⟩
        case measure => simp [intOf]; omega
      · obtain rfl : r = 0 := by omega
        have HS : Hid (digs N = suf) := by
          show digs N = suf
          rw [HN.out, HD.out, digsF_zero]; rfl
        have HL := HA.out.len
        have hj20 : j < 20 := by
          have e : digsF 20 N ≠ [] := by simp only [digsF]; rw [if_neg h0]; simp
          have e2 : suf ≠ [] := by rw [← HS.out, HN.out]; exact e
          have := List.length_pos_iff.2 e2
          omega
        have hjn : ¬ (20 = j) := by omega
        have j0 : (0 : Int) ≤ (j : Int) := Int.natCast_nonneg _
        have j1 : (j : Int) ≤ 20 := by omega
        have HO : Hid (wr.ownsRow base 5 1 v n (bcells xs)) := ownsRow_mono hown HA.out.below
        have HB := HA.out.below
        have HQ : Hid ((bcells suf).length = (20 - j) * 1) := by show (bcells suf).length = _; rw [bcells_len]; omega
        have HW : Hid (∀ i u, (bcells suf)[i]? = some u → wr.cell? ((⟨w.heap.size, j, none⟩ : Addr).add i) = some u) := HA.out.news
        have hws := HB.size
        clear hown HL
        go_wp2_with (at_builtin; refine wpList_append_own _ rfl (.tmp 24) (.tmp 26) 32 rfl base 5 i5 (.int .u8 0) 1 1 Try.underlying32 hi hz0 hz1 hz2 rfl (by omega) v n (bcells xs) rfl HO.out ⟨w.heap.size, j, none⟩ (20 - j) (20 - j) (bcells suf) rfl HQ.out HW.out (bcells_one suf) (by unfold maxLen; omega) (by omega) (by omega) ?_; intro v' w1 hown1 hgrow _)
        go_ret
        refine ⟨v', rfl, ?_, (HB.mono hb).grown hgrow (by omega) (fun q hq => (hlt q hq).1), by have := hgrow.size; omega⟩
        rw [HS.out, bcells_append, show n + suf.length = n + (20 - j) by have := HA.out.len; omega]
        exact hown1

theorem strCells_bcells (s : ByteArray) : Lib.strCells s = bcells (bytesOf s) := rfl

set_option maxRecDepth 100000 in
set_option maxHeartbeats 800000 in
theorem appendField_any (base : Nat) (v : Value) (n : Nat) (xs : List UInt8) (s : ByteArray) (w : World) (hown : w.ownsRow base 5 1 v n (bcells xs)) (hb : base ≤ w.heap.size) (hn : n ≤ 4194304) (hs : s.size ≤ 1048576) :
    Calls Try.prog 14 #[v, .string s] w fun e w' => ∃ v', e = .returned v' ∧ w'.ownsRow base 5 1 v' (n + (field s).length) (bcells (xs ++ field s)) ∧ Below base w w' ∧ base ≤ w'.heap.size := by
  obtain ⟨i5, hi, hz0, hz1, hz2⟩ := info_parts Try.info5
  have hdl := digs_len s.size
  go_enter Try.func14, Try.ntmps14
  go_wp2_with fail
  refine (appendInt_any base v n xs s.size w hown hb hn hs).mono ?_
  rintro e w1 ⟨v1, rfl, own1, B1, b1⟩
  have lt1 := own1.lt
  go_wp2_with (first
    | (at_builtin; refine wpList_append_own _ rfl (.tmp 9) (.tmp 10) 32 rfl base 5 i5 (.int .u8 0) 1 1 Try.underlying32 hi hz0 hz1 hz2 rfl (by omega) v1 (n + (digs s.size).length) (bcells (xs ++ digs s.size)) rfl (own1.alloc _) ⟨w1.heap.size, 0, none⟩ 1 1 [.int .u8 58] rfl rfl (news1' _ _ _) (by simp [Value.oneCell']) (by unfold maxLen; omega) (by omega) (by simp; omega) ?_; intro v2 w2 own2 hg2 _; have b2 : base ≤ w2.heap.size := Nat.le_trans (Nat.le_trans b1 (by simp)) hg2.size)
    | (at_builtin; refine Lib.wpList_append_own_string _ rfl (.tmp 12) (.tmp 13) 32 9 rfl base 5 i5 Try.underlying32 Try.underlying9 hi hz0 hz1 hz2 v2 (n + (digs s.size).length + 1) (bcells (xs ++ digs s.size) ++ [.int .u8 58]) rfl own2 s rfl (by unfold maxLen; omega) (by omega) b2 ?_; intro v3 w3 own3 hg3 _))
  go_ret
  refine ⟨v3, rfl, ?_, ((B1.alloc b1 _).grown hg2 (by simp; omega) (fun q hq => (lt1 q hq).1)).grown hg3 b2 (fun q hq => (own2.lt q hq).1), Nat.le_trans b2 hg3.size⟩
  have e1 : n + (field s).length = n + (digs s.size).length + 1 + s.size := by simp [field, bytesOf_len]; omega
  have e2 : bcells (xs ++ field s) = bcells (xs ++ digs s.size) ++ [.int .u8 58] ++ Lib.strCells s := by
    rw [strCells_bcells]
    simp [bcells, field]
  rw [e1, e2]
  exact own3
end Go.Proofs.Qxb6626342a
