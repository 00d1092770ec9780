/- Seat b6626342a: lawEncode. -/
import Derived.Test.Qxb6626342aInt
namespace Go.Proofs.Qxb6626342a
open Go.RowKit

theorem encL_le (l : List Lab) (k : Nat) : lsize (l.take k) ≤ lsize l := by
  have h := lsize_append (l.take k) (l.drop k)
  rw [List.take_append_drop] at h
  have := lsize_nn (l.drop k)
  omega
theorem encS_le (l : List ByteArray) (k : Nat) : ssize (l.take k) ≤ ssize l := by
  have h := ssize_append (l.take k) (l.drop k)
  rw [List.take_append_drop] at h
  have := ssize_nn (l.drop k)
  omega
theorem lab_size {l : List Lab} {k : Nat} {x : Lab} (h : l[k]? = some x) : (x.k.size : Int) + x.v.size ≤ lsize l := by
  have h1 := lsize_take l k x h
  have h2 := encL_le l (k + 1)
  have := lsize_nn (l.take k)
  omega
theorem str_size {l : List ByteArray} {k : Nat} {x : ByteArray} (h : l[k]? = some x) : (x.size : Int) ≤ ssize l := by
  have h1 := ssize_take l k x h
  have h2 := encS_le l (k + 1)
  have := ssize_nn (l.take k)
  omega

/-- What lawEncode has written when the labels are done up to k. -/
def preL (l : List Lab) (k : Nat) : List UInt8 := digs l.length ++ 35 :: encL (l.take k)
def preS (l : List Lab) (s : List ByteArray) (k : Nat) : List UInt8 := digs l.length ++ 35 :: (encL l ++ (digs s.length ++ 35 :: encS (s.take k)))
theorem preL_len (l : List Lab) (k : Nat) (h : lsize l ≤ 1048576) : (preL l k).length ≤ 2097300 := by
  have h1 := digs_len l.length
  have h2 := encL_len (l.take k)
  have h3 := encL_le l k
  simp [preL]
  omega
theorem preS_len (l : List Lab) (s : List ByteArray) (k : Nat) (h : lsize l + ssize s ≤ 1048576) : (preS l s k).length ≤ 2097400 := by
  have h1 := digs_len l.length
  have h2 := encL_len l
  have h3 := digs_len s.length
  have h4 := encS_len (s.take k)
  have h5 := encS_le s k
  simp [preS]
  omega
theorem preL_step {l : List Lab} {k : Nat} {x : Lab} (h : l[k]? = some x) : preL l (k + 1) = preL l k ++ field x.k ++ field x.v := by
  unfold preL
  rw [encL_take l k x h]
  simp [fieldL]
theorem preS_step {l : List Lab} {s : List ByteArray} {k : Nat} {x : ByteArray} (h : s[k]? = some x) : preS l s (k + 1) = preS l s k ++ field x := by
  unfold preS
  rw [encS_take s k x h]
  simp
theorem preL_all {l : List Lab} {s : List ByteArray} {k : Nat} (h : ¬ k < l.length) : preL l k ++ digs s.length ++ [35] = preS l s 0 := by
  unfold preL preS
  rw [List.take_of_length_le (by omega)]
  simp [encS]
theorem preS_all {l : List Lab} {s : List ByteArray} {k : Nat} (h : ¬ k < s.length) : preS l s k = enc l s := by
  unfold preS enc
  rw [List.take_of_length_le (by omega)]

set_option maxRecDepth 100000 in
set_option maxHeartbeats 1600000 in
theorem encode_any (ao bo : Option Addr) (ca cb : Nat) (l : List Lab) (s : List ByteArray) (w : World) (hl : LabsIn w ao l) (hs : StrsIn w bo s) (hz : Hid (lsize l + ssize s ≤ 1048576)) :
    Calls Try.prog 10 #[.slice ao l.length ca, .slice bo s.length cb] w fun e w' => ∃ v, e = .returned v ∧ w'.ownsRow w.heap.size 5 1 v (enc l s).length (bcells (enc l s)) ∧ Below w.heap.size w w' := by
  obtain ⟨i5, hi, hz0, hz1, hz2⟩ := info_parts Try.info5
  have hN : l.length ≤ 1048576 ∧ s.length ≤ 1048576 := by
    have := hz.out
    have := lsize_nn l
    have := ssize_nn s
    omega
  obtain ⟨hN1, hN2⟩ := hN
  have hdl := digs_len l.length
  have hds := digs_len s.length
  go_enter Try.func10, Try.ntmps10
  go_wp2_with fail
  refine (appendInt_any w.heap.size _ 0 [] l.length w (World.ownsRow_nil _ _ _ _) (Nat.le_refl _) (by omega) hN1).mono ?_
  rintro e w1 ⟨v1, rfl, own1, B1, b1⟩
  simp only [Nat.zero_add, List.nil_append] at own1
  have lt1 := own1.lt
  go_wp2_with (at_builtin; refine wpList_append_own _ rfl (.tmp 12) (.tmp 13) 32 rfl w.heap.size 5 i5 (.int .u8 0) 1 1 Try.underlying32 hi hz0 hz1 hz2 rfl (by omega) v1 (digs l.length).length (bcells (digs l.length)) rfl (own1.alloc _) ⟨w1.heap.size, 0, none⟩ 1 1 [.int .u8 35] rfl rfl (news1' _ _ _) (by simp [Value.oneCell']) (by unfold maxLen; omega) (by omega) (by simp; omega) ?_; intro v2 w2 own2 hg2 _)
  have b2 : w.heap.size ≤ w2.heap.size := Nat.le_trans (Nat.le_trans b1 (by simp)) hg2.size
  have B2 : Below w.heap.size w w2 := (B1.alloc b1 _).grown hg2 (by simp; omega) (fun q hq => (lt1 q hq).1)
  have own2' : w2.ownsRow w.heap.size 5 1 v2 (preL l 0).length (bcells (preL l 0)) := by
    have e1 : (preL l 0).length = (digs l.length).length + 1 := by simp [preL, encL]
    have e2 : bcells (preL l 0) = bcells (digs l.length) ++ [.int .u8 35] := by simp [preL, encL, bcells]
    rw [e1, e2]; exact own2
  clear own2 hg2 lt1 own1 B1 b1
  go_wp2_with fail
  go_loopw [5, 6] (fun v i wr => ∃ k : Nat, k ≤ l.length ∧ i = .int .i64 k ∧ wr.ownsRow w.heap.size 5 1 v (preL l k).length (bcells (preL l k)) ∧ Below w.heap.size w wr) (fun _ i _ => l.length - (intOf i).toNat)
  case atStart => exact ⟨0, Nat.zero_le _, rfl, own2', B2⟩
  case round =>
    clear own2' B2 b2
    obtain ⟨k, hk, rfl, hown, hnx⟩ := hrel
    by_cases hlt : k < l.length
    · obtain ⟨x, hx⟩ := nth hlt
      have hx2 := lab_size hx
      have hp := preL_len l k (by have := hz.out; have := ssize_nn s; omega)
      have xs : x.k.size ≤ 1048576 ∧ x.v.size ≤ 1048576 := by
        have := hz.out
        have := ssize_nn s
        omega
      obtain ⟨xs1, xs2⟩ := xs
      have HP : Hid (preL l (k + 1) = preL l k ++ field x.k ++ field x.v) := preL_step hx
      obtain ⟨b, off, rfl, c0, c1⟩ := hl.at hx
      have d0 := cell_below hnx c0
      have f1 := field_len x.k
      clear hx hx2
      go_wp2_with fail
      refine (appendField_any w.heap.size _ _ (preL l k) x.k wr hown hnx.size (by omega) xs1).mono ?_
      rintro e w3 ⟨v3, rfl, own3, B3, b3⟩
      have E3 := hnx.trans B3
      have d1 := cell_below E3 c1
      go_wp2_with fail
      refine (appendField_any w.heap.size _ _ (preL l k ++ field x.k) x.v w3 own3 b3 (by omega) xs2).mono ?_
      rintro e w4 ⟨v4, rfl, own4, B4, b4⟩
      have own4' : w4.ownsRow w.heap.size 5 1 v4 (preL l (k + 1)).length (bcells (preL l (k + 1))) := by
        rw [HP.out]
        simp only [List.length_append]
        exact own4
      clear own3 own4 hown
      go_wp2_with fail
      go_roundw
      case rel => exact ⟨k + 1, by omega, by go_num, own4', E3.trans B4⟩
      case measure => simp [intOf]; omega
    · have hp := preL_len l k (by have := hz.out; have := ssize_nn s; omega)
      have HQ : Hid (preL l k ++ digs s.length ++ [35] = preS l s 0) := preL_all hlt
      go_wp2_with fail
      refine (appendInt_any w.heap.size _ _ (preL l k) s.length wr hown hnx.size (by omega) hN2).mono ?_
      rintro e w3 ⟨v3, rfl, own3, B3, b3⟩
      have lt3 := own3.lt
      go_wp2_with (at_builtin; refine wpList_append_own _ rfl (.tmp 39) (.tmp 40) 32 rfl w.heap.size 5 i5 (.int .u8 0) 1 1 Try.underlying32 hi hz0 hz1 hz2 rfl (by omega) v3 ((preL l k).length + (digs s.length).length) (bcells (preL l k ++ digs s.length)) rfl (own3.alloc _) ⟨w3.heap.size, 0, none⟩ 1 1 [.int .u8 35] rfl rfl (news1' _ _ _) (by simp [Value.oneCell']) (by unfold maxLen; omega) (by omega) (by simp; omega) ?_; intro v4 w4 own4 hg4 _)
      have b4 : w.heap.size ≤ w4.heap.size := Nat.le_trans (Nat.le_trans b3 (by simp)) hg4.size
      have B4 : Below w.heap.size w w4 := ((hnx.trans B3).alloc b3 _).grown hg4 (by simp; omega) (fun q hq => (lt3 q hq).1)
      have own4' : w4.ownsRow w.heap.size 5 1 v4 (preS l s 0).length (bcells (preS l s 0)) := by
        rw [← HQ.out, bcells_append]
        simp only [List.length_append, List.length_cons, List.length_nil]
        exact own4
      clear own3 own4 hown hg4 lt3 B3 b3 hnx HQ
      go_wp2_with fail
      go_loopw [5, 7] (fun v i wr => ∃ j : Nat, j ≤ s.length ∧ i = .int .i64 j ∧ wr.ownsRow w.heap.size 5 1 v (preS l s j).length (bcells (preS l s j)) ∧ Below w.heap.size w wr) (fun _ i _ => s.length - (intOf i).toNat)
      case atStart => exact ⟨0, Nat.zero_le _, rfl, own4', B4⟩
      case round =>
        clear own4' B4 b4
        obtain ⟨j, hj, rfl, hown, hnx⟩ := hrel
        by_cases hjl : j < s.length
        · obtain ⟨x, hx⟩ := nth hjl
          have hx2 := str_size hx
          have hp := preS_len l s j hz.out
          have xs1 : x.size ≤ 1048576 := by
            have := hz.out
            have := lsize_nn l
            omega
          have HP : Hid (preS l s (j + 1) = preS l s j ++ field x) := preS_step hx
          obtain ⟨b, off, rfl, c0⟩ := hs.at hx
          have d0 := cell_below hnx c0
          clear hx hx2
          go_wp2_with fail
          refine (appendField_any w.heap.size _ _ (preS l s j) x _ hown hnx.size (by omega) xs1).mono ?_
          rintro e w3 ⟨v3, rfl, own3, B3, b3⟩
          have own3' : w3.ownsRow w.heap.size 5 1 v3 (preS l s (j + 1)).length (bcells (preS l s (j + 1))) := by
            rw [HP.out]
            simp only [List.length_append]
            exact own3
          clear own3 hown
          go_wp2_with fail
          go_roundw
          case rel => exact ⟨j + 1, by omega, by go_num, own3', hnx.trans B3⟩
          case measure => simp [intOf]; omega
        · have HE : Hid (preS l s j = enc l s) := preS_all hjl
          go_wp2_with fail
          go_ret
          refine ⟨_, rfl, ?_, hnx⟩
          rw [HE.out] at hown
          exact hown
end Go.Proofs.Qxb6626342a
