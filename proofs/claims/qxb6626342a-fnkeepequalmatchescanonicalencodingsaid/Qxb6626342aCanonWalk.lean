/- Seat b6626342a: the walk of FnKeepEqualMatchesCanonicalEncoding. -/
import Derived.Test.Qxb6626342aLeaf
import Derived.Test.Qxb6626342aBytes
import Derived.Test.Qxb6626342aMake
import Derived.Test.Qxb6626342aEqual
import Derived.Test.Qxb6626342aEncode
import Derived.Deep.RegionWith
import Derived.Deep.AppendLies
import Derived.Deep.DrawnRows
import Derived.Laws.IdiomStrings
namespace Go.Proofs.Qxb6626342a
open Go.RowKit

attribute [local go_sem ↓] Go.wp_at_zero Go.wp_at_succ

theorem eql_bool' (w : World) (a b : Bool) : (binOp .eql 4 (.bool a) (.bool b)).run Try.prog w = .ok (.bool (a == b)) w := by
  have h : ∀ d : Nat, (Op.equalIn (d + 1) 4 (.bool a) (.bool b)).run Try.prog w = .ok (a == b) w := fun d => run_equalIn_bool w d 4 a b Try.underlying4
  simp only [binOp]
  simp [Op.equal, Op.maxDepth, h 9999]
theorem enc_pos (l : List Lab) (s : List ByteArray) : 0 < (enc l s).length := by simp [enc]; omega
/-- The encoding as a Go string. -/
def encStr (l : List Lab) (s : List ByteArray) : ByteArray := ⟨(enc l s).toArray⟩
theorem encStr_toList (l : List Lab) (s : List ByteArray) : (encStr l s).toList = enc l s := by rw [ByteArray.toList_eq]; rfl
theorem conv_own {W : World} {base g cp : Nat} {l : List Lab} {s : List ByteArray} (own : W.ownsRow base 5 1 (.slice (some ⟨g, 0, none⟩) (enc l s).length cp) (enc l s).length (bcells (enc l s))) :
    (convert 32 9 (.slice (some ⟨g, 0, none⟩) (enc l s).length cp)).run Try.prog W = .ok (.string (encStr l s)) W := by
  refine run_convert_bytes_back W 32 9 5 ⟨g, 0, none⟩ cp (enc l s) Try.underlying32 Try.underlying5 Try.underlying9 (fun j hj => ?_)
  have e : (⟨g, 0, none⟩ : Addr).add j = ⟨g, j, none⟩ := by
    unfold Addr.add
    split
    · rename_i h; subst h; rfl
    · simp
  rw [e, own.cellAt j (by omega)]
  simp [bcells, hj]
theorem same_enc {l m : List Lab} {s t : List ByteArray} (h : lsize l + ssize s + lsize m + ssize t ≤ 1048576) : ((encStr l s).toList == (encStr m t).toList) = true ↔ Same l m s t := by
  rw [encStr_toList, encStr_toList]
  have p : (1048576 : Nat) < 10 ^ 20 := by decide
  have g0 := lsize_nn l
  have g1 := ssize_nn s
  have g2 := lsize_nn m
  have g3 := ssize_nn t
  constructor
  · intro e
    have e := eq_of_beq e
    have labs : ∀ {q : List Lab}, lsize q ≤ 1048576 → ∀ x ∈ q, x.k.size < 10 ^ 20 ∧ x.v.size < 10 ^ 20 := by
      intro q hq x hx
      obtain ⟨i, hi⟩ := List.mem_iff_getElem?.1 hx
      have := lab_size hi
      omega
    have strs : ∀ {q : List ByteArray}, ssize q ≤ 1048576 → ∀ x ∈ q, x.size < 10 ^ 20 := by
      intro q hq x hx
      obtain ⟨i, hi⟩ := List.mem_iff_getElem?.1 hx
      have := str_size hi
      omega
    exact enc_inj (by omega) (by omega) (by omega) (by omega) (labs (by omega)) (labs (by omega)) (strs (by omega)) (strs (by omega)) e
  · rintro ⟨rfl, rfl⟩
    simp

set_option maxRecDepth 100000 in
set_option maxHeartbeats 1600000 in
theorem canon_walk (a0 a1 a2 a3 : Option Addr) (c0 c1 c2 c3 : Nat) (l0 l2 : List Lab) (l1 l3 : List ByteArray) (w : World) (n0 : l0.length ≤ maxLen) (n1 : l1.length ≤ maxLen) (n2 : l2.length ≤ maxLen) (n3 : l3.length ≤ maxLen)
    (h0 : LabsIn w a0 l0) (h1 : StrsIn w a1 l1) (h2 : LabsIn w a2 l2) (h3 : StrsIn w a3 l3) :
    Calls Try.prog 3 #[.slice a0 l0.length c0, .slice a1 l1.length c1, .slice a2 l2.length c2, .slice a3 l3.length c3] w fun e w' => e = .returned (.bool true) ∧ Below w.heap.size w w' := by
  go_enter Try.func3, Try.ntmps3
  go_wp2_with fail
  refine (bytes5_any a0 a1 a2 a3 c0 c1 c2 c3 l0 l2 l1 l3 w h0 h1 h2 h3).mono ?_
  rintro e w ⟨⟨bb, rfl, HP⟩, rfl⟩
  cases bb
  · clear HP
    go_wp2_with fail
    go_ret
    exact ⟨rfl, Below.refl _ _⟩
  obtain ⟨z0, z1, z2, z3⟩ := HP rfl
  have Z0 : Hid (LabsSmall l0) := z0
  have Z1 : Hid (StrsSmall l1) := z1
  have Z2 : Hid (LabsSmall l2) := z2
  have Z3 : Hid (StrsSmall l3) := z3
  clear HP z0 z1 z2 z3
  go_wp2_with fail
  refine (labelBytes_any _ _ l0 _ _ n0 h0 Z0 (by omega) (by omega)).mono ?_
  rintro e w ⟨r0, rfl, p0, q0, H0, rfl⟩
  by_cases g0 : 1048576 < r0
  · go_wp2_with fail
    go_ret
    exact ⟨rfl, Below.refl _ _⟩
  go_wp2_with fail
  refine (stringBytes_any _ _ l1 _ _ n1 h1 Z1 p0 (by omega)).mono ?_
  rintro e w ⟨r1, rfl, p1, q1, H1, rfl⟩
  by_cases g1 : 1048576 < r1
  · go_wp2_with fail
    go_ret
    exact ⟨rfl, Below.refl _ _⟩
  go_wp2_with fail
  refine (labelBytes_any _ _ l2 _ _ n2 h2 Z2 p1 (by omega)).mono ?_
  rintro e w ⟨r2, rfl, p2, q2, H2, rfl⟩
  by_cases g2 : 1048576 < r2
  · go_wp2_with fail
    go_ret
    exact ⟨rfl, Below.refl _ _⟩
  go_wp2_with fail
  refine (stringBytes_any _ _ l3 _ _ n3 h3 Z3 p2 (by omega)).mono ?_
  rintro e w ⟨r3, rfl, p3, q3, H3, rfl⟩
  by_cases g3 : 1048576 < r3
  · go_wp2_with fail
    go_ret
    exact ⟨rfl, Below.refl _ _⟩
  have HZ : Hid (lsize l0 + ssize l1 + lsize l2 + ssize l3 ≤ 1048576) := by
    have e3 := H3.out (by omega)
    have e2 := H2.out (by omega)
    have e1 := H1.out (by omega)
    have e0 := H0.out (by omega)
    show _ ≤ _
    omega
  have HZ1 : Hid (lsize l0 + ssize l1 ≤ 1048576) := by
    have := HZ.out
    have := lsize_nn l2
    have := ssize_nn l3
    show _ ≤ _
    omega
  have HZ2 : Hid (lsize l2 + ssize l3 ≤ 1048576) := by
    have := HZ.out
    have := lsize_nn l0
    have := ssize_nn l1
    show _ ≤ _
    omega
  have m0 : l0.length ≤ 1048576 ∧ l2.length ≤ 1048576 := by
    have := HZ.out
    have := lsize_nn l0
    have := ssize_nn l1
    have := lsize_nn l2
    have := ssize_nn l3
    omega
  obtain ⟨m0, m2⟩ := m0
  clear H0 H1 H2 H3 q0 q1 q2 q3 p0 p1 p2 Z0 Z1 Z2 Z3
  go_wp2_with fail
  refine (toLabels_any _ _ l0 _ m0 h0).mono ?_
  rintro e w0 ⟨ka, kc, rfl, own1, B1⟩
  have LK0 := labs_of_own own1
  clear own1
  go_wp2_with fail
  have KC0 : (w0.alloc (.cells #[.slice ka l0.length kc, .slice a1 l1.length c1] 30)).cell? ⟨w0.heap.size, 0, none⟩ = some (.slice ka l0.length kc) := by simp
  have KC1 : (w0.alloc (.cells #[.slice ka l0.length kc, .slice a1 l1.length c1] 30)).cell? ⟨w0.heap.size, 1, none⟩ = some (.slice a1 l1.length c1) := by simp
  have A1 : Below w0.heap.size w0 (w0.alloc (.cells #[.slice ka l0.length kc, .slice a1 l1.length c1] 30)) := (Below.refl _ _).alloc (Nat.le_refl _) _
  have LK := LK0.mono A1
  have E1 := comp B1 A1
  clear LK0 A1 B1
  generalize w0.alloc (.cells #[.slice ka l0.length kc, .slice a1 l1.length c1] 30) = w1 at *
  generalize w0.heap.size = kb at *
  refine (toLabels_any _ _ l2 _ m2 (h2.mono E1)).mono ?_
  rintro e w2 ⟨oa, oc, rfl, own2, B2⟩
  have LO := labs_of_own own2
  have KD0 := cell_below B2 KC0
  have KD1 := cell_below B2 KC1
  have kb2 := World.block_lt_of_cell? w2 _ KD0
  simp only at kb2
  have LK2 := LK.mono B2
  have E2 := comp E1 B2
  have S1 := h1.mono E2
  have S3 := h3.mono E2
  clear own2 LK E1 B2 KC0 KC1
  go_wp2_with fail
  have A2 : Below w2.heap.size w2 (w2.alloc (.cells #[.slice oa l2.length oc, .slice a3 l3.length c3] 30)) := (Below.refl _ _).alloc (Nat.le_refl _) _
  refine (equal_any ka a1 oa a3 kc c1 oc c3 _ _ _ _ l0 l2 l1 l3 _ n0 n1 (LK2.mono A2) (S1.mono A2) (LO.mono A2) (S3.mono A2) rfl rfl rfl rfl).mono ?_
  rintro e w3 ⟨⟨b1, rfl, q1⟩, B3⟩
  have E3 := comp E2 (comp A2 B3)
  have T0 := h0.mono E3
  have T1 := h1.mono E3
  have T2 := h2.mono E3
  have T3 := h3.mono E3
  have HB : Hid (b1 = ((encStr l0 l1).toList == (encStr l2 l3).toList)) := Bool.eq_iff_iff.2 (q1.trans (same_enc HZ.out).symm)
  clear q1 h0 h1 h2 h3 LK2 S1 S3 LO KD0 KD1 A2 B3 E2 kb2
  go_wp2_with fail
  go_region_with
    (first
      | (go_at_call_of 10 (Value.slice a0 l0.length c0); refine (encode_any _ _ _ _ l0 l1 _ ?_ ?_ HZ1).mono ?_; (exact T0); (exact T1); rintro e w4 ⟨v4, rfl, own4, B4'⟩; have B4 : Below w3.heap.size w3 w4 := comp (Below.drew (Below.refl _ _)) B4'; obtain ⟨g4, cp4, rfl, _, _⟩ := own4.form (enc_pos l0 l1); have cv1 := conv_own own4)
      | (go_at_call_of 10 (Value.slice a2 l2.length c2); refine (encode_any _ _ _ _ l2 l3 _ ?_ ?_ HZ2).mono ?_; (exact T2.mono B4); (exact T3.mono B4); rintro e w5 ⟨v5, rfl, own5, B5⟩; obtain ⟨g5, cp5, rfl, _, _⟩ := own5.form (enc_pos l2 l3); have cv2 := conv_own own5; have cv3 := conv_own (ownsRow_mono own4 B5)))
  all_goals
    have qb := eql_bool'
    go_wp2_with fail
    go_ret
    refine ⟨?_, comp E3 (comp B4 B5)⟩
    rw [HB.out]
    simp
end Go.Proofs.Qxb6626342a
