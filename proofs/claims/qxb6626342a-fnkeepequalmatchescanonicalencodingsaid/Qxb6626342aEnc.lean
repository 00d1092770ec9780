/- Seat b6626342a: the canonical encoding, plain: decimal digits, fields, and that it is injective. No Go in sight. -/
import Derived.Test.Qxb6626342aMem
namespace Go.Proofs.Qxb6626342a

/-! ### decimal digits -/
/-- The last f decimal digits of n, without leading noughts. -/
def digsF : Nat → Nat → List UInt8
  | 0, _ => []
  | f + 1, n => if n = 0 then [] else digsF f (n / 10) ++ [UInt8.ofNat (48 + n % 10)]
def digs (n : Nat) : List UInt8 := if n = 0 then [48] else digsF 20 n

def val (l : List UInt8) : Nat := l.foldl (fun a b => 10 * a + (b.toNat - 48)) 0
theorem val_append (a : List UInt8) (b : UInt8) : val (a ++ [b]) = 10 * val a + (b.toNat - 48) := by simp [val]
theorem dig_toNat (n : Nat) : (UInt8.ofNat (48 + n % 10)).toNat = 48 + n % 10 := by
  rw [UInt8.toNat_ofNat']
  omega
theorem val_digsF : ∀ (f n : Nat), n < 10 ^ f → val (digsF f n) = n := by
  intro f
  induction f with
  | zero => intro n h; have : n = 0 := by simpa using h
            subst this; rfl
  | succ f ih =>
    intro n h
    simp only [digsF]
    split
    · rename_i h0; subst h0; rfl
    · rw [val_append, dig_toNat, ih (n / 10) (by rw [Nat.pow_succ] at h; omega)]
      omega
theorem val_digs (n : Nat) (h : n < 10 ^ 20) : val (digs n) = n := by
  unfold digs
  split
  · rename_i h0; subst h0; rfl
  · exact val_digsF 20 n h
theorem digs_inj (a b : Nat) (ha : a < 10 ^ 20) (hb : b < 10 ^ 20) (h : digs a = digs b) : a = b := by
  rw [← val_digs a ha, ← val_digs b hb, h]

def isDig (b : UInt8) : Prop := 48 ≤ b.toNat ∧ b.toNat ≤ 57
theorem digsF_dig : ∀ (f n : Nat), ∀ b ∈ digsF f n, isDig b := by
  intro f
  induction f with
  | zero => intro n b h; cases h
  | succ f ih =>
    intro n b h
    simp only [digsF] at h
    split at h
    · cases h
    · rcases List.mem_append.1 h with h | h
      · exact ih _ b h
      · rw [List.mem_singleton] at h
        subst h
        unfold isDig
        rw [dig_toNat]
        omega
theorem digs_dig (n : Nat) : ∀ b ∈ digs n, isDig b := by
  intro b h
  unfold digs at h
  split at h
  · simp at h; subst h; exact ⟨by decide, by decide⟩
  · exact digsF_dig 20 n b h
theorem digsF_len : ∀ (f n : Nat), (digsF f n).length ≤ f := by
  intro f
  induction f with
  | zero => intro n; simp [digsF]
  | succ f ih =>
    intro n
    simp only [digsF]
    split
    · simp
    · have := ih (n / 10)
      simp; omega
theorem digs_len (n : Nat) : (digs n).length ≤ 20 := by
  unfold digs
  split
  · simp
  · exact digsF_len 20 n

/-- A run of digits ends where the first other byte stands. -/
theorem split_dig : ∀ (a b : List UInt8) (x y : UInt8) (r t : List UInt8), (∀ c ∈ a, isDig c) → (∀ c ∈ b, isDig c) → ¬ isDig x → ¬ isDig y → a ++ x :: r = b ++ y :: t → a = b ∧ x = y ∧ r = t := by
  intro a
  induction a with
  | nil =>
    intro b x y r t _ hb hx hy h
    cases b with
    | nil => simp at h; exact ⟨rfl, h.1, h.2⟩
    | cons c b =>
      simp at h
      exact absurd (hb c (by simp)) (by rw [← h.1]; exact hx)
  | cons c a ih =>
    intro b x y r t ha hb hx hy h
    cases b with
    | nil =>
      simp at h
      exact absurd (ha c (by simp)) (by rw [h.1]; exact hy)
    | cons d b =>
      simp at h
      obtain ⟨rfl, h⟩ := h
      obtain ⟨h1, h2, h3⟩ := ih b x y r t (fun e he => ha e (by simp [he])) (fun e he => hb e (by simp [he])) hx hy h
      exact ⟨by rw [h1], h2, h3⟩

/-! ### fields -/
def bytesOf (s : ByteArray) : List UInt8 := s.data.toList
theorem bytesOf_len (s : ByteArray) : (bytesOf s).length = s.size := by
  unfold bytesOf; rw [Array.length_toList]; rfl
theorem bytesOf_inj {s t : ByteArray} (h : bytesOf s = bytesOf t) : s = t := by
  obtain ⟨⟨x⟩⟩ := s
  obtain ⟨⟨y⟩⟩ := t
  have : x = y := h
  rw [this]
def field (s : ByteArray) : List UInt8 := digs s.size ++ 58 :: bytesOf s
def fieldL (x : Lab) : List UInt8 := field x.k ++ field x.v
def encL : List Lab → List UInt8
  | [] => []
  | x :: l => fieldL x ++ encL l
def encS : List ByteArray → List UInt8
  | [] => []
  | x :: l => field x ++ encS l
def enc (l : List Lab) (s : List ByteArray) : List UInt8 := digs l.length ++ 35 :: (encL l ++ (digs s.length ++ 35 :: encS s))

theorem field_inj {s t : ByteArray} {r u : List UInt8} (hs : s.size < 10 ^ 20) (ht : t.size < 10 ^ 20) (h : field s ++ r = field t ++ u) : s = t ∧ r = u := by
  unfold field at h
  simp only [List.append_assoc, List.cons_append] at h
  obtain ⟨h1, _, h2⟩ := split_dig _ _ _ _ _ _ (digs_dig _) (digs_dig _) (by unfold isDig; decide) (by unfold isDig; decide) h
  have e := digs_inj _ _ hs ht h1
  obtain ⟨h3, h4⟩ := List.append_inj h2 (by rw [bytesOf_len, bytesOf_len]; exact e)
  exact ⟨bytesOf_inj h3, h4⟩
theorem encL_inj : ∀ (l m : List Lab) (r u : List UInt8), l.length = m.length → (∀ x ∈ l, x.k.size < 10 ^ 20 ∧ x.v.size < 10 ^ 20) → (∀ x ∈ m, x.k.size < 10 ^ 20 ∧ x.v.size < 10 ^ 20) → encL l ++ r = encL m ++ u → l = m ∧ r = u := by
  intro l
  induction l with
  | nil =>
    intro m r u hl _ _ h
    cases m with
    | nil => exact ⟨rfl, h⟩
    | cons y m => simp at hl
  | cons x l ih =>
    intro m r u hl hx hy h
    cases m with
    | nil => simp at hl
    | cons y m =>
      simp only [encL, fieldL, List.append_assoc] at h
      obtain ⟨h1, h2⟩ := field_inj (hx x (by simp)).1 (hy y (by simp)).1 h
      obtain ⟨h3, h4⟩ := field_inj (hx x (by simp)).2 (hy y (by simp)).2 h2
      obtain ⟨h5, h6⟩ := ih m r u (by simpa using hl) (fun z hz => hx z (by simp [hz])) (fun z hz => hy z (by simp [hz])) h4
      refine ⟨?_, h6⟩
      obtain ⟨xk, xv⟩ := x
      obtain ⟨yk, yv⟩ := y
      simp only at h1 h3
      rw [h1, h3, h5]
theorem encS_inj : ∀ (l m : List ByteArray), l.length = m.length → (∀ x ∈ l, x.size < 10 ^ 20) → (∀ x ∈ m, x.size < 10 ^ 20) → encS l = encS m → l = m := by
  intro l
  induction l with
  | nil =>
    intro m hl _ _ h
    cases m with
    | nil => rfl
    | cons y m => simp at hl
  | cons x l ih =>
    intro m hl hx hy h
    cases m with
    | nil => simp at hl
    | cons y m =>
      simp only [encS] at h
      obtain ⟨h1, h2⟩ := field_inj (hx x (by simp)) (hy y (by simp)) h
      rw [h1, ih m (by simpa using hl) (fun z hz => hx z (by simp [hz])) (fun z hz => hy z (by simp [hz])) h2]
theorem enc_inj {l m : List Lab} {s t : List ByteArray} (n1 : l.length < 10 ^ 20) (n2 : m.length < 10 ^ 20) (n3 : s.length < 10 ^ 20) (n4 : t.length < 10 ^ 20)
    (hl : ∀ x ∈ l, x.k.size < 10 ^ 20 ∧ x.v.size < 10 ^ 20) (hm : ∀ x ∈ m, x.k.size < 10 ^ 20 ∧ x.v.size < 10 ^ 20) (hs : ∀ x ∈ s, x.size < 10 ^ 20) (ht : ∀ x ∈ t, x.size < 10 ^ 20)
    (h : enc l s = enc m t) : l = m ∧ s = t := by
  unfold enc at h
  obtain ⟨h1, _, h2⟩ := split_dig _ _ _ _ _ _ (digs_dig _) (digs_dig _) (by unfold isDig; decide) (by unfold isDig; decide) h
  obtain ⟨h3, h4⟩ := encL_inj l m _ _ (digs_inj _ _ n1 n2 h1) hl hm h2
  obtain ⟨h5, _, h6⟩ := split_dig _ _ _ _ _ _ (digs_dig _) (digs_dig _) (by unfold isDig; decide) (by unfold isDig; decide) h4
  exact ⟨h3, encS_inj s t (digs_inj _ _ n3 n4 h5) hs ht h6⟩

/-! ### lengths -/
theorem field_len (s : ByteArray) : (field s).length ≤ 21 + s.size := by
  unfold field
  have := digs_len s.size
  simp [bytesOf_len]; omega
theorem encL_take (l : List Lab) (k : Nat) (x : Lab) (h : l[k]? = some x) : encL (l.take (k + 1)) = encL (l.take k) ++ fieldL x := by
  rw [take_snoc l k x h]
  have : ∀ (a b : List Lab), encL (a ++ b) = encL a ++ encL b := by
    intro a b
    induction a with
    | nil => rfl
    | cons y a ih => simp [encL, ih]
  rw [this]; simp [encL]
theorem encS_take (l : List ByteArray) (k : Nat) (x : ByteArray) (h : l[k]? = some x) : encS (l.take (k + 1)) = encS (l.take k) ++ field x := by
  rw [take_snoc l k x h]
  have : ∀ (a b : List ByteArray), encS (a ++ b) = encS a ++ encS b := by
    intro a b
    induction a with
    | nil => rfl
    | cons y a ih => simp [encS, ih]
  rw [this]; simp [encS]
/-- Twice over: the encoding is no longer than twice the size that the law itself counts. -/
theorem encL_len (l : List Lab) : ((encL l).length : Int) ≤ 2 * lsize l := by
  induction l with
  | nil => simp [encL, lsize]
  | cons x l ih =>
    have h1 := field_len x.k
    have h2 := field_len x.v
    simp only [encL, fieldL, lsize, List.length_append]
    omega
theorem encS_len (l : List ByteArray) : ((encS l).length : Int) ≤ 2 * ssize l := by
  induction l with
  | nil => simp [encS, ssize]
  | cons x l ih =>
    have h1 := field_len x
    simp only [encS, ssize, List.length_append]
    omega
end Go.Proofs.Qxb6626342a
