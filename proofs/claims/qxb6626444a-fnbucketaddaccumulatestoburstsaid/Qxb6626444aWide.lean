/- Seat b6626444a: numbers of 128 bits in two halves: mul64, add128, sub128, less128, satSub128, deficit, amount, by contracts. -/
import Derived.Test.Qxb6626444aAdd
import Derived.Lib.Mul64
import Derived.Laws.Bits64b
namespace Go.Proofs.Qxb6626444a
open Go.RowKit

def K64 : Int := 18446744073709551616
/-- The number whose halves are h and l. -/
def v128 (h l : Int) : Int := h * K64 + l
/-- Each half is an uint64. -/
structure Can (h l : Int) : Prop where
  h0 : 0 ≤ h
  h1 : h ≤ 18446744073709551615
  l0 : 0 ≤ l
  l1 : l ≤ 18446744073709551615
theorem v128_inj {h l h' l' : Int} (c : Can h l) (c' : Can h' l') (e : v128 h l = v128 h' l') : h = h' ∧ l = l' := by
  obtain ⟨a, b, c, d⟩ := c
  obtain ⟨a', b', c', d'⟩ := c'
  unfold v128 K64 at e
  omega
theorem v128_lt {h l h' l' : Int} (c : Can h l) (c' : Can h' l') : v128 h l < v128 h' l' ↔ h < h' ∨ h = h' ∧ l < l' := by
  obtain ⟨a, b, c, d⟩ := c
  obtain ⟨a', b', c', d'⟩ := c'
  unfold v128 K64
  omega

theorem maskN (a : Nat) (ha : a < 18446744073709551616) : bits .and .u64 (a : Int) 4294967295 = ((a % 4294967296 : Nat) : Int) := by
  have h := bits_and_u64_nat a 4294967295 ha (by omega)
  have e : a &&& 4294967295 = a % 4294967296 := Nat.and_two_pow_sub_one_eq_mod a 32
  rw [e] at h
  exact h
theorem divN (a : Nat) : (a : Int) / 4294967296 = ((a / 4294967296 : Nat) : Int) := by omega
theorem mulN (a b : Nat) : (a : Int) * (b : Int) = ((a * b : Nat) : Int) := (Int.natCast_mul a b).symm
theorem addN (a b : Nat) : (a : Int) + (b : Int) = ((a + b : Nat) : Int) := (Int.natCast_add a b).symm
theorem wrapN (a : Nat) (ha : a < 18446744073709551616) : IntKind.u64.wrap (a : Int) = (a : Int) := by rw [IntKind.wrap_u64]; omega
theorem wrapM (a : Nat) : IntKind.u64.wrap (a : Int) = ((a % 18446744073709551616 : Nat) : Int) := by rw [IntKind.wrap_u64]; omega

set_option maxHeartbeats 1000000 in
/-- After the library's own walk of math/bits.Mul64 (the same school method), turned to this function. -/
theorem mul_nat (x y : Nat) (hx : x < 18446744073709551616) (hy : y < 18446744073709551616) (w : World) :
    Calls Try.prog 11 #[.int .u64 x, .int .u64 y] w fun e w' => e = .returned (.tuple #[.int .u64 ((x * y / 18446744073709551616 : Nat) : Int), .int .u64 ((x * y % 18446744073709551616 : Nat) : Int)]) ∧ w' = w := by
  obtain ⟨bd, bt, bw, hhi⟩ := Lib.mul64_hi x y hx hy
  have ba := Lib.half_mul_le (a := x / 4294967296) (b := y / 4294967296) (by omega) (by omega)
  have bb := Lib.half_mul_le (a := x / 4294967296) (b := y % 4294967296) (by omega) (by omega)
  have bc := Lib.half_mul_le (a := x % 4294967296) (b := y / 4294967296) (by omega) (by omega)
  have ba' : x / 4294967296 * (y / 4294967296) < 18446744073709551616 := by omega
  have bb' : x / 4294967296 * (y % 4294967296) < 18446744073709551616 := by omega
  have bc' : x % 4294967296 * (y / 4294967296) < 18446744073709551616 := by omega
  have bh1 : x / 4294967296 * (y / 4294967296) + (x / 4294967296 * (y % 4294967296) + x % 4294967296 * (y % 4294967296) / 4294967296) / 4294967296 < 18446744073709551616 := by omega
  have bh : x / 4294967296 * (y / 4294967296) + (x / 4294967296 * (y % 4294967296) + x % 4294967296 * (y % 4294967296) / 4294967296) / 4294967296 + ((x / 4294967296 * (y % 4294967296) + x % 4294967296 * (y % 4294967296) / 4294967296) % 4294967296 + x % 4294967296 * (y / 4294967296)) / 4294967296 < 18446744073709551616 := by omega
  go_enter Try.func11, Try.ntmps11
  go_wp2
  simp only [maskN x hx, maskN y hy, divN, mulN, addN, wrapN _ bd, wrapN _ bb', wrapN _ bt, maskN _ bt, wrapN _ bc', wrapN _ bw, wrapN _ ba', wrapN _ bh1, wrapN _ bh, wrapM (x * y)]
  rw [hhi]
  go_ret2
  exact ⟨rfl, rfl⟩

theorem mul_any (x y : Int) (w : World) (hx0 : 0 ≤ x) (hx : x ≤ 18446744073709551615) (hy0 : 0 ≤ y) (hy : y ≤ 18446744073709551615) :
    Calls Try.prog 11 #[.int .u64 x, .int .u64 y] w fun e w' => ∃ h l, e = .returned (.tuple #[.int .u64 h, .int .u64 l]) ∧ Can h l ∧ Hid (v128 h l = x * y) ∧ w' = w := by
  obtain ⟨a, rfl⟩ := Int.eq_ofNat_of_zero_le hx0
  obtain ⟨b, rfl⟩ := Int.eq_ofNat_of_zero_le hy0
  refine (mul_nat a b (by omega) (by omega) w).mono ?_
  rintro e w' ⟨rfl, rfl⟩
  have h1 : a * b < 18446744073709551616 * 18446744073709551616 := Nat.mul_lt_mul'' (by omega) (by omega)
  refine ⟨_, _, rfl, ⟨by omega, by omega, by omega, by omega⟩, ?_, rfl⟩
  show v128 _ _ = _
  unfold v128 K64
  rw [mulN]
  omega

theorem wrap_bd (x : Int) : 0 ≤ IntKind.u64.wrap x ∧ IntKind.u64.wrap x ≤ 18446744073709551615 := by rw [IntKind.wrap_u64]; omega
theorem wrap_lo (x : Int) (h0 : -18446744073709551616 ≤ x) (h1 : x < 0) : IntKind.u64.wrap x = x + K64 := by rw [IntKind.wrap_u64]; unfold K64; omega
theorem wrap_hi (x : Int) (h0 : 18446744073709551616 ≤ x) (h1 : x < 36893488147419103232) : IntKind.u64.wrap x = x - K64 := by rw [IntKind.wrap_u64]; unfold K64; omega

theorem less_yes {ah al bh bl : Int} (w : World) (ca : Can ah al) (cb : Can bh bl) (h : v128 ah al < v128 bh bl) :
    Calls Try.prog 15 #[.int .u64 ah, .int .u64 al, .int .u64 bh, .int .u64 bl] w fun e w' => e = .returned (.bool true) ∧ w' = w := by
  rcases (v128_lt ca cb).1 h with h1 | ⟨rfl, h1⟩
  · clear h
    go_enter Try.func15, Try.ntmps15
    go_wp2
    go_ret
    exact ⟨rfl, rfl⟩
  · clear h
    go_enter Try.func15, Try.ntmps15
    go_wp2
    go_ret
    exact ⟨rfl, rfl⟩
theorem less_no {ah al bh bl : Int} (w : World) (ca : Can ah al) (cb : Can bh bl) (h : ¬ v128 ah al < v128 bh bl) :
    Calls Try.prog 15 #[.int .u64 ah, .int .u64 al, .int .u64 bh, .int .u64 bl] w fun e w' => e = .returned (.bool false) ∧ w' = w := by
  rw [v128_lt ca cb] at h
  by_cases h1 : ah = bh
  · subst h1
    have h2 : ¬ al < bl := fun h2 => h (.inr ⟨rfl, h2⟩)
    clear h
    go_enter Try.func15, Try.ntmps15
    go_wp2
    go_ret
    exact ⟨rfl, rfl⟩
  · have h2 : ¬ ah < bh := fun h2 => h (.inl h2)
    have h3 : (ah == bh) = false := by simpa using h1
    clear h h1
    go_enter Try.func15, Try.ntmps15
    go_wp2
    go_ret
    exact ⟨rfl, rfl⟩

theorem sub_any {ah al bh bl : Int} (w : World) (ca : Can ah al) (cb : Can bh bl) (h : v128 bh bl ≤ v128 ah al) :
    Calls Try.prog 12 #[.int .u64 ah, .int .u64 al, .int .u64 bh, .int .u64 bl] w fun e w' => ∃ h l, e = .returned (.tuple #[.int .u64 h, .int .u64 l]) ∧ Can h l ∧ Hid (v128 h l = v128 ah al - v128 bh bl) ∧ w' = w := by
  obtain ⟨a0, a1, a2, a3⟩ := ca
  obtain ⟨b0, b1, b2, b3⟩ := cb
  have H : Hid (v128 bh bl ≤ v128 ah al) := h
  clear h
  by_cases h1 : al < bl
  · have h2 : bh + 1 ≤ ah := by have := H.out; unfold v128 K64 at this; omega
    go_enter Try.func12, Try.ntmps12
    go_wp2
    go_ret2
    exact ⟨ah - bh - 1, IntKind.u64.wrap (al - bl), rfl, ⟨by omega, by omega, (wrap_bd _).1, (wrap_bd _).2⟩, by show _ = _; rw [wrap_lo _ (by omega) (by omega)]; unfold v128 K64; omega, rfl⟩
  · have h2 : bh ≤ ah := by have := H.out; unfold v128 K64 at this; omega
    go_enter Try.func12, Try.ntmps12
    go_wp2
    go_ret2
    exact ⟨ah - bh, al - bl, rfl, ⟨by omega, by omega, by omega, by omega⟩, by show _ = _; unfold v128 K64; omega, rfl⟩

theorem add_any {ah al bh bl : Int} (w : World) (ca : Can ah al) (cb : Can bh bl) (h : ah + bh + 1 ≤ 18446744073709551615) :
    Calls Try.prog 14 #[.int .u64 ah, .int .u64 al, .int .u64 bh, .int .u64 bl] w fun e w' => ∃ h l, e = .returned (.tuple #[.int .u64 h, .int .u64 l]) ∧ Can h l ∧ Hid (v128 h l = v128 ah al + v128 bh bl) ∧ w' = w := by
  obtain ⟨a0, a1, a2, a3⟩ := ca
  obtain ⟨b0, b1, b2, b3⟩ := cb
  by_cases h1 : al + bl ≤ 18446744073709551615
  · go_enter Try.func14, Try.ntmps14
    go_wp2
    go_ret2
    exact ⟨ah + bh, al + bl, rfl, ⟨by omega, by omega, by omega, by omega⟩, by show _ = _; unfold v128 K64; omega, rfl⟩
  · have hw : IntKind.u64.wrap (al + bl) < al := by rw [wrap_hi _ (by omega) (by omega)]; unfold K64; omega
    go_enter Try.func14, Try.ntmps14
    go_wp2
    go_ret2
    exact ⟨ah + bh + 1, IntKind.u64.wrap (al + bl), rfl, ⟨by omega, by omega, (wrap_bd _).1, (wrap_bd _).2⟩, by show _ = _; rw [wrap_hi _ (by omega) (by omega)]; unfold v128 K64; omega, rfl⟩

theorem v128_nn {h l : Int} (c : Can h l) : 0 ≤ v128 h l := by
  obtain ⟨a, b, c, d⟩ := c
  unfold v128 K64
  omega
theorem can_zero : Can 0 0 := ⟨by omega, by omega, by omega, by omega⟩
theorem v128_zero (x : Int) : v128 0 x = x := by unfold v128; omega

theorem sat_any {dh dl ah al : Int} (w : World) (cd : Can dh dl) (ca : Can ah al) :
    Calls Try.prog 9 #[.int .u64 dh, .int .u64 dl, .int .u64 ah, .int .u64 al] w fun e w' => ∃ h l, e = .returned (.tuple #[.int .u64 h, .int .u64 l]) ∧ Can h l ∧ Hid (v128 h l = max 0 (v128 dh dl - v128 ah al)) ∧ w' = w := by
  by_cases hlt : v128 ah al < v128 dh dl
  · have H : Hid (v128 ah al < v128 dh dl) := hlt
    clear hlt
    go_enter Try.func9, Try.ntmps9
    go_wp2_with fail
    refine (less_yes w ca cd H.out).mono ?_
    rintro e w ⟨rfl, rfl⟩
    go_wp2_with fail
    refine (sub_any w cd ca (Int.le_of_lt H.out)).mono ?_
    rintro e w ⟨h, l, rfl, c, HV, rfl⟩
    go_wp2_with fail
    go_ret2
    exact ⟨h, l, rfl, c, by show _ = _; rw [HV.out]; have := H.out; omega, rfl⟩
  · have H : Hid (v128 dh dl ≤ v128 ah al) := Int.not_lt.1 hlt
    clear hlt
    go_enter Try.func9, Try.ntmps9
    go_wp2_with fail
    refine (less_no w ca cd (Int.not_lt.2 H.out)).mono ?_
    rintro e w ⟨rfl, rfl⟩
    go_wp2_with fail
    go_ret2
    exact ⟨0, 0, rfl, can_zero, by show _ = _; rw [v128_zero]; have := H.out; omega, rfl⟩

theorem deficit_any (period burst tokens part : Int) (w : World) (hp0 : 1 ≤ period) (hp1 : period ≤ 9223372036854775808) (hq : 0 ≤ part) (hv : Hid (Valid period burst tokens part)) :
    Calls Try.prog 6 #[.int .u64 period, .int .i64 burst, .int .i64 tokens, .int .u64 part] w fun e w' => ∃ h l, e = .returned (.tuple #[.int .u64 h, .int .u64 l]) ∧ Can h l ∧ Hid (v128 h l = (burst - tokens) * period - part) ∧ w' = w := by
  obtain ⟨v1, v2, v3, v4⟩ := hv.out
  have HN : Hid (part ≤ (burst - tokens) * period) := by
    show part ≤ (burst - tokens) * period
    rcases v4 with h | h
    · have := Int.mul_le_mul_of_nonneg_right (show 1 ≤ burst - tokens by omega) (show 0 ≤ period by omega)
      omega
    · have := Int.mul_nonneg (show 0 ≤ burst - tokens by omega) (show 0 ≤ period by omega)
      omega
  clear v4
  go_enter Try.func6, Try.ntmps6
  go_wp2_with fail
  refine (mul_any (burst - tokens) period w (by omega) (by omega) (by omega) (by omega)).mono ?_
  rintro e w ⟨h, l, rfl, c, HV, rfl⟩
  have cp : Can 0 part := ⟨by omega, by omega, hq, by omega⟩
  have HC : Hid (v128 0 part ≤ v128 h l) := by show _ ≤ _; rw [v128_zero, HV.out]; exact HN.out
  go_wp2_with fail
  refine (sub_any w c cp HC.out).mono ?_
  rintro e w ⟨h', l', rfl, c', HV', rfl⟩
  go_wp2_with fail
  go_ret2
  exact ⟨h', l', rfl, c', by show _ = _; rw [HV'.out, v128_zero, HV.out], rfl⟩

theorem amount_any (period whole part : Int) (w : World) (hp0 : 1 ≤ period) (hp1 : period ≤ 9223372036854775808) (hw0 : 0 ≤ whole) (hw1 : whole ≤ 18446744073709551615) (hq0 : 0 ≤ part) (hq1 : part < period) :
    Calls Try.prog 8 #[.int .u64 period, .int .u64 whole, .int .u64 part] w fun e w' => ∃ h l, e = .returned (.tuple #[.int .u64 h, .int .u64 l]) ∧ Can h l ∧ Hid (v128 h l = whole * period + part) ∧ w' = w := by
  go_enter Try.func8, Try.ntmps8
  go_wp2_with fail
  refine (mul_any whole period w hw0 hw1 (by omega) (by omega)).mono ?_
  rintro e w ⟨h, l, rfl, c, HV, rfl⟩
  have cp : Can 0 part := ⟨by omega, by omega, hq0, by omega⟩
  have hh : h + 0 + 1 ≤ 18446744073709551615 := by
    have e := HV.out
    have h1 := Int.mul_le_mul hw1 hp1 (by omega) (by omega)
    obtain ⟨a, b, c, d⟩ := c
    unfold v128 K64 at e
    omega
  go_wp2_with fail
  refine (add_any w c cp hh).mono ?_
  rintro e w ⟨h', l', rfl, c', HV', rfl⟩
  go_wp2_with fail
  go_ret2
  exact ⟨h', l', rfl, c', by show _ = _; rw [HV'.out, v128_zero, HV.out], rfl⟩

/-! ### the plain law of adding -/
theorem low_full {N p whole c lpart part : Int} (hp : 0 ≤ p) (hn : N ≤ whole + c) (hr : 0 ≤ part + lpart - c * p) : N * p - lpart - (whole * p + part) ≤ 0 := by
  have h := Int.mul_le_mul_of_nonneg_right hn hp
  rw [Int.add_mul] at h
  omega
theorem low_not {burst tokens p whole c lpart part : Int} : (burst - (tokens + whole + c)) * p - (part + lpart - c * p) = (burst - tokens) * p - lpart - (whole * p + part) := by
  simp only [Int.sub_mul, Int.add_mul]
  omega
theorem low_pos {N p Q : Int} (hN : 1 ≤ N) (hp : 0 ≤ p) (hQ : Q < p) : 0 ≤ N * p - Q := by
  have h := Int.mul_le_mul_of_nonneg_right hN hp
  omega
theorem uniq {p burst T Q T' Q' : Int} (hp : 0 ≤ p) (h0 : 0 ≤ Q) (h1 : Q < p) (h2 : 0 ≤ Q') (h3 : Q' < p) (e : (burst - T) * p - Q = (burst - T') * p - Q') : T = T' ∧ Q = Q' := by
  simp only [Int.sub_mul] at e
  have hT : T = T' := by
    rcases Int.lt_trichotomy T T' with h | h | h
    · have := Int.mul_le_mul_of_nonneg_right (show T + 1 ≤ T' by omega) hp
      rw [Int.add_mul] at this
      omega
    · exact h
    · have := Int.mul_le_mul_of_nonneg_right (show T' + 1 ≤ T by omega) hp
      rw [Int.add_mul] at this
      omega
  subst hT
  exact ⟨rfl, by omega⟩

/-- What is lacking of burst. -/
def lack (period burst tokens part : Int) : Int := (burst - tokens) * period - part
def amt (period whole part : Int) : Int := whole * period + part

theorem addz_any (events period burst tokens lpart whole part : Int) (w : World) (hp0 : 1 ≤ period) (hp1 : period ≤ 9223372036854775808) (hb0 : 1 ≤ burst) (hb1 : burst ≤ 9223372036854775807)
    (hl0 : 0 ≤ lpart) (hv : Hid (Valid period burst tokens lpart)) (hw0 : 0 ≤ whole) (hw1 : whole ≤ 18446744073709551614) (hq0 : 0 ≤ part) (hq1 : part < period) :
    Calls Try.prog 7 #[.int .u64 events, .int .u64 period, .int .i64 burst, .int .i64 tokens, .int .u64 lpart, .int .u64 whole, .int .u64 part] w fun e w' =>
      ∃ T Q, e = .returned (.tuple #[.int .i64 T, .int .u64 Q]) ∧ 0 ≤ Q ∧ Q < period ∧ Hid (Valid period burst T Q) ∧ Hid (lack period burst T Q = max 0 (lack period burst tokens lpart - amt period whole part)) ∧ Below w.heap.size w w' := by
  obtain ⟨v1, v2, v3, v4⟩ := hv.out
  obtain ⟨c, hc⟩ : ∃ c : Int, (c = 0 ∧ part + lpart < period) ∨ (c = 1 ∧ period ≤ part + lpart) := by
    by_cases h : part + lpart < period
    · exact ⟨0, .inl ⟨rfl, h⟩⟩
    · exact ⟨1, .inr ⟨rfl, by omega⟩⟩
  have hr : 0 ≤ part + lpart - c * period ∧ part + lpart - c * period < period := by
    rcases hc with ⟨rfl, h⟩ | ⟨rfl, h⟩ <;> omega
  by_cases hn : whole + c < burst - tokens
  · refine (add_not events period burst tokens lpart whole part _ _ c w hp0 hp1 hb0 hb1 v2 v1 hl0 v3 hw0 hw1 hq0 hq1 hc hn rfl rfl).mono ?_
    rintro e w' ⟨rfl, hb⟩
    have hc0 : 0 ≤ c := by rcases hc with ⟨rfl, _⟩ | ⟨rfl, _⟩ <;> omega
    refine ⟨_, _, rfl, hr.1, hr.2, ⟨by omega, by omega, hr.2, .inl (by omega)⟩, ?_, hb⟩
    show lack _ _ _ _ = _
    unfold lack amt
    have h1 := low_pos (N := burst - (tokens + whole + c)) (p := period) (Q := part + lpart - c * period) (by omega) (by omega) hr.2
    rw [low_not] at h1 ⊢
    omega
  · refine (add_full events period burst tokens lpart whole part c w hp0 hp1 hb0 hb1 v2 v1 hl0 v3 hw0 hw1 hq0 hq1 hc (by omega)).mono ?_
    rintro e w' ⟨rfl, hb⟩
    refine ⟨_, _, rfl, by omega, by omega, ⟨by omega, by omega, by omega, .inr rfl⟩, ?_, hb⟩
    show lack _ _ _ _ = _
    unfold lack amt
    have h1 := low_full (N := burst - tokens) (p := period) (whole := whole) (c := c) (lpart := lpart) (part := part) (by omega) (by omega) hr.1
    have h2 : (burst - burst) * period = 0 := by simp
    rw [h2]
    omega
end Go.Proofs.Qxb6626444a
