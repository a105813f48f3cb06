/-
  PLAIN ARITHMETIC, NO GO: one step of the long division by halves (Knuth's D), the shift ahead of it, the whole.
-/
namespace Go.Proofs.Qxb6605954a

/-- The estimate is one too great, or less: what the test says. -/
theorem knuth_more {u d y1 y0 q r : Nat} (hu : u = q * y1 + r) (hq : u < y1 * 4294967296 + y0) (hd : d < 4294967296)
    (h : q ≥ 4294967296 ∨ q * y0 > 4294967296 * r + d) : (u * 4294967296 + d) / (y1 * 4294967296 + y0) < q := by
  have hy : 0 < y1 * 4294967296 + y0 := by omega
  rw [Nat.div_lt_iff_lt_mul hy]
  rcases h with h | h
  · have h1 : (u + 1) * 4294967296 ≤ (y1 * 4294967296 + y0) * 4294967296 := Nat.mul_le_mul_right _ hq
    have h2 : 4294967296 * (y1 * 4294967296 + y0) ≤ q * (y1 * 4294967296 + y0) := Nat.mul_le_mul_right _ h
    rw [Nat.mul_comm (y1 * 4294967296 + y0) 4294967296] at h1
    omega
  · have e : q * (y1 * 4294967296 + y0) = q * y1 * 4294967296 + q * y0 := by rw [Nat.mul_add, Nat.mul_assoc]
    rw [e, hu, Nat.add_mul]
    omega

/-- .. and it is right as soon as it is small enough. -/
theorem knuth_done {u d y1 y0 q r : Nat} (hu : u = q * y1 + r) (hy : 0 < y1 * 4294967296 + y0) (hle : (u * 4294967296 + d) / (y1 * 4294967296 + y0) ≤ q)
    (h : q * y0 ≤ 4294967296 * r + d) : q = (u * 4294967296 + d) / (y1 * 4294967296 + y0) := by
  refine Nat.le_antisymm ?_ hle
  rw [Nat.le_div_iff_mul_le hy]
  have e : q * (y1 * 4294967296 + y0) = q * y1 * 4294967296 + q * y0 := by rw [Nat.mul_add, Nat.mul_assoc]
  rw [e, hu, Nat.add_mul]
  omega

theorem knuth_first {u d y1 y0 : Nat} (h1 : 2147483648 ≤ y1) (hy0 : y0 < 4294967296) (hq : u < y1 * 4294967296 + y0) (hd : d < 4294967296) :
    (u * 4294967296 + d) / (y1 * 4294967296 + y0) ≤ u / y1 ∧ u / y1 ≤ 4294967297 := by
  have hpos : 0 < y1 := by omega
  have hm := Nat.div_add_mod u y1
  have hr := Nat.mod_lt u hpos
  constructor
  · have hy : 0 < y1 * 4294967296 + y0 := by omega
    rw [← Nat.lt_succ_iff, Nat.div_lt_iff_lt_mul hy]
    have e : (u / y1 + 1) * (y1 * 4294967296 + y0) = (u / y1 + 1) * y1 * 4294967296 + (u / y1 + 1) * y0 := by rw [Nat.mul_add, Nat.mul_assoc]
    have e2 : (u / y1 + 1) * y1 = y1 * (u / y1) + y1 := by rw [Nat.add_mul, Nat.one_mul, Nat.mul_comm]
    rw [Nat.succ_eq_add_one, e, e2]
    omega
  · rw [← Nat.lt_succ_iff, Nat.div_lt_iff_lt_mul hpos]
    omega

/-- The break: the rest has grown past a half. -/
theorem knuth_break {q r y0 d : Nat} (hq : q ≤ 4294967296) (hy0 : y0 < 4294967296) (hr : 4294967296 ≤ r) : q * y0 ≤ 4294967296 * r + d := by
  have h1 : q * y0 ≤ 4294967296 * y0 := Nat.mul_le_mul_right _ hq
  omega

theorem knuth_lt {u d y : Nat} (hu : u < y) (hd : d < 4294967296) : (u * 4294967296 + d) / y < 4294967296 := by
  rw [Nat.div_lt_iff_lt_mul (by omega)]
  have : (u + 1) * 4294967296 ≤ y * 4294967296 := Nat.mul_le_mul_right _ hu
  rw [Nat.mul_comm 4294967296 y]
  omega

theorem knuth_eq {u a b y Q R : Nat} (h : y * Q + R = u * 4294967296 + a) : u * 18446744073709551616 + a * 4294967296 + b = y * (Q * 4294967296) + (R * 4294967296 + b) := by
  rw [← Nat.mul_assoc]
  omega

/-- Two halves make the whole. -/
theorem knuth_two {u a b y : Nat} (hy : 0 < y) :
    (u * 4294967296 + a) / y * 4294967296 + ((u * 4294967296 + a) % y * 4294967296 + b) / y = (u * 18446744073709551616 + a * 4294967296 + b) / y := by
  rw [knuth_eq (b := b) (Nat.div_add_mod (u * 4294967296 + a) y), Nat.mul_add_div hy]

/-- The shift ahead of the division: the dividend's two words. -/
theorem shift_words {hi lo s : Nat} (hs : s ≤ 64) :
    (hi * 2 ^ s + lo / 2 ^ (64 - s)) * 18446744073709551616 + lo * 2 ^ s % 18446744073709551616 = (hi * 18446744073709551616 + lo) * 2 ^ s := by
  have hp : 2 ^ (64 - s) * 2 ^ s = 18446744073709551616 := by rw [← Nat.pow_add, Nat.sub_add_cancel hs]
  have hd : lo / 2 ^ (64 - s) = lo * 2 ^ s / 18446744073709551616 := by
    rw [← hp, Nat.mul_div_mul_right _ _ (Nat.pow_pos (by omega))]
  rw [hd, Nat.add_mul (hi * 18446744073709551616)]
  have e := Nat.div_add_mod (lo * 2 ^ s) 18446744073709551616
  have e2 : hi * 18446744073709551616 * 2 ^ s = hi * 2 ^ s * 18446744073709551616 := by rw [Nat.mul_assoc, Nat.mul_comm 18446744073709551616, ← Nat.mul_assoc]
  rw [e2]
  omega

theorem shift_lt {hi lo y s : Nat} (hs : s ≤ 64) (hlo : lo < 18446744073709551616) (h : hi < y) : hi * 2 ^ s + lo / 2 ^ (64 - s) < y * 2 ^ s := by
  have e := shift_words (hi := hi) (lo := lo) hs
  have h1 : hi * 18446744073709551616 + lo < y * 18446744073709551616 := by
    have : (hi + 1) * 18446744073709551616 ≤ y * 18446744073709551616 := Nat.mul_le_mul_right _ h
    omega
  have h2 : (hi * 18446744073709551616 + lo) * 2 ^ s < y * 18446744073709551616 * 2 ^ s := Nat.mul_lt_mul_of_pos_right h1 (Nat.pow_pos (by omega))
  have e2 : y * 18446744073709551616 * 2 ^ s = y * 2 ^ s * 18446744073709551616 := by rw [Nat.mul_assoc, Nat.mul_comm 18446744073709551616, ← Nat.mul_assoc]
  rw [e2, ← e] at h2
  omega

/-- The whole: what the two halves give is the quotient asked for. -/
theorem knuth_whole {hi lo y s u a b Y : Nat} (hs : s ≤ 64) (hy : 0 < y) (hu : u = hi * 2 ^ s + lo / 2 ^ (64 - s)) (hab : a * 4294967296 + b = lo * 2 ^ s % 18446744073709551616) (hY : Y = y * 2 ^ s) :
    (u * 4294967296 + a) / Y * 4294967296 + ((u * 4294967296 + a) % Y * 4294967296 + b) / Y = (hi * 18446744073709551616 + lo) / y := by
  have hp : 0 < 2 ^ s := Nat.pow_pos (by omega)
  have hYp : 0 < Y := by rw [hY]; exact Nat.mul_pos hy hp
  rw [knuth_two hYp]
  have e := shift_words (hi := hi) (lo := lo) hs
  rw [← hu, ← hab] at e
  rw [Nat.add_assoc, e, hY, Nat.mul_div_mul_right _ _ hp]

end Go.Proofs.Qxb6605954a
