/-
  zzUnitCount (21), zzUnitWeight (22), count (43), mulWeight (48), unit (39), length (38).
-/
import Derived.Test.Qxb6605954aBits
import Derived.Deep.RegionHeld3
namespace Go.Proofs.Qxb6605954a
open Go.RowKit

/-- How many units a cut has. -/
def cnt (ch ru : Nat) : Nat := (ch - 1) / ru + 1
/-- What unit j weighs. -/
def wt (ch ru we j : Nat) : Nat := min (min ru (ch - j * ru) * we) 1099511627776

/-- A cut's numbers, as zzCutsFit lets them pass. -/
structure CutOk (ch ru we : Nat) : Prop where
  c0 : 1 ≤ ch
  c1 : ch ≤ 9223372036854775808
  r0 : 1 ≤ ru
  r1 : ru ≤ 9223372036854775808
  w1 : we < 18446744073709551616

theorem cnt_pos (ch ru : Nat) : 1 ≤ cnt ch ru := Nat.le_add_left _ _
theorem cnt_le {ch ru : Nat} (h0 : 1 ≤ ch) (h : ch ≤ 9223372036854775808) : cnt ch ru ≤ 9223372036854775808 := by
  unfold cnt
  have := Nat.div_le_self (ch - 1) ru
  omega
theorem lt_cnt {ch ru j : Nat} (h0 : 1 ≤ ch) (hr : 1 ≤ ru) : j < cnt ch ru ↔ j * ru < ch := by
  unfold cnt
  rw [Nat.lt_succ_iff, Nat.le_div_iff_mul_le hr]
  omega
theorem wt_le (ch ru we j : Nat) : wt ch ru we j ≤ 1099511627776 := Nat.min_le_right _ _

theorem count_any (p d : Int) (ch ru we : Nat) (w : World) (h : CutOk ch ru we) :
    Calls Try.prog 43 #[.agg #[.int .i64 p, .int .i64 d, .int .u64 ch, .int .u64 ru, .int .u64 we]] w fun e w' => e = .returned (.int .u64 (cnt ch ru : Nat)) ∧ Below w.heap.size w w' := by
  obtain ⟨c0, c1, r0, r1, w1⟩ := h
  have hl := cnt_le (ru := ru) c0 c1
  obtain ⟨t, ht⟩ : ∃ t, t = ch + ru - 1 := ⟨_, rfl⟩
  have et : IntKind.u64.wrap (IntKind.u64.wrap ((ch : Int) + (ru : Int)) - 1) = (t : Int) := by simp only [IntKind.wrap_u64]; omega
  obtain ⟨n, hn⟩ : ∃ n, n = cnt ch ru := ⟨_, rfl⟩
  have en : (t : Int).tdiv (ru : Int) = (n : Int) := by
    have : t / ru = n := by
      rw [hn, ht, cnt, show ch + ru - 1 = (ch - 1) + ru by omega, Nat.add_div_right _ (by omega)]
    rw [← this]; rfl
  have tr : ((ru : Int) == 0) = false := by simp; omega
  rw [← hn] at hl ⊢
  clear hn ht
  go_enter Try.func43, Try.ntmps43
  go_wp2
  go_ret
  exact ⟨rfl, (Below.refl _ _).alloc (Nat.le_refl _) _⟩

theorem unitCount_any (p d : Int) (ch ru we : Nat) (w : World) (h : CutOk ch ru we) :
    Calls Try.prog 21 #[.agg #[.int .i64 p, .int .i64 d, .int .u64 ch, .int .u64 ru, .int .u64 we]] w fun e w' => e = .returned (.int .u64 (cnt ch ru : Nat)) ∧ Below w.heap.size w w' := by
  obtain ⟨c0, c1, r0, r1, w1⟩ := h
  have hl := cnt_le (ru := ru) c0 c1
  obtain ⟨n, hn⟩ : ∃ n, n = (ch - 1) / ru := ⟨_, rfl⟩
  have en : ((ch : Int) - 1).tdiv (ru : Int) = (n : Int) := by
    rw [hn, show (ch : Int) - 1 = ((ch - 1 : Nat) : Int) by omega]; rfl
  have tr : ((ru : Int) == 0) = false := by simp; omega
  unfold cnt at hl ⊢
  rw [← hn] at hl ⊢
  clear hn
  go_enter Try.func21, Try.ntmps21
  go_wp2
  go_ret
  exact ⟨rfl, (Below.refl _ _).alloc (Nat.le_refl _) _⟩

theorem mulWeight_any (x y : Nat) (w : World) (hx : x < 18446744073709551616) (hy : y < 18446744073709551616) :
    Calls Try.prog 48 #[.int .u64 x, .int .u64 y] w fun e w' => e = .returned (.int .u64 (min (x * y) 1099511627776 : Nat)) ∧ w' = w := by
  have c := Try.bits_Mul64 x y hx hy w
  obtain ⟨n, hn⟩ : ∃ n, n = x * y := ⟨_, rfl⟩
  rw [← hn] at c ⊢
  clear hn
  obtain ⟨u, hu⟩ : ∃ u, u = n / 18446744073709551616 := ⟨_, rfl⟩
  obtain ⟨v, hv⟩ : ∃ v, v = n % 18446744073709551616 := ⟨_, rfl⟩
  rw [← hu, ← hv] at c
  by_cases h1 : u = 0
  · subst h1
    by_cases h2 : (1099511627776 : Int) < (v : Int)
    · rw [show min n 1099511627776 = 1099511627776 by omega]
      clear hu hv
      go_enter Try.func48, Try.ntmps48
      go_wp2_with (go_at_call 41; refine c.mono ?_; rintro e w' ⟨rfl, rfl⟩)
      go_ret
      exact ⟨rfl, rfl⟩
    · rw [show min n 1099511627776 = v by omega]
      clear hu hv
      go_enter Try.func48, Try.ntmps48
      go_wp2_with (go_at_call 41; refine c.mono ?_; rintro e w' ⟨rfl, rfl⟩)
      go_ret
      exact ⟨rfl, rfl⟩
  · rw [show min n 1099511627776 = 1099511627776 by omega]
    clear hu hv
    go_enter Try.func48, Try.ntmps48
    go_wp2_with (go_at_call 41; refine c.mono ?_; rintro e w' ⟨rfl, rfl⟩)
    go_ret
    exact ⟨rfl, rfl⟩

/-- The cap, by the product's two words. -/
theorem cap_cases (n : Nat) : (¬ n / 18446744073709551616 = 0 ∧ min n 1099511627776 = 1099511627776) ∨ (n / 18446744073709551616 = 0 ∧ (1099511627776 : Int) < ((n % 18446744073709551616 : Nat) : Int) ∧ min n 1099511627776 = 1099511627776) ∨
    (n / 18446744073709551616 = 0 ∧ ¬ (1099511627776 : Int) < ((n % 18446744073709551616 : Nat) : Int) ∧ min n 1099511627776 = n % 18446744073709551616) := by omega

set_option maxHeartbeats 1000000 in
theorem unitWeight_any (p d : Int) (ch ru we j : Nat) (w : World) (h : CutOk ch ru we) (hj : j < cnt ch ru) :
    Calls Try.prog 22 #[.agg #[.int .i64 p, .int .i64 d, .int .u64 ch, .int .u64 ru, .int .u64 we], .int .u64 j] w fun e w' => e = .returned (.int .u64 (wt ch ru we j : Nat)) ∧ Below w.heap.size w w' := by
  obtain ⟨c0, c1, r0, r1, w1⟩ := h
  rw [lt_cnt c0 r0] at hj
  have ef := wrap_mul (a := j) (b := ru) (by omega)
  have eW : wt ch ru we j = min (min ru (ch - j * ru) * we) 1099511627776 := rfl
  rw [eW]
  clear eW
  generalize j * ru = f at hj ef ⊢
  obtain ⟨z, hz⟩ : ∃ z, z = ch - f := ⟨_, rfl⟩
  have ez : (ch : Int) - (f : Int) = (z : Int) := by omega
  rw [← hz]
  by_cases hs : (ru : Int) < (z : Int)
  · rw [show min ru z = ru by omega]
    have c := mul128_any ru we (w.alloc (.cells #[.int .i64 p, .int .i64 d, .int .u64 ch, .int .u64 ru, .int .u64 we] 48)) (by omega) w1
    have hb := (Below.refl w.heap.size w).alloc (Nat.le_refl _) (.cells #[.int .i64 p, .int .i64 d, .int .u64 ch, .int .u64 ru, .int .u64 we] 48)
    have K := cap_cases (ru * we)
    obtain ⟨u, hu⟩ : ∃ u, u = ru * we / 18446744073709551616 := ⟨_, rfl⟩
    obtain ⟨v, hv⟩ : ∃ v, v = ru * we % 18446744073709551616 := ⟨_, rfl⟩
    rw [← hu, ← hv] at c K
    clear hz hu hv
    rcases K with ⟨k1, k2⟩ | ⟨k1, k2, k3⟩ | ⟨k1, k2, k3⟩
    · rw [k2]
      clear k2
      go_enter Try.func22, Try.ntmps22
      go_wp2_with (go_at_call 20; refine c.mono ?_; rintro e w' ⟨rfl, rfl⟩)
      go_ret
      exact ⟨rfl, hb⟩
    · subst k1
      rw [k3]
      clear k3
      go_enter Try.func22, Try.ntmps22
      go_wp2_with (go_at_call 20; refine c.mono ?_; rintro e w' ⟨rfl, rfl⟩)
      go_ret
      exact ⟨rfl, hb⟩
    · subst k1
      rw [k3]
      clear k3
      go_enter Try.func22, Try.ntmps22
      go_wp2_with (go_at_call 20; refine c.mono ?_; rintro e w' ⟨rfl, rfl⟩)
      go_ret
      exact ⟨rfl, hb⟩
  · rw [show min ru z = z by omega]
    have c := mul128_any z we (w.alloc (.cells #[.int .i64 p, .int .i64 d, .int .u64 ch, .int .u64 ru, .int .u64 we] 48)) (by omega) w1
    have hb := (Below.refl w.heap.size w).alloc (Nat.le_refl _) (.cells #[.int .i64 p, .int .i64 d, .int .u64 ch, .int .u64 ru, .int .u64 we] 48)
    have K := cap_cases (z * we)
    obtain ⟨u, hu⟩ : ∃ u, u = z * we / 18446744073709551616 := ⟨_, rfl⟩
    obtain ⟨v, hv⟩ : ∃ v, v = z * we % 18446744073709551616 := ⟨_, rfl⟩
    rw [← hu, ← hv] at c K
    clear hz hu hv
    rcases K with ⟨k1, k2⟩ | ⟨k1, k2, k3⟩ | ⟨k1, k2, k3⟩
    · rw [k2]
      clear k2
      go_enter Try.func22, Try.ntmps22
      go_wp2_with (go_at_call 20; refine c.mono ?_; rintro e w' ⟨rfl, rfl⟩)
      go_ret
      exact ⟨rfl, hb⟩
    · subst k1
      rw [k3]
      clear k3
      go_enter Try.func22, Try.ntmps22
      go_wp2_with (go_at_call 20; refine c.mono ?_; rintro e w' ⟨rfl, rfl⟩)
      go_ret
      exact ⟨rfl, hb⟩
    · subst k1
      rw [k3]
      clear k3
      go_enter Try.func22, Try.ntmps22
      go_wp2_with (go_at_call 20; refine c.mono ?_; rintro e w' ⟨rfl, rfl⟩)
      go_ret
      exact ⟨rfl, hb⟩

end Go.Proofs.Qxb6605954a
