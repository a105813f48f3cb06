/-
  FnUnitsOfPartCoverBalanced (6): what its loops hold; its guards.
-/
import Derived.Test.Qxb6605954aBuilt
namespace Go.Proofs.Qxb6605954a
open Go.RowKit

theorem Rep.back {C : Nat → Cu} {M T n K ci nx : Nat} (h : Rep C M T n (K + 1) 0 ci nx) : Rep C M T n K n ci nx := by
  obtain ⟨h1, h2, h3⟩ := h
  refine ⟨h1, h2, fun c hc => ?_⟩
  have := h3 c hc
  rw [if_neg (Nat.not_lt_zero c), Nat.add_sub_cancel] at this
  rw [if_pos hc]
  exact this

theorem maxN_le {f : Nat → Nat} {B : Nat} (h : ∀ i, f i ≤ B) : ∀ n, maxN f n ≤ B
  | 0 => Nat.zero_le _
  | n + 1 => by
    show max (maxN f n) (f n) ≤ B
    have := maxN_le h n
    have := h n
    omega

theorem most_le (C : Nat → Cu) (n : Nat) : mostN C n ≤ 1099511627776 := maxN_le (fun _ => maxN_le (fun _ => wt_le _ _ _ _) _) n

theorem line_pos {C : Nat → Cu} {n : Nat} (ok : ∀ c, c < n → (C c).ok) (hw : ∀ c, c < n → 1 ≤ (C c).we) (hn : 0 < n) : 0 < lineN C n := by
  have h1 : (C 0).len ≤ lineN C n := le_sumN (f := fun i => (C i).len) hn
  have h2 : (C 0).w 0 ≤ (C 0).len := le_sumN (f := (C 0).w) (cnt_pos _ _)
  have h3 := wt_pos (ok 0 hn) (hw 0 hn) (cnt_pos _ _)
  omega

/-- A product's two words. -/
theorem mul128_ex (x y : Nat) (hx : x < 18446744073709551616) (hy : y < 18446744073709551616) :
    ∃ h l : Nat, (∀ w, Calls Try.prog 20 #[.int .u64 x, .int .u64 y] w fun e w' => e = .returned (.tuple #[.int .u64 h, .int .u64 l]) ∧ w = w') ∧ h * 18446744073709551616 + l = x * y ∧ l < 18446744073709551616 :=
  ⟨x * y / 18446744073709551616, x * y % 18446744073709551616, fun w => mul128_any x y w hx hy, by omega, by omega⟩

/-- Two words compared. -/
theorem less_ex {mh ml lh ll P Q : Nat} (hm : mh * 18446744073709551616 + ml = P ∧ ml < 18446744073709551616) (hl : lh * 18446744073709551616 + ll = Q ∧ ll < 18446744073709551616) (b : Bool) (hb : P < Q ↔ b = true) (w : World) :
    Calls Try.prog 23 #[.int .u64 mh, .int .u64 ml, .int .u64 lh, .int .u64 ll] w fun e w' => e = .returned (.bool b) ∧ w = w' := by
  have h := less128_any mh ml lh ll w hm.2 hl.2
  rw [hm.1, hl.1, show decide (P < Q) = b by cases b <;> simp_all] at h
  exact h

/-- The law's last test: the numbers. -/
theorem bal_calls {C : Nat → Cu} {M T n we : Nat} (hM : M ≤ 65536) (hT : T ≤ 2305843009213693952) (hwe : we ≤ T) (h : M * we < M * mostN C n + T) :
    ∃ ah al bl : Nat, (∀ w, Calls Try.prog 20 #[.int .u64 M, .int .u64 we] w fun e w' => e = .returned (.tuple #[.int .u64 ah, .int .u64 al]) ∧ w = w') ∧
      (∀ w, Calls Try.prog 20 #[.int .u64 M, .int .u64 (mostN C n : Nat)] w fun e w' => e = .returned (.tuple #[.int .u64 0, .int .u64 bl]) ∧ w = w') ∧
      (bl ≤ 72057594037927936) ∧ (∀ w, Calls Try.prog 23 #[.int .u64 ah, .int .u64 al, .int .u64 0, .int .u64 (bl + T : Nat)] w fun e w' => e = .returned (.bool true) ∧ w = w') := by
  have hmo := most_le C n
  obtain ⟨ah, al, c1, e1⟩ := mul128_ex M we (by omega) (by omega)
  obtain ⟨bh, bl, c2, e2⟩ := mul128_ex M (mostN C n) (by omega) (by omega)
  have hp : M * mostN C n ≤ 65536 * 1099511627776 := Nat.mul_le_mul hM hmo
  have hb0 : bh = 0 := by omega
  subst hb0
  refine ⟨ah, al, bl, c1, c2, by omega, fun w => ?_⟩
  exact less_ex (lh := 0) (ll := bl + T) (P := M * we) (Q := bl + T) e1 ⟨by omega, by omega⟩ true ⟨fun _ => rfl, fun _ => by omega⟩ w

/-- The weights looked at so far. -/
def WOk (w : World) (C : Nat → Cu) (n : Nat) (i : Value) (wr : World) : Prop := ∃ k : Nat, k ≤ n ∧ i = .int .i64 k ∧ (∀ j, j < k → 1 ≤ (C j).we) ∧ wr = w

/-- The loop over the parts. -/
def CvO (w4 : World) (C : Nat → Cu) (M T n : Nat) (ci nx k : Value) (wr : World) : Prop :=
  ∃ c x K : Nat, 1 ≤ K ∧ K ≤ M + 1 ∧ ci = .int .i64 c ∧ nx = .int .u64 x ∧ k = .int .i64 K ∧ Rep C M T n K 0 c x ∧ Below w4.heap.size w4 wr

/-- The loop over a part's spans. -/
def CvI (w5 : World) (C : Nat → Cu) (M T n K P : Nat) (S : List Sp) (ci nx we tk i : Value) (wr : World) : Prop :=
  ∃ c x v j q : Nat, j ≤ S.length ∧ ci = .int .i64 c ∧ nx = .int .u64 x ∧ we = .int .u64 v ∧ tk = .int .i64 (total (S.take j) : Nat) ∧ i = .int .i64 j ∧ q ≤ n ∧ SpansOf C K M T q (S.take j) ∧ Rep C M T n K q c x ∧ Bal C M T n K P v (pos C c x) ∧ Below w5.heap.size w5 wr

/-- The loop over cuts that are used up. -/
def CvA (w6 : World) (C : Nat → Cu) (M T n K q p : Nat) (ci nx : Value) (wr : World) : Prop :=
  ∃ c x : Nat, ci = .int .i64 c ∧ nx = .int .u64 x ∧ Rep C M T n K q c x ∧ pos C c x = p ∧ Below w6.heap.size w6 wr

/-- The loop over a span's units. -/
def CvW (w8 : World) (x : Cu) (v a b : Nat) (we u : Value) (wr : World) : Prop :=
  ∃ v' j : Nat, a ≤ j ∧ j ≤ b ∧ we = .int .u64 v' ∧ u = .int .u64 j ∧ v' + sumN x.w a = v + sumN x.w j ∧ Below w8.heap.size w8 wr

/-- The last loop. -/
def CvZ (w4 : World) (C : Nat → Cu) (M T n : Nat) (ci nx : Value) (wr : World) : Prop :=
  ∃ c x : Nat, ci = .int .i64 c ∧ nx = .int .u64 x ∧ Rep C M T n M n c x ∧ Below w4.heap.size w4 wr

theorem total_take {S : List Sp} {j : Nat} {s : Sp} (h : S[j]? = some s) : total (S.take (j + 1)) = total (S.take j) + (s.b - s.a) := by
  rw [List.take_add_one, h, total_append]
  rfl

set_option maxRecDepth 100000 in
set_option maxHeartbeats 4000000 in
theorem cover_big (u : Option Addr) (n c : Nat) (M : Int) (w : World) (hn : n ≤ maxLen) (h0 : ¬ ((n : Int) ≤ 4096 ∧ (n : Int) * 40 ≤ 1048576)) :
    Calls Try.prog 6 #[.slice u n c, .int .i64 M] w (Says w) := by
  have hbt := fun w => bytes25 u n c M w hn
  by_cases hb : (n : Int) ≤ 1048576
  · rw [decide_eq_true (show n ≤ 1048576 by omega)] at hbt
    have h65 : (4096 : Int) < (n : Int) := by omega
    clear h0
    go_enter Try.func6, Try.ntmps6
    go_wp2_with (go_at_call 25; refine (hbt _).mono ?_; rintro e w1 ⟨rfl, rfl⟩)
    go_ret
    exact ⟨rfl, Below.refl _ _⟩
  · rw [decide_eq_false (show ¬ n ≤ 1048576 by omega)] at hbt
    clear h0
    go_enter Try.func6, Try.ntmps6
    go_wp2_with (go_at_call 25; refine (hbt _).mono ?_; rintro e w1 ⟨rfl, rfl⟩)
    go_ret
    exact ⟨rfl, Below.refl _ _⟩

set_option maxRecDepth 100000 in
set_option maxHeartbeats 4000000 in
theorem cover_m (u : Option Addr) (n c : Nat) (M : Int) (w : World) (hn : n ≤ maxLen) (h1 : (n : Int) ≤ 4096) (h : M < 1 ∨ 65536 < M) :
    Calls Try.prog 6 #[.slice u n c, .int .i64 M] w (Says w) := by
  have hbt := fun w => bytes25 u n c M w hn
  rw [decide_eq_true (show n ≤ 1048576 by omega)] at hbt
  by_cases g1 : M < 1
  · clear h
    go_enter Try.func6, Try.ntmps6
    go_wp2_with (go_at_call 25; refine (hbt _).mono ?_; rintro e w1 ⟨rfl, rfl⟩)
    go_ret
    exact ⟨rfl, Below.refl _ _⟩
  have g3 : 65536 < M := by omega
  clear h
  go_enter Try.func6, Try.ntmps6
  go_wp2_with (go_at_call 25; refine (hbt _).mono ?_; rintro e w1 ⟨rfl, rfl⟩)
  go_ret
  exact ⟨rfl, Below.refl _ _⟩

end Go.Proofs.Qxb6605954a
