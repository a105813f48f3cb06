/-
  PLAIN: the spans that unitsOfPart answers; sums; the cells of a row of spans.
-/
import Derived.Test.Qxb6605954aFit
namespace Go.Proofs.Qxb6605954a
open Go.RowKit

theorem sumN_mono {f : Nat → Nat} {a b : Nat} (h : a ≤ b) : sumN f a ≤ sumN f b := by
  induction b with
  | zero => rw [show a = 0 by omega]; exact Nat.le_refl _
  | succ b ih =>
    rcases Nat.lt_or_ge a (b + 1) with h1 | h1
    · have := ih (by omega)
      show _ ≤ sumN f b + f b
      omega
    · obtain rfl : a = b + 1 := by omega
      exact Nat.le_refl _

theorem le_sumN {f : Nat → Nat} {n i : Nat} (h : i < n) : f i ≤ sumN f n := by
  have := sumN_mono (f := f) (show i + 1 ≤ n by omega)
  have e : sumN f (i + 1) = sumN f i + f i := rfl
  omega

theorem n_le_units {C : Nat → Cu} {n i : Nat} (h : i < n) : cnt (C i).ch (C i).ru ≤ sumN (fun i => (C i).n) n := le_sumN (f := fun i => (C i).n) h

theorem wt_full {ch ru we j : Nat} (h0 : 1 ≤ ch) (hr : 1 ≤ ru) (h : j + 1 < cnt ch ru) : wt ch ru we j = wt ch ru we 0 := by
  rw [lt_cnt h0 hr, Nat.add_mul, Nat.one_mul] at h
  unfold wt
  rw [show min ru (ch - j * ru) = ru by omega, show min ru (ch - 0 * ru) = ru by omega]

theorem sum_full {ch ru we j : Nat} (h0 : 1 ≤ ch) (hr : 1 ≤ ru) (h : j < cnt ch ru) : sumN (wt ch ru we) j = j * wt ch ru we 0 := by
  induction j with
  | zero => rw [Nat.zero_mul]; rfl
  | succ j ih =>
    show sumN (wt ch ru we) j + wt ch ru we j = _
    rw [ih (by omega), wt_full h0 hr h, Nat.add_mul, Nat.one_mul]

theorem len_eq {c : Cu} (h0 : 1 ≤ c.ch) (hr : 1 ≤ c.ru) : len c.ch c.ru c.we = c.len := by
  have hp := cnt_pos c.ch c.ru
  have hN : c.n = (cnt c.ch c.ru - 1) + 1 := by show cnt c.ch c.ru = _; omega
  unfold Cu.len
  rw [hN]
  show _ = sumN c.w (cnt c.ch c.ru - 1) + c.w (cnt c.ch c.ru - 1)
  have e := sum_full (we := c.we) h0 hr (show cnt c.ch c.ru - 1 < cnt c.ch c.ru by omega)
  show _ = sumN (wt c.ch c.ru c.we) (cnt c.ch c.ru - 1) + wt c.ch c.ru c.we (cnt c.ch c.ru - 1)
  rw [e]
  rfl

/-- One span of a share. -/
structure Sp where
  c : Cu
  a : Nat
  b : Nat
  f : Nat

/-- How many units the spans hold. -/
def total : List Sp → Nat
  | [] => 0
  | s :: S => (s.b - s.a) + total S

theorem total_append (S S' : List Sp) : total (S ++ S') = total S + total S' := by
  induction S with
  | nil => simp [total]
  | cons s S ih => simp only [List.cons_append, total, ih]; omega

/-- Where unit j's part is at least K - 1 | at least K. -/
def pLo (C : Nat → Cu) (K M T k j : Nat) : Bool := decide (K ≤ partN (C k).ch (C k).ru (C k).we (lineN C k) M T j + 1)
def pHi (C : Nat → Cu) (K M T k j : Nat) : Bool := decide (K ≤ partN (C k).ch (C k).ru (C k).we (lineN C k) M T j)

/-- The spans of the first k cuts. -/
def SpansOf (C : Nat → Cu) (K M T : Nat) : Nat → List Sp → Prop
  | 0, S => S = []
  | k + 1, S => ∃ S0 a b, SpansOf C K M T k S0 ∧ Found (pLo C K M T k) (C k).n a ∧ Found (pHi C K M T k) (C k).n b ∧ S = if a < b then S0 ++ [⟨C k, a, b, total S0⟩] else S0

theorem SpansOf.bound {C : Nat → Cu} {K M T : Nat} : ∀ {k : Nat} {S : List Sp}, SpansOf C K M T k S → S.length ≤ k ∧ total S ≤ unitsN C k
  | 0, S, h => by rw [show S = [] from h]; exact ⟨Nat.le_refl _, Nat.zero_le _⟩
  | k + 1, S, h => by
    obtain ⟨S0, a, b, h0, h1, h2, h3⟩ := h
    obtain ⟨i1, i2⟩ := h0.bound
    have e : unitsN C (k + 1) = unitsN C k + (C k).n := rfl
    have hb := h2.1
    rw [h3]
    split
    · rw [total_append, List.length_append]
      simp only [total, List.length_singleton]
      omega
    · omega

/-- The last span says where its share ends. -/
theorem SpansOf.last {C : Nat → Cu} {K M T : Nat} : ∀ {k : Nat} {S : List Sp} {s : Sp}, SpansOf C K M T k S → S.getLast? = some s → s.f + (s.b - s.a) = total S ∧ s.a ≤ s.b ∧ s.b ≤ unitsN C k ∧ s.f ≤ unitsN C k
  | 0, S, s, h, hs => by rw [show S = [] from h] at hs; cases hs
  | k + 1, S, s, h, hs => by
    obtain ⟨S0, a, b, h0, h1, h2, h3⟩ := h
    have e : unitsN C (k + 1) = unitsN C k + (C k).n := rfl
    have hb := h2.1
    have hB := h0.bound
    rw [h3] at hs ⊢
    split at hs
    · rename_i hab
      rw [if_pos hab]
      simp at hs
      subst hs
      rw [total_append]
      simp only [total]
      omega
    · rename_i hab
      rw [if_neg hab]
      have := h0.last hs
      omega

/-- The cells of a row of spans. -/
def spanCells (S : List Sp) : List Value :=
  S.flatMap fun s => [.int .i64 s.c.p, .int .i64 s.c.d, .int .u64 s.c.ch, .int .u64 s.c.ru, .int .u64 s.c.we, .int .u64 s.a, .int .u64 s.b, .int .i64 s.f]

theorem spanCells_snoc (S : List Sp) (s : Sp) : spanCells (S ++ [s]) = spanCells S ++ [.int .i64 s.c.p, .int .i64 s.c.d, .int .u64 s.c.ch, .int .u64 s.c.ru, .int .u64 s.c.we, .int .u64 s.a, .int .u64 s.b, .int .i64 s.f] := by
  simp [spanCells]

theorem spanCells_length (S : List Sp) : (spanCells S).length = S.length * 8 := by
  induction S with
  | nil => rfl
  | cons s S ih =>
    simp only [spanCells, List.flatMap_cons, List.length_append, List.length_cons, List.length_nil] at ih ⊢
    omega

theorem spanCells_at (S : List Sp) (j : Nat) (s : Sp) (h : S[j]? = some s) :
    (spanCells S)[j * 8]? = some (.int .i64 s.c.p) ∧ (spanCells S)[j * 8 + 1]? = some (.int .i64 s.c.d) ∧ (spanCells S)[j * 8 + 2]? = some (.int .u64 s.c.ch) ∧ (spanCells S)[j * 8 + 3]? = some (.int .u64 s.c.ru) ∧ (spanCells S)[j * 8 + 4]? = some (.int .u64 s.c.we) ∧
    (spanCells S)[j * 8 + 5]? = some (.int .u64 s.a) ∧ (spanCells S)[j * 8 + 6]? = some (.int .u64 s.b) ∧ (spanCells S)[j * 8 + 7]? = some (.int .i64 s.f) := by
  induction S generalizing j with
  | nil => simp at h
  | cons t S ih =>
    cases j with
    | zero =>
      simp at h
      subst h
      simp [spanCells]
    | succ j =>
      have h' : S[j]? = some s := by simpa using h
      have := ih j h'
      have hsh : ∀ i, (spanCells (t :: S))[i + 8]? = (spanCells S)[i]? := fun i => by
        simp only [spanCells, List.flatMap_cons]
        rw [List.getElem?_append_right (by simp)]
        simp
      rw [show (j + 1) * 8 = j * 8 + 8 by omega]
      refine ⟨?_, ?_, ?_, ?_, ?_, ?_, ?_, ?_⟩
      · rw [hsh]; exact this.1
      · rw [show j * 8 + 8 + 1 = j * 8 + 1 + 8 by omega, hsh]; exact this.2.1
      · rw [show j * 8 + 8 + 2 = j * 8 + 2 + 8 by omega, hsh]; exact this.2.2.1
      · rw [show j * 8 + 8 + 3 = j * 8 + 3 + 8 by omega, hsh]; exact this.2.2.2.1
      · rw [show j * 8 + 8 + 4 = j * 8 + 4 + 8 by omega, hsh]; exact this.2.2.2.2.1
      · rw [show j * 8 + 8 + 5 = j * 8 + 5 + 8 by omega, hsh]; exact this.2.2.2.2.2.1
      · rw [show j * 8 + 8 + 6 = j * 8 + 6 + 8 by omega, hsh]; exact this.2.2.2.2.2.2.1
      · rw [show j * 8 + 8 + 7 = j * 8 + 7 + 8 by omega, hsh]; exact this.2.2.2.2.2.2.2

end Go.Proofs.Qxb6605954a
