/-
  PLAIN: what the laws' own loops see of the spans.
-/
import Derived.Test.Qxb6605954aSpans
namespace Go.Proofs.Qxb6605954a

theorem Found.uniq {p : Nat → Bool} {n a b : Nat} (ha : Found p n a) (hb : Found p n b) : a = b := by
  rcases Nat.lt_trichotomy a b with h | h | h
  · have h1 := hb.2.1 a h
    have h2 := ha.2.2 a (Nat.le_refl _) (by have := hb.1; omega)
    rw [h1] at h2
    cases h2
  · exact h
  · have h1 := ha.2.1 b h
    have h2 := hb.2.2 b (Nat.le_refl _) (by have := ha.1; omega)
    rw [h1] at h2
    cases h2

theorem Found.iff {p : Nat → Bool} {n a j : Nat} (ha : Found p n a) (hj : j < n) : p j = true ↔ a ≤ j := by
  constructor
  · intro h
    rcases Nat.lt_or_ge j a with h1 | h1
    · rw [ha.2.1 j h1] at h
      cases h
    · exact h1
  · exact fun h => ha.2.2 j h hj

theorem SpansOf.uniq {C : Nat → Cu} {K M T : Nat} : ∀ {k : Nat} {S S' : List Sp}, SpansOf C K M T k S → SpansOf C K M T k S' → S = S'
  | 0, S, S', h, h' => by rw [show S = [] from h, show S' = [] from h']
  | k + 1, S, S', ⟨S0, a, b, h0, ha, hb, hS⟩, ⟨S0', a', b', h0', ha', hb', hS'⟩ => by
    rw [hS, hS', h0.uniq h0', ha.uniq ha', hb.uniq hb']

theorem SpansOf.upto {C : Nat → Cu} {K M T : Nat} : ∀ {n : Nat} {S : List Sp}, SpansOf C K M T n S → ∀ k, k ≤ n → ∃ S0, SpansOf C K M T k S0 ∧ S0 <+: S
  | 0, S, h, k, hk => ⟨S, by rw [show k = 0 by omega]; exact h, List.prefix_refl _⟩
  | n + 1, S, h, k, hk => by
    rcases Nat.lt_or_ge n k with h1 | h1
    · rw [show k = n + 1 by omega]
      exact ⟨S, h, List.prefix_refl _⟩
    · obtain ⟨S0, a, b, h0, ha, hb, hS⟩ := h
      obtain ⟨S1, h2, h3⟩ := h0.upto k h1
      refine ⟨S1, h2, ?_⟩
      rw [hS]
      split
      · exact h3.trans (List.prefix_append _ _)
      · exact h3

theorem lo_le_hi {C : Nat → Cu} {K M T k a b : Nat} (ha : Found (pLo C K M T k) (C k).n a) (hb : Found (pHi C K M T k) (C k).n b) : a ≤ b := by
  rcases Nat.lt_or_ge b a with h | h
  · have h1 := ha.2.1 b h
    have h2 := hb.2.2 b (Nat.le_refl _) (by have := ha.1; omega)
    simp only [pLo, pHi, decide_eq_true_eq, decide_eq_false_iff_not] at h1 h2
    omega
  · exact h

/-- The next cut of the line. -/
theorem SpansOf.next {C : Nat → Cu} {K M T n k : Nat} {S S0 : List Sp} (h : SpansOf C K M T n S) (hk : k < n) (h0 : SpansOf C K M T k S0) :
    ∃ a b, Found (pLo C K M T k) (C k).n a ∧ Found (pHi C K M T k) (C k).n b ∧ a ≤ b ∧ SpansOf C K M T (k + 1) (if a < b then S0 ++ [⟨C k, a, b, total S0⟩] else S0) ∧ (a < b → S[S0.length]? = some ⟨C k, a, b, total S0⟩) := by
  obtain ⟨S1, h1, hp⟩ := h.upto (k + 1) hk
  have h1' := h1
  obtain ⟨S0', a, b, h0', ha, hb, hS⟩ := h1
  have hu := h0'.uniq h0
  rw [hu] at hS
  rw [hS] at h1' hp
  refine ⟨a, b, ha, hb, lo_le_hi ha hb, h1', fun hab => ?_⟩
  rw [if_pos hab] at hp
  obtain ⟨t, rfl⟩ := hp
  simp

theorem mid_of {c : Cu} {B j : Nat} (ok : c.ok) (hj : j < c.n) : mid c.ch c.ru c.we B j = 2 * (B + sumN c.w j) + c.w j := by
  have e := sum_full (we := c.we) ok.c0 ok.r0 hj
  show _ = 2 * (B + sumN (wt c.ch c.ru c.we) j) + wt c.ch c.ru c.we j
  rw [e]
  rfl

theorem lo_iff {c : Cu} {B K M T j : Nat} (ok : c.ok) (hj : j < c.n) (hT : 0 < T) : K ≤ partN c.ch c.ru c.we B M T j + 1 ↔ (K - 1) * (2 * T) ≤ (2 * (B + sumN c.w j) + c.w j) * M := by
  rw [← mid_of ok hj, ← Nat.le_div_iff_mul_le (by omega)]
  unfold partN
  generalize mid c.ch c.ru c.we B j * M / (2 * T) = q
  omega

theorem hi_iff {c : Cu} {B K M T j : Nat} (ok : c.ok) (hj : j < c.n) (hT : 0 < T) : ¬ K ≤ partN c.ch c.ru c.we B M T j ↔ (2 * (B + sumN c.w j) + c.w j) * M < K * (2 * T) := by
  rw [← mid_of ok hj, ← Nat.not_le, ← Nat.le_div_iff_mul_le (by omega)]
  rfl

/-- The law's own test, unit by unit. -/
theorem in_test {C : Nat → Cu} {K M T k j a b : Nat} (ok : (C k).ok) (hT : 0 < T) (ha : Found (pLo C K M T k) (C k).n a) (hb : Found (pHi C K M T k) (C k).n b) (hj : j < (C k).n) :
    ((K - 1) * (2 * T) ≤ (2 * (lineN C k + sumN (C k).w j) + (C k).w j) * M ↔ a ≤ j) ∧ ((2 * (lineN C k + sumN (C k).w j) + (C k).w j) * M < K * (2 * T) ↔ j < b) := by
  constructor
  · rw [← lo_iff ok hj hT, ← ha.iff hj]
    simp [pLo]
  · rw [← hi_iff ok hj hT, ← Nat.not_le, ← hb.iff hj]
    simp [pHi]

/- THE SECOND LAW -/

theorem pLo_eq {C : Nat → Cu} {K M T k : Nat} : pLo C K M T k = pHi C (K - 1) M T k := by
  funext j
  unfold pLo pHi
  exact decide_eq_decide.2 ⟨fun h => by omega, fun h => by omega⟩

/-- Ahead of the place (ci, next) all is taken: by part K where the first q cuts are concerned, by the part before it behind them. -/
def Rep (C : Nat → Cu) (M T n K q ci nx : Nat) : Prop :=
  ci ≤ n ∧ (ci = n → nx = 0) ∧ ∀ c, c < n → Found (pHi C (if c < q then K else K - 1) M T c) (C c).n (if c < ci then (C c).n else if c = ci then nx else 0)

theorem Rep.start (C : Nat → Cu) (M T n : Nat) : Rep C M T n 1 0 0 0 := by
  refine ⟨Nat.zero_le _, fun _ => rfl, fun c _ => ?_⟩
  rw [if_neg (Nat.not_lt_zero c), if_neg (Nat.not_lt_zero c), show (if c = 0 then 0 else 0 : Nat) = 0 by split <;> rfl]
  exact ⟨Nat.zero_le _, fun t ht => absurd ht (Nat.not_lt_zero _), fun t _ _ => by simp [pHi]⟩

theorem Rep.nextPart {C : Nat → Cu} {M T n K ci nx : Nat} (h : Rep C M T n K n ci nx) : Rep C M T n (K + 1) 0 ci nx := by
  obtain ⟨h1, h2, h3⟩ := h
  refine ⟨h1, h2, fun c hc => ?_⟩
  have := h3 c hc
  rw [if_pos hc] at this
  rw [if_neg (Nat.not_lt_zero c), Nat.add_sub_cancel]
  exact this

theorem Rep.nx_le {C : Nat → Cu} {M T n K q ci nx : Nat} (h : Rep C M T n K q ci nx) (hc : ci < n) : nx ≤ (C ci).n := by
  have := (h.2.2 ci hc).1
  rw [if_neg (Nat.lt_irrefl _), if_pos rfl] at this
  exact this

/-- A cut is used up. -/
theorem Rep.adv {C : Nat → Cu} {M T n K q ci : Nat} (h : Rep C M T n K q ci (C ci).n) (hc : ci < n) : Rep C M T n K q (ci + 1) 0 := by
  obtain ⟨h1, h2, h3⟩ := h
  refine ⟨hc, fun _ => rfl, fun c hcn => ?_⟩
  have := h3 c hcn
  have e : (if c < ci then (C c).n else if c = ci then (C ci).n else 0) = if c < ci + 1 then (C c).n else if c = ci + 1 then 0 else 0 := by
    rcases Nat.lt_trichotomy c ci with h | h | h
    · rw [if_pos h, if_pos (by omega)]
    · subst h
      rw [if_neg (Nat.lt_irrefl _), if_pos rfl, if_pos (by omega)]
    · rw [if_neg (by omega), if_neg (by omega), if_neg (by omega)]
      split <;> rfl
  rw [← e]
  exact this

/-- A cut of which the part has nothing. -/
theorem Rep.skip {C : Nat → Cu} {M T n K q ci nx a b : Nat} (h : Rep C M T n K q ci nx) (ha : Found (pLo C K M T q) (C q).n a) (hb : Found (pHi C K M T q) (C q).n b) (hab : ¬ a < b) : Rep C M T n K (q + 1) ci nx := by
  obtain ⟨h1, h2, h3⟩ := h
  refine ⟨h1, h2, fun c hcn => ?_⟩
  have h4 := h3 c hcn
  rcases Nat.lt_trichotomy c q with h | h | h
  · rw [if_pos h] at h4
    rw [if_pos (by omega)]
    exact h4
  · subst h
    rw [if_neg (Nat.lt_irrefl _)] at h4
    rw [if_pos (by omega)]
    rw [pLo_eq] at ha
    have e1 := h4.uniq ha
    have e2 : a = b := by
      have := lo_le_hi (by rw [pLo_eq]; exact ha) hb
      omega
    rw [e1, e2]
    exact hb
  · rw [if_neg (by omega)] at h4
    rw [if_neg (by omega)]
    exact h4

theorem mid_across {C : Nat → Cu} {c c' j j' : Nat} (ok : (C c).ok) (hc : c < c') (hj : j < (C c).n) : mid (C c).ch (C c).ru (C c).we (lineN C c) j ≤ mid (C c').ch (C c').ru (C c').we (lineN C c') j' := by
  have h1 := mid_le (ch := (C c).ch) (ru := (C c).ru) (we := (C c).we) (B := lineN C c) (T := lineN C c') hj (by
    rw [len_eq ok.c0 ok.r0]
    exact sumN_mono (f := fun i => (C i).len) (show c + 1 ≤ c' by omega))
  have h2 : mid (C c').ch (C c').ru (C c').we (lineN C c') j' = 2 * (lineN C c' + j' * wt (C c').ch (C c').ru (C c').we 0) + wt (C c').ch (C c').ru (C c').we j' := rfl
  omega

/-- Where the part has something of a cut, the place stands there. -/
theorem Rep.at {C : Nat → Cu} {M T n K q ci nx a b : Nat} (h : Rep C M T n K q ci nx) (ok : ∀ c, c < n → (C c).ok) (hq : q < n) (ha : Found (pLo C K M T q) (C q).n a) (hb : Found (pHi C K M T q) (C q).n b) (hab : a < b) (hst : ci < n → nx ≠ (C ci).n) :
    ci = q ∧ nx = a := by
  have hx := fun hc => h.nx_le (C := C) (ci := ci) hc
  obtain ⟨h1, h2, h3⟩ := h
  have h4 := h3 q hq
  rw [if_neg (Nat.lt_irrefl _)] at h4
  rw [pLo_eq] at ha
  have e1 := h4.uniq ha
  have hbn := hb.1
  rcases Nat.lt_trichotomy q ci with hc | hc | hc
  · rw [if_pos hc] at e1
    omega
  · subst hc
    rw [if_neg (Nat.lt_irrefl _), if_pos rfl] at e1
    exact ⟨rfl, e1⟩
  · exfalso
    have hcn : ci < n := by omega
    have h5 := h3 ci hcn
    rw [if_pos hc, if_neg (Nat.lt_irrefl _), if_pos rfl] at h5
    have h6 := h5.2.2 nx (Nat.le_refl _) (by have := hx hcn; have := hst hcn; omega)
    have h7 := hb.2.1 a hab
    simp only [pHi, decide_eq_true_eq, decide_eq_false_iff_not] at h6 h7
    have h8 : partN (C ci).ch (C ci).ru (C ci).we (lineN C ci) M T nx ≤ partN (C q).ch (C q).ru (C q).we (lineN C q) M T a :=
      Nat.div_le_div_right (Nat.mul_le_mul_right _ (mid_across (ok ci hcn) hc (by have := hx hcn; have := hst hcn; omega)))
    omega

/-- The part takes what it has of a cut. -/
theorem Rep.take {C : Nat → Cu} {M T n K q a b : Nat} (h : Rep C M T n K q q a) (hq : q < n) (hb : Found (pHi C K M T q) (C q).n b) : Rep C M T n K (q + 1) q b := by
  obtain ⟨h1, h2, h3⟩ := h
  refine ⟨h1, fun h => by omega, fun c hcn => ?_⟩
  have h4 := h3 c hcn
  rcases Nat.lt_trichotomy c q with h | h | h
  · rw [if_pos h, if_pos h] at h4
    rw [if_pos (by omega), if_pos h]
    exact h4
  · subst h
    rw [if_pos (by omega), if_neg (Nat.lt_irrefl _), if_pos rfl]
    exact hb
  · rw [if_neg (by omega), if_neg (by omega), if_neg (by omega)] at h4
    rw [if_neg (by omega), if_neg (by omega), if_neg (by omega)]
    exact h4

/-- The i-th span, met with the place of the line. -/
theorem Rep.find {C : Nat → Cu} {M T n K i ci nx : Nat} {S : List Sp} (hS : SpansOf C K M T n S) (hi : i < S.length) : ∀ (d q : Nat), n - q ≤ d → q ≤ n → SpansOf C K M T q (S.take i) → Rep C M T n K q ci nx →
    ∃ q' a b, q' < n ∧ Found (pLo C K M T q') (C q').n a ∧ Found (pHi C K M T q') (C q').n b ∧ a < b ∧ S[i]? = some ⟨C q', a, b, total (S.take i)⟩ ∧ SpansOf C K M T (q' + 1) (S.take (i + 1)) ∧ Rep C M T n K q' ci nx := by
  intro d
  have hl : (S.take i).length = i := by rw [List.length_take]; omega
  have hn : ∀ q, q ≤ n → SpansOf C K M T q (S.take i) → q < n := fun q hq h0 => by
    rcases Nat.lt_or_ge q n with h | h
    · exact h
    · rw [show q = n by omega] at h0
      have := h0.uniq hS
      rw [this] at hl
      omega
  induction d with
  | zero =>
    intro q hd hq h0 _
    have := hn q hq h0
    omega
  | succ d ih =>
    intro q hd hq h0 hr
    have hqn := hn q hq h0
    obtain ⟨a, b, ha, hb, hab, h1, h2⟩ := hS.next hqn h0
    by_cases h : a < b
    · rw [if_pos h] at h1
      have h3 := h2 h
      rw [hl] at h3
      refine ⟨q, a, b, hqn, ha, hb, h, h3, ?_, hr⟩
      rw [List.take_add_one, h3]
      exact h1
    · rw [if_neg h] at h1
      exact ih (q + 1) (by omega) hqn h1 (hr.skip ha hb h)

/-- No span is left: the part is through. -/
theorem Rep.through {C : Nat → Cu} {M T n K ci nx : Nat} {S : List Sp} (hS : SpansOf C K M T n S) : ∀ (d q : Nat), n - q ≤ d → q ≤ n → SpansOf C K M T q S → Rep C M T n K q ci nx → Rep C M T n K n ci nx := by
  intro d
  induction d with
  | zero =>
    intro q hd hq _ hr
    rw [show q = n by omega] at hr
    exact hr
  | succ d ih =>
    intro q hd hq h0 hr
    rcases Nat.lt_or_ge q n with h | h
    · obtain ⟨a, b, ha, hb, hab, h1, h2⟩ := hS.next h h0
      by_cases hlt : a < b
      · have := h2 hlt
        rw [List.getElem?_eq_none (Nat.le_refl _)] at this
        cases this
      · rw [if_neg hlt] at h1
        exact ih (q + 1) (by omega) h h1 (hr.skip ha hb hlt)
    · rw [show q = n by omega] at hr
      exact hr

theorem wt_pos {c : Cu} {j : Nat} (ok : c.ok) (hw : 1 ≤ c.we) (hj : j < c.n) : 1 ≤ c.w j := by
  have h := (lt_cnt ok.c0 ok.r0).1 hj
  have hr := ok.r0
  show 1 ≤ min (min c.ru (c.ch - j * c.ru) * c.we) 1099511627776
  have : 1 * 1 ≤ min c.ru (c.ch - j * c.ru) * c.we := Nat.mul_le_mul (by omega) hw
  omega

/-- Where each choice weighs something, the last part ends where the line ends. -/
theorem Rep.last {C : Nat → Cu} {M n ci nx : Nat} (h : Rep C M (lineN C n) n M n ci nx) (ok : ∀ c, c < n → (C c).ok) (hw : ∀ c, c < n → 1 ≤ (C c).we) (hM : 1 ≤ M) (hc : ci < n) : nx = (C ci).n := by
  have h5 := h.2.2 ci hc
  rw [if_pos hc, if_neg (Nat.lt_irrefl _), if_pos rfl] at h5
  rcases Nat.lt_or_ge nx (C ci).n with hlt | hge
  · exfalso
    have h6 := h5.2.2 nx (Nat.le_refl _) hlt
    simp only [pHi, decide_eq_true_eq] at h6
    have o := ok ci hc
    have h1 := upto_len (ch := (C ci).ch) (ru := (C ci).ru) (we := (C ci).we) hlt
    rw [len_eq o.c0 o.r0] at h1
    have h2 : lineN C ci + (C ci).len ≤ lineN C n := sumN_mono (f := fun i => (C i).len) (show ci + 1 ≤ n by omega)
    have h3 : 1 ≤ wt (C ci).ch (C ci).ru (C ci).we nx := wt_pos o (hw ci hc) hlt
    have h4 : mid (C ci).ch (C ci).ru (C ci).we (lineN C ci) nx < 2 * lineN C n := by
      unfold mid
      omega
    have h7 : partN (C ci).ch (C ci).ru (C ci).we (lineN C ci) M (lineN C n) nx < M := by
      unfold partN
      rw [Nat.div_lt_iff_lt_mul (by omega), Nat.mul_comm M]
      exact Nat.mul_lt_mul_of_pos_right h4 hM
    omega
  · have := h5.1
    omega

/-- The place on the line. -/
def pos (C : Nat → Cu) (ci nx : Nat) : Nat := lineN C ci + sumN (C ci).w nx

theorem pos_adv (C : Nat → Cu) (ci : Nat) : pos C (ci + 1) 0 = pos C ci (C ci).n := rfl

theorem pos_le {C : Nat → Cu} {n ci nx : Nat} (hc : ci < n) (hx : nx ≤ (C ci).n) : pos C ci nx ≤ lineN C n := by
  have h1 : sumN (C ci).w nx ≤ (C ci).len := sumN_mono hx
  have h2 : lineN C ci + (C ci).len ≤ lineN C n := sumN_mono (f := fun i => (C i).len) (show ci + 1 ≤ n by omega)
  unfold pos
  omega

theorem le_maxN {f : Nat → Nat} {n i : Nat} (h : i < n) : f i ≤ maxN f n := by
  induction n with
  | zero => omega
  | succ n ih =>
    show f i ≤ max (maxN f n) (f n)
    rcases Nat.lt_or_ge i n with h1 | h1
    · have := ih h1
      omega
    · obtain rfl : i = n := by omega
      omega

theorem w_le_most {C : Nat → Cu} {n c j : Nat} (hc : c < n) (hj : j < (C c).n) : (C c).w j ≤ mostN C n :=
  Nat.le_trans (le_maxN (f := (C c).w) hj) (le_maxN (f := fun i => (C i).most) hc)

/-- What a part weighs so far, its start at P. -/
def Bal (C : Nat → Cu) (M T n K P we p : Nat) : Prop :=
  we + P = p ∧ (we = 0 ∨ ((K - 1) * (2 * T) ≤ (2 * P + mostN C n) * M ∧ 2 * p * M < K * (2 * T) + mostN C n * M))

theorem Bal.step {C : Nat → Cu} {M T n K P we q a b : Nat} (h : Bal C M T n K P we (pos C q a)) (ok : (C q).ok) (hT : 0 < T) (hq : q < n) (ha : Found (pLo C K M T q) (C q).n a) (hb : Found (pHi C K M T q) (C q).n b) (hab : a < b) {we' : Nat} (hw : we' + sumN (C q).w a = we + sumN (C q).w b) :
    Bal C M T n K P we' (pos C q b) := by
  obtain ⟨h1, h2⟩ := h
  have hbn := hb.1
  refine ⟨by unfold pos at h1 ⊢; omega, Or.inr ⟨?_, ?_⟩⟩
  · rcases h2 with h2 | h2
    · have h3 := (in_test ok hT ha hb (j := a) (by omega)).1.2 (Nat.le_refl _)
      have h4 := w_le_most (C := C) hq (j := a) (by omega)
      refine Nat.le_trans h3 (Nat.mul_le_mul_right _ ?_)
      unfold pos at h1
      omega
    · exact h2.1
  · have h3 := (in_test ok hT ha hb (j := b - 1) (by omega)).2.2 (by omega)
    have h4 := w_le_most (C := C) hq (j := b - 1) (by omega)
    have h5 : sumN (C q).w b = sumN (C q).w (b - 1) + (C q).w (b - 1) := by
      obtain ⟨t, rfl⟩ : ∃ t, b = t + 1 := ⟨b - 1, by omega⟩
      rfl
    have h6 : 2 * pos C q b = (2 * (lineN C q + sumN (C q).w (b - 1)) + (C q).w (b - 1)) + (C q).w (b - 1) := by
      unfold pos
      omega
    have h7 : (C q).w (b - 1) * M ≤ mostN C n * M := Nat.mul_le_mul_right _ h4
    rw [h6, Nat.add_mul]
    omega

theorem Bal.end {C : Nat → Cu} {M T n K P we p : Nat} (h : Bal C M T n K P we p) (hK : 1 ≤ K) (hw : 0 < we) : M * we < M * mostN C n + T := by
  obtain ⟨h1, h2⟩ := h
  rcases h2 with h2 | ⟨h2, h3⟩
  · omega
  · rw [← h1, Nat.mul_add, Nat.add_mul] at h3
    rw [Nat.sub_mul, Nat.one_mul, Nat.add_mul] at h2
    have h4 : 2 * T ≤ K * (2 * T) := Nat.le_mul_of_pos_left _ hK
    have e1 : 2 * we * M = 2 * (M * we) := by rw [Nat.mul_assoc, Nat.mul_comm we]
    have e2 : mostN C n * M = M * mostN C n := Nat.mul_comm _ _
    omega

end Go.Proofs.Qxb6605954a
