/-
  THE PLAIN LAW OF THE SCRIPT: no Go in sight. Step i has the outline K i and the pair (A i, C i).
-/
import Derived.Test.Qxb6605891aGroups
namespace Go.Proofs.Qxb6605891a

/-- The pairs of the first k steps whose outline is s, in order. -/
def vals (K : Nat → ByteArray) (A C : Nat → Int) (s : ByteArray) : Nat → KVs
  | 0 => []
  | k + 1 => if K k = s then vals K A C s k ++ [(A k, C k)] else vals K A C s k

theorem vals_hit {K : Nat → ByteArray} {A C : Nat → Int} {s : ByteArray} {k : Nat} (h : K k = s) : vals K A C s (k + 1) = vals K A C s k ++ [(A k, C k)] := by simp [vals, h]
theorem vals_miss {K : Nat → ByteArray} {A C : Nat → Int} {s : ByteArray} {k : Nat} (h : K k ≠ s) : vals K A C s (k + 1) = vals K A C s k := by simp [vals, h]

theorem vals_le (K : Nat → ByteArray) (A C : Nat → Int) (s : ByteArray) : ∀ k, (vals K A C s k).length ≤ k
  | 0 => Nat.le_refl _
  | k + 1 => by
    have := vals_le K A C s k
    by_cases h : K k = s
    · rw [vals_hit h]; simp; omega
    · rw [vals_miss h]; omega

/-- A later step with the same outline adds behind. -/
theorem vals_prefix (K : Nat → ByteArray) (A C : Nat → Int) (s : ByteArray) {j : Nat} : ∀ {n : Nat}, j ≤ n → ∃ r, vals K A C s n = vals K A C s j ++ r
  | 0, h => ⟨[], by rw [show j = 0 by omega]; simp⟩
  | n + 1, h => by
    rcases Nat.lt_or_ge n j with h1 | h1
    · exact ⟨[], by rw [show j = n + 1 by omega]; simp⟩
    · obtain ⟨r, hr⟩ := vals_prefix K A C s h1
      by_cases hk : K n = s
      · exact ⟨r ++ [(A n, C n)], by rw [vals_hit hk, hr]; simp⟩
      · exact ⟨r, by rw [vals_miss hk, hr]⟩

/-- Where no later step has the outline, nothing is added. -/
theorem vals_last (K : Nat → ByteArray) (A C : Nat → Int) (s : ByteArray) {j : Nat} : ∀ {n : Nat}, j ≤ n → (∀ t, j ≤ t → t < n → K t ≠ s) → vals K A C s n = vals K A C s j
  | 0, h, _ => by rw [show j = 0 by omega]
  | n + 1, h, hn => by
    rcases Nat.lt_or_ge n j with h1 | h1
    · rw [show j = n + 1 by omega]
    · rw [vals_miss (hn n h1 (Nat.lt_succ_self n))]
      exact vals_last K A C s h1 (fun t a b => hn t a (Nat.lt_succ_of_lt b))

/-- The pair of step j is the one at its place. -/
theorem vals_at (K : Nat → ByteArray) (A C : Nat → Int) (s : ByteArray) {j n : Nat} (hj : j < n) (h : K j = s) : (vals K A C s n)[(vals K A C s j).length]? = some (A j, C j) := by
  obtain ⟨r, hr⟩ := vals_prefix K A C s (show j + 1 ≤ n by omega)
  rw [hr, vals_hit h]
  simp

/-- What the map holds after k steps. -/
structure Holds (K : Nat → ByteArray) (A C : Nat → Int) (k : Nat) (M : Groups) : Prop where
  key : ∀ s, s ∈ keys M ↔ ∃ i, i < k ∧ K i = s
  val : ∀ s, get M s = vals K A C s k

theorem holds_one (K : Nat → ByteArray) (A C : Nat → Int) : Holds K A C 1 [(K 0, [(A 0, C 0)])] where
  key s := by
    simp only [keys, List.map_cons, List.map_nil, List.mem_singleton]
    constructor
    · rintro rfl
      exact ⟨0, by omega, rfl⟩
    · rintro ⟨i, hi, rfl⟩
      rw [show i = 0 by omega]
  val s := by
    simp only [get, vals]
    split <;> rfl

theorem holds_step {K : Nat → ByteArray} {A C : Nat → Int} {k : Nat} {M : Groups} (h : Holds K A C k M) : Holds K A C (k + 1) (ups M (K k) (get M (K k) ++ [(A k, C k)])) where
  key s := by
    rw [mem_keys_ups, h.key]
    constructor
    · rintro (rfl | ⟨i, hi, rfl⟩)
      · exact ⟨k, by omega, rfl⟩
      · exact ⟨i, by omega, rfl⟩
    · rintro ⟨i, hi, rfl⟩
      rcases Nat.lt_or_ge i k with h1 | h1
      · exact Or.inr ⟨i, h1, rfl⟩
      · exact Or.inl (by rw [show i = k by omega])
  val s := by
    by_cases hs : K k = s
    · subst hs
      rw [get_ups_same, vals_hit rfl, h.val]
    · rw [get_ups_other _ _ _ _ (fun e => hs e.symm), vals_miss hs, h.val]

/-- Step i is the last with its outline. -/
def Last (K : Nat → ByteArray) (n i : Nat) : Prop := ∀ t, i < t → t < n → K t ≠ K i

/-- The outlines of the last steps among the first k: no two alike. -/
structure Lasts (K : Nat → ByteArray) (n k : Nat) (L : List ByteArray) : Prop where
  nodup : L.Nodup
  mem : ∀ s, s ∈ L ↔ ∃ i, i < k ∧ Last K n i ∧ K i = s
  short : L.length ≤ k

theorem lasts_zero (K : Nat → ByteArray) (n : Nat) : Lasts K n 0 [] := ⟨by simp, by simp, Nat.le_refl _⟩

theorem lasts_skip {K : Nat → ByteArray} {n k : Nat} {L : List ByteArray} (h : Lasts K n k L) (hk : ¬ Last K n k) : Lasts K n (k + 1) L where
  nodup := h.nodup
  mem s := by
    rw [h.mem]
    constructor
    · rintro ⟨i, hi, hl, e⟩
      exact ⟨i, by omega, hl, e⟩
    · rintro ⟨i, hi, hl, e⟩
      refine ⟨i, ?_, hl, e⟩
      rcases Nat.lt_or_ge i k with h1 | h1
      · exact h1
      · rw [show i = k by omega] at hl
        exact absurd hl hk
  short := Nat.le_succ_of_le h.short

theorem lasts_take {K : Nat → ByteArray} {n k : Nat} {L : List ByteArray} (h : Lasts K n k L) (hn : k < n) (hk : Last K n k) : Lasts K n (k + 1) (L ++ [K k]) where
  nodup := by
    rw [List.nodup_append]
    refine ⟨h.nodup, by simp, fun a ha b hb e => ?_⟩
    simp at hb
    subst hb
    obtain ⟨i, hi, hl, e1⟩ := (h.mem a).1 ha
    exact hl k hi hn (by rw [e1, e])
  mem s := by
    simp only [List.mem_append, List.mem_singleton, h.mem]
    constructor
    · rintro (⟨i, hi, hl, e⟩ | rfl)
      · exact ⟨i, by omega, hl, e⟩
      · exact ⟨k, by omega, hk, rfl⟩
    · rintro ⟨i, hi, hl, e⟩
      rcases Nat.lt_or_ge i k with h1 | h1
      · exact Or.inl ⟨i, h1, hl, e⟩
      · rw [show i = k by omega] at e
        exact Or.inr e.symm
  short := by
    have := h.short
    simp
    omega

/-- Each outline has a last step. -/
theorem last_exists (K : Nat → ByteArray) (n : Nat) : ∀ d i, n - i ≤ d → i < n → ∃ j, j < n ∧ Last K n j ∧ K j = K i
  | 0, i, h, hi => by omega
  | d + 1, i, h, hi => by
    by_cases hl : Last K n i
    · exact ⟨i, hi, hl, rfl⟩
    · have : ∃ t, i < t ∧ t < n ∧ K t = K i := by
        apply Classical.byContradiction
        intro hne
        exact hl (fun t a b e => hne ⟨t, a, b, e⟩)
      obtain ⟨t, a, b, e⟩ := this
      obtain ⟨j, hj, hjl, hje⟩ := last_exists K n d t (by omega) b
      exact ⟨j, hj, hjl, hje.trans e⟩

theorem lasts_length {K : Nat → ByteArray} {A C : Nat → Int} {n : Nat} {L : List ByteArray} {M : Groups} (h : Lasts K n n L) (hM : Holds K A C n M) (hk : (keys M).Nodup) : M.length = L.length := by
  have hp : (keys M).Perm L := by
    rw [List.perm_ext_iff_of_nodup hk h.nodup]
    intro s
    rw [hM.key, h.mem]
    constructor
    · rintro ⟨i, hi, rfl⟩
      obtain ⟨j, hj, hjl, hje⟩ := last_exists K n n i (by omega) hi
      exact ⟨j, hj, hjl, hje⟩
    · rintro ⟨i, hi, _, e⟩
      exact ⟨i, hi, e⟩
  have := hp.length_eq
  simpa [keys] using this

end Go.Proofs.Qxb6605891a
