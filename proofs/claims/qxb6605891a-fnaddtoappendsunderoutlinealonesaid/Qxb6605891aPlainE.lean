/-
  THE PLAIN LAW OF ONE ADD: no Go in sight. Entry i has the key K i and the values Z i; the last entry of a key counts.
-/
import Derived.Test.Qxb6605891aEnts
namespace Go.Proofs.Qxb6605891a

/-- The values of the last of the first k entries whose key is s. -/
def lastZ (K : Nat → ByteArray) (Z : Nat → KVs) (s : ByteArray) : Nat → KVs
  | 0 => []
  | k + 1 => if K k = s then Z k else lastZ K Z s k

structure HoldsE (K : Nat → ByteArray) (Z : Nat → KVs) (k : Nat) (M : Groups) : Prop where
  key : ∀ s, s ∈ keys M ↔ ∃ i, i < k ∧ K i = s
  val : ∀ s, get M s = lastZ K Z s k

theorem holdsE_zero (K : Nat → ByteArray) (Z : Nat → KVs) : HoldsE K Z 0 [] := ⟨by simp [keys], fun _ => rfl⟩

theorem holdsE_step {K : Nat → ByteArray} {Z : Nat → KVs} {k : Nat} {M : Groups} (h : HoldsE K Z k M) : HoldsE K Z (k + 1) (ups M (K k) (Z k)) where
  key s := by
    rw [mem_keys_ups, h.key]
    constructor
    · rintro (rfl | ⟨i, hi, rfl⟩)
      · exact ⟨k, by omega, rfl⟩
      · exact ⟨i, by omega, rfl⟩
    · rintro ⟨i, hi, rfl⟩
      rcases Nat.lt_or_ge i k with h1 | h1
      · exact Or.inr ⟨i, h1, rfl⟩
      · exact Or.inl (by rw [show i = k by omega])
  val s := by
    by_cases hs : K k = s
    · subst hs
      rw [get_ups_same]
      simp [lastZ]
    · rw [get_ups_other _ _ _ _ (fun e => hs e.symm), h.val]
      simp [lastZ, hs]

/-- What 'lastOf' says. -/
theorem lastOf_cases (K : Nat → ByteArray) (Z : Nat → KVs) (s : ByteArray) : ∀ n, (lastOf K s n = -1 ∧ lastZ K Z s n = [] ∧ ∀ i, i < n → K i ≠ s) ∨ ∃ i : Nat, i < n ∧ lastOf K s n = i ∧ K i = s ∧ lastZ K Z s n = Z i ∧ ∀ t, i < t → t < n → K t ≠ s
  | 0 => Or.inl ⟨rfl, rfl, fun i hi => by omega⟩
  | n + 1 => by
    by_cases h : K n = s
    · exact Or.inr ⟨n, by omega, by simp [lastOf, h], h, by simp [lastZ, h], fun t a b => by omega⟩
    · rcases lastOf_cases K Z s n with ⟨h1, h2, h3⟩ | ⟨i, h1, h2, h3, h4, h5⟩
      · refine Or.inl ⟨by simp [lastOf, h, h1], by simp [lastZ, h, h2], fun i hi => ?_⟩
        rcases Nat.lt_or_ge i n with a | a
        · exact h3 i a
        · rw [show i = n by omega]; exact h
      · refine Or.inr ⟨i, by omega, by simp [lastOf, h, h2], h3, by simp [lastZ, h, h4], fun t a b => ?_⟩
        rcases Nat.lt_or_ge t n with c | c
        · exact h5 t a c
        · rw [show t = n by omega]; exact h

theorem lastOf_self {K : Nat → ByteArray} (Z : Nat → KVs) {n i : Nat} (hi : i < n) : (lastOf K (K i) n = i → Last K n i ∧ lastZ K Z (K i) n = Z i) ∧ (lastOf K (K i) n ≠ i → ¬ Last K n i) := by
  rcases lastOf_cases K Z (K i) n with ⟨h1, h2, h3⟩ | ⟨j, h1, h2, h3, h4, h5⟩
  · exact absurd rfl (h3 i hi)
  · constructor
    · intro e
      rw [h2] at e
      obtain rfl : j = i := by omega
      exact ⟨h5, h4⟩
    · intro e hl
      rw [h2] at e
      rcases Nat.lt_trichotomy i j with c | c | c
      · exact hl j c h1 h3
      · exact e (by rw [c])
      · exact h5 i c hi rfl

theorem countE {K : Nat → ByteArray} {Z : Nat → KVs} {n : Nat} {L : List ByteArray} {M : Groups} (h : Lasts K n n L) (hM : HoldsE K Z n M) (hk : (keys M).Nodup) (s : ByteArray) (z : KVs) :
    (ups M s z).length = if lastOf K s n < 0 then L.length + 1 else L.length := by
  have hml : M.length = L.length := by
    have hp : (keys M).Perm L := by
      rw [List.perm_ext_iff_of_nodup hk h.nodup]
      intro s
      rw [hM.key, h.mem]
      constructor
      · rintro ⟨i, hi, rfl⟩
        obtain ⟨j, hj, hjl, hje⟩ := last_exists K n n i (by omega) hi
        exact ⟨j, hj, hjl, hje⟩
      · rintro ⟨i, hi, _, e⟩
        exact ⟨i, hi, e⟩
    have := hp.length_eq
    simpa [keys] using this
  rcases lastOf_cases K Z s n with ⟨h1, _, h3⟩ | ⟨j, h1, h2, h3, _, _⟩
  · rw [if_pos (by omega), ups_new M s z (fun hm => ?_)]
    · simp [hml]
    · obtain ⟨i, hi, e⟩ := (hM.key s).1 hm
      exact h3 i hi e
  · rw [if_neg (by omega)]
    obtain ⟨m, hm, e⟩ := List.mem_map.1 ((hM.key s).2 ⟨j, h1, h3⟩)
    obtain ⟨q, hq⟩ := List.getElem?_of_mem hm
    rw [← e, ups_old M q m z hk hq]
    simp [hml]

end Go.Proofs.Qxb6605891a
