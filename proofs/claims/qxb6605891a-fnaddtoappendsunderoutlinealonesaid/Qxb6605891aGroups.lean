/-
  A MAP FROM STRINGS TO SLICES OF KEPT VALUES, MADE BY THE CALL ITSELF. The law's own word for it: 'GM w base top b n M': block b is a map whose entries are the pairs of the list M (key, values); each element is nil or a slice that owns a row of its own.
-/
import Derived.Test.Qxb6605891aSmall
namespace Go.Proofs.Qxb6605891a
open Go.RowKit Go.MapKept Go.ChangeMaps

/-! ### Plain lists: no Go in sight -/
abbrev KVs := List (Int × Int)
abbrev Groups := List (ByteArray × KVs)

def get : Groups → ByteArray → KVs
  | [], _ => []
  | m :: r, s => if m.1 = s then m.2 else get r s

def ups : Groups → ByteArray → KVs → Groups
  | [], s, z => [(s, z)]
  | m :: r, s, z => if m.1 = s then (s, z) :: r else m :: ups r s z

def keys (M : Groups) : List ByteArray := M.map (·.1)

def has : Groups → ByteArray → Bool
  | [], _ => false
  | m :: r, s => decide (m.1 = s) || has r s

theorem has_iff : ∀ (M : Groups) (s : ByteArray), has M s = true ↔ s ∈ keys M
  | [], s => by simp [has, keys]
  | m :: r, s => by
    have := has_iff r s
    simp only [has, keys, List.map_cons, List.mem_cons, Bool.or_eq_true, decide_eq_true_eq] at this ⊢
    rw [this]
    constructor
    · rintro (h | h)
      · exact Or.inl h.symm
      · exact Or.inr h
    · rintro (h | h)
      · exact Or.inl h.symm
      · exact Or.inr h

theorem has_not {M : Groups} {s : ByteArray} (h : s ∉ keys M) : has M s = false := by
  cases e : has M s with
  | false => rfl
  | true => exact absurd ((has_iff M s).1 e) h

theorem get_of_not_mem : ∀ (M : Groups) (s : ByteArray), s ∉ keys M → get M s = []
  | [], _, _ => rfl
  | m :: r, s, h => by
    simp only [keys, List.map_cons, List.mem_cons, not_or] at h
    simp only [get]
    rw [if_neg (fun e => h.1 e.symm)]
    exact get_of_not_mem r s h.2

theorem get_of_at : ∀ (M : Groups) (j : Nat) (m : ByteArray × KVs), (keys M).Nodup → M[j]? = some m → get M m.1 = m.2
  | [], j, m, _, h => by simp at h
  | x :: r, 0, m, _, h => by
    simp at h
    subst h
    simp [get]
  | x :: r, j + 1, m, hn, h => by
    simp only [keys, List.map_cons, List.nodup_cons] at hn
    simp only [List.getElem?_cons_succ] at h
    have hm : m.1 ∈ r.map (·.1) := List.mem_map.2 ⟨m, List.mem_of_getElem? h, rfl⟩
    simp only [get]
    rw [if_neg (fun e : x.1 = m.1 => hn.1 (e ▸ hm))]
    exact get_of_at r j m hn.2 h

theorem get_ups_same : ∀ (M : Groups) (s : ByteArray) (z : KVs), get (ups M s z) s = z
  | [], s, z => by simp [ups, get]
  | m :: r, s, z => by
    simp only [ups]
    split
    · simp [get]
    · rename_i h
      simp [get, h, get_ups_same r s z]

theorem get_ups_other : ∀ (M : Groups) (s k : ByteArray) (z : KVs), k ≠ s → get (ups M s z) k = get M k
  | [], s, k, z, h => by simp [ups, get, h.symm]
  | m :: r, s, k, z, h => by
    simp only [ups]
    split
    · rename_i e
      simp [get, e, h.symm]
    · simp only [get]
      rw [get_ups_other r s k z h]

theorem mem_keys_ups : ∀ (M : Groups) (s k : ByteArray) (z : KVs), k ∈ keys (ups M s z) ↔ k = s ∨ k ∈ keys M
  | [], s, k, z => by simp [ups, keys]
  | m :: r, s, k, z => by
    simp only [ups]
    split
    · rename_i e
      simp [keys, e]
    · have := mem_keys_ups r s k z
      simp only [keys, List.map_cons, List.mem_cons] at this ⊢
      rw [this]
      constructor
      · rintro (h | h | h)
        · exact Or.inr (Or.inl h)
        · exact Or.inl h
        · exact Or.inr (Or.inr h)
      · rintro (h | h | h)
        · exact Or.inr (Or.inl h)
        · exact Or.inl h
        · exact Or.inr (Or.inr h)

theorem ups_new : ∀ (M : Groups) (s : ByteArray) (z : KVs), s ∉ keys M → ups M s z = M ++ [(s, z)]
  | [], _, _, _ => rfl
  | m :: r, s, z, h => by
    simp only [keys, List.map_cons, List.mem_cons, not_or] at h
    simp only [ups, List.cons_append]
    rw [if_neg (fun e => h.1 e.symm), ups_new r s z h.2]

theorem ups_old : ∀ (M : Groups) (j : Nat) (m : ByteArray × KVs) (z : KVs), (keys M).Nodup → M[j]? = some m → ups M m.1 z = M.set j (m.1, z)
  | [], j, m, z, _, h => by simp at h
  | x :: r, 0, m, z, _, h => by
    simp at h
    subst h
    simp [ups]
  | x :: r, j + 1, m, z, hn, h => by
    simp only [keys, List.map_cons, List.nodup_cons] at hn
    simp only [List.getElem?_cons_succ] at h
    have hm : m.1 ∈ r.map (·.1) := List.mem_map.2 ⟨m, List.mem_of_getElem? h, rfl⟩
    simp only [ups, List.set_cons_succ]
    rw [if_neg (fun e : x.1 = m.1 => hn.1 (e ▸ hm)), ups_old r j m z hn.2 h]

theorem nodup_ups (M : Groups) (s : ByteArray) (z : KVs) (h : (keys M).Nodup) : (keys (ups M s z)).Nodup := by
  by_cases hs : s ∈ keys M
  · obtain ⟨m, hm, rfl⟩ := List.mem_map.1 hs
    obtain ⟨j, hj⟩ := List.getElem?_of_mem hm
    rw [ups_old M j m z h hj]
    have : keys (M.set j (m.1, z)) = keys M := by
      unfold keys
      rw [List.map_set]
      apply List.ext_getElem?
      intro i
      rw [List.getElem?_set]
      split
      · rename_i e
        subst e
        simp [hj]
        exact (List.getElem?_eq_some_iff.1 hj).1
      · rfl
    rw [this]
    exact h
  · rw [ups_new M s z hs]
    unfold keys
    rw [List.map_append]
    simp only [List.map_cons, List.map_nil]
    rw [List.nodup_append]
    exact ⟨h, by simp, fun a ha b hb e => by simp at hb; subst hb; exact hs (e ▸ ha)⟩

/-! ### The rows -/
def kvCells : KVs → List Value
  | [] => []
  | p :: r => .iface 3 (.int .i64 p.1) :: .iface 3 (.int .i64 p.2) :: kvCells r

theorem kvCells_length : ∀ zs : KVs, (kvCells zs).length = zs.length * 2
  | [] => rfl
  | p :: r => by simp [kvCells, kvCells_length r]; omega

theorem kvCells_append : ∀ zs ys : KVs, kvCells (zs ++ ys) = kvCells zs ++ kvCells ys
  | [], _ => rfl
  | p :: r, ys => by simp [kvCells, kvCells_append r ys]

theorem kvCells_at : ∀ (zs : KVs) (j : Nat) (p : Int × Int), zs[j]? = some p → (kvCells zs)[j * 2]? = some (.iface 3 (.int .i64 p.1)) ∧ (kvCells zs)[j * 2 + 1]? = some (.iface 3 (.int .i64 p.2))
  | [], j, p, h => by simp at h
  | x :: r, 0, p, h => by
    simp at h
    subst h
    simp [kvCells]
  | x :: r, j + 1, p, h => by
    simp only [List.getElem?_cons_succ] at h
    have := kvCells_at r j p h
    rw [show (j + 1) * 2 = j * 2 + 1 + 1 by omega]
    simpa [kvCells] using this

/-- The slice value v owns the pairs zs. -/
def owns (w : World) (base : Nat) (v : Value) (zs : KVs) : Prop := w.ownsRow base 33 2 v zs.length (kvCells zs)

theorem owns_nil (w : World) (base : Nat) : owns w base (.slice none 0 0) [] := World.ownsRow_nil _ _ _ _

theorem owns.kept {w w' : World} {base : Nat} {v : Value} {zs : KVs} {row : Option Nat} (h : owns w base v zs) (hg : w.grownBy w' row) (hne : v.ownBlock = none ∨ v.ownBlock ≠ row) : owns w' base v zs := World.ownsRow.kept h hg hne

/-- Entry x of the map stands for the pair m. -/
structure Ent (w : World) (base top n : Nat) (x : MapEntry) (m : ByteArray × KVs) : Prop where
  key : x.key = .string m.1
  size : m.1.size ≤ maxLen
  own : owns w base x.val m.2
  short : m.2.length ≤ n
  below : ∀ g, x.val.ownBlock = some g → g < top

/-- BLOCK b IS A MAP THAT HOLDS JUST THE PAIRS OF M. -/
def GM (w : World) (base top b n : Nat) (M : Groups) : Prop :=
  ∃ es clock, w.heap[b]? = some (.map es clock) ∧ Stamped es clock ∧ b < base ∧ M.length ≤ n ∧ es.toList.length = M.length ∧ (keys M).Nodup ∧
    (∀ (i : Nat) (x : MapEntry) (m : ByteArray × KVs), es.toList[i]? = some x → M[i]? = some m → Ent w base top n x m) ∧
    ∀ (i j : Nat) (x y : MapEntry), i ≠ j → es.toList[i]? = some x → es.toList[j]? = some y → x.val.ownBlock = none ∨ x.val.ownBlock ≠ y.val.ownBlock

theorem Ent.mono {w : World} {base top top' n n' : Nat} {x : MapEntry} {m : ByteArray × KVs} (h : Ent w base top n x m) (ht : top ≤ top') (hn : n ≤ n') : Ent w base top' n' x m :=
  ⟨h.key, h.size, h.own, Nat.le_trans h.short hn, fun g hg => Nat.lt_of_lt_of_le (h.below g hg) ht⟩

theorem GM.mono {w : World} {base top top' b n n' : Nat} {M : Groups} (h : GM w base top b n M) (ht : top ≤ top') (hn : n ≤ n') : GM w base top' b n' M := by
  obtain ⟨es, clock, hb, hst, hbb, hl, he, hk, hent, hap⟩ := h
  exact ⟨es, clock, hb, hst, hbb, Nat.le_trans hl hn, he, hk, fun i x m hx hm => (hent i x m hx hm).mono ht hn, hap⟩

theorem GM.nodup {w : World} {base top b n : Nat} {M : Groups} (h : GM w base top b n M) : (keys M).Nodup := by
  obtain ⟨es, clock, hb, hst, hbb, hl, he, hk, hent, hap⟩ := h
  exact hk

theorem GM.lt {w : World} {base top b n : Nat} {M : Groups} (h : GM w base top b n M) : b < w.heap.size ∧ b < base := by
  obtain ⟨es, clock, hb, hst, hbb, _⟩ := h
  exact ⟨(Array.getElem?_eq_some_iff.1 hb).1, hbb⟩

theorem GM_made (w : World) (top n : Nat) : GM (w.alloc (.map #[] 0)) (w.heap.size + 1) top w.heap.size n [] :=
  ⟨#[], 0, (MapKept.heap_alloc w _).1, stamped_empty 0, Nat.lt_succ_self _, Nat.zero_le _, rfl, by simp [keys], by simp, by simp⟩

/-- Other blocks are written, new ones are made. -/
theorem GM.kept {w w' : World} {base top b n : Nat} {M : Groups} {row : Option Nat} (h : GM w base top b n M) (hg : w.grownBy w' row) (hb' : some b ≠ row) (hrow : ∀ g, row = some g → top ≤ g) : GM w' base top b n M := by
  obtain ⟨es, clock, hb, hst, hbb, hl, he, hk, hent, hap⟩ := h
  refine ⟨es, clock, (hg.block b (Array.getElem?_eq_some_iff.1 hb).1 hb').trans hb, hst, hbb, hl, he, hk, fun i x m hx hm => ?_, hap⟩
  have e := hent i x m hx hm
  refine ⟨e.key, e.size, e.own.kept hg ?_, e.short, e.below⟩
  cases hv : x.val.ownBlock with
  | none => exact Or.inl rfl
  | some g =>
    refine Or.inr (fun e1 => ?_)
    have h1 := e.below g hv
    have h2 := hrow g e1.symm
    omega

theorem GM.alloc {w : World} {base top b n : Nat} {M : Groups} (h : GM w base top b n M) (o : Obj) : GM (w.alloc o) base top b n M :=
  h.kept (World.grownBy_alloc w o none) (by simp) (by simp)

/-- No entry at another key than s lies in the row. -/
def Clear (w : World) (b : Nat) (s : ByteArray) (row : Option Nat) : Prop :=
  ∀ es clock, w.heap[b]? = some (.map es clock) → ∀ x ∈ es.toList, x.key ≠ .string s → x.val.ownBlock = none ∨ x.val.ownBlock ≠ row

theorem Clear_none (w : World) (b : Nat) (s : ByteArray) : Clear w b s none := by
  intro es clock _ x _ _
  cases x.val.ownBlock <;> simp

theorem law9 : Go.Maps.Keyed Try.prog 9 := Go.Maps.string_keyed Try.underlying9
theorem zero31 (w : World) : (zeroValue 31).run Try.prog w = .ok (.slice none 0 0) w := by kernel_rfl

theorem key_lit {s : ByteArray} (hs : s.size ≤ maxLen) : ∃ kl, keyOf Try.prog 9 (.string s) = some kl := ⟨_, Go.WideMaps.keyOf_string_mk Try.underlying9 hs⟩

theorem GM.keysOf {w : World} {base top n : Nat} {es : List MapEntry} {M : Groups} (he : es.length = List.length M) (hent : ∀ (i : Nat) (x : MapEntry) (m : ByteArray × KVs), es[i]? = some x → M[i]? = some m → Ent w base top n x m) :
    (∀ x ∈ es, ∃ l, keyOf Try.prog 9 x.key = some l) ∧ ∀ (i : Nat) (x : MapEntry), es[i]? = some x → ∃ m : ByteArray × KVs, M[i]? = some m ∧ Ent w base top n x m := by
  have h2 : ∀ (i : Nat) (x : MapEntry), es[i]? = some x → ∃ m : ByteArray × KVs, M[i]? = some m ∧ Ent w base top n x m := by
    intro i x hx
    have hi : i < M.length := by rw [← he]; exact (List.getElem?_eq_some_iff.1 hx).1
    exact ⟨M[i], List.getElem?_eq_getElem hi, hent i x _ hx (List.getElem?_eq_getElem hi)⟩
  refine ⟨fun x hx => ?_, h2⟩
  obtain ⟨i, hi⟩ := List.getElem?_of_mem hx
  obtain ⟨m, hm, e⟩ := h2 i x hi
  rw [e.key]
  exact key_lit e.size

/-- 'm[s]': the value, the pairs that it owns; no other key's entry lies in its row. -/
theorem GM.look {w : World} {base top b n : Nat} {M : Groups} (h : GM w base top b n M) {s : ByteArray} (hs : s.size ≤ maxLen) (c : Bool) :
    ∃ v, (Instr.lookup 30 (.map (some b)) (.string s) c).run Try.prog w = .ok (if c then .tuple #[v, .bool (has M s)] else v) w ∧ owns w base v (get M s) ∧ (get M s).length ≤ n ∧ Clear w b s v.ownBlock ∧ v.ownBlock ≠ some b ∧ ∀ g, v.ownBlock = some g → g < top := by
  obtain ⟨es, clock, hb, hst, hbb, hl, he, hk, hent, hap⟩ := h
  obtain ⟨hks, hat⟩ := GM.keysOf he hent
  obtain ⟨kl, hkey⟩ := key_lit hs
  rcases law9.find w hkey es.toList hks with ⟨h1, h2⟩ | ⟨j, e0, h1, h2, h3⟩
  · have hnot : s ∉ keys M := by
      intro hm
      obtain ⟨m, hm', rfl⟩ := List.mem_map.1 hm
      obtain ⟨i, hi⟩ := List.getElem?_of_mem hm'
      have hil : i < es.toList.length := by rw [he]; exact (List.getElem?_eq_some_iff.1 hi).1
      have ex := List.getElem?_eq_getElem hil
      exact h2 _ (List.mem_of_getElem? ex) (hent i _ m ex hi).key
    refine ⟨.slice none 0 0, ?_, ?_, ?_, ?_, by simp [Value.ownBlock], by simp [Value.ownBlock]⟩
    · cases c <;> simp [Instr.lookup, run_underlying Try.underlying30, MapKept.run_getObj_map hb, law9.check w _ hkey, h1, Result.andThen, has_not hnot]
    · rw [get_of_not_mem M s hnot]
      exact owns_nil _ _
    · rw [get_of_not_mem M s hnot]
      exact Nat.zero_le _
    · exact Clear_none w b s
  · obtain ⟨m, hm, e⟩ := hat j e0 h2
    have hsm : m.1 = s := by
      have := e.key.symm.trans h3
      injection this
    have hmem : s ∈ keys M := hsm ▸ List.mem_map.2 ⟨m, List.mem_of_getElem? hm, rfl⟩
    have hg : get M s = m.2 := hsm ▸ get_of_at M j m hk hm
    refine ⟨e0.val, ?_, ?_, ?_, ?_, ?_, e.below⟩
    · cases c <;> simp [Instr.lookup, run_underlying Try.underlying30, MapKept.run_getObj_map hb, law9.check w _ hkey, h1, Result.andThen, (has_iff M s).2 hmem]
    · rw [hg]; exact e.own
    · rw [hg]; exact e.short
    · intro es' clock' hb' x hx hne
      rw [hb] at hb'
      cases hb'
      obtain ⟨i, hi⟩ := List.getElem?_of_mem hx
      refine hap i j x e0 (fun eij => ?_) hi h2
      subst eij
      rw [hi] at h2
      cases h2
      exact hne h3
    · intro e1
      have := (World.ownsRow.lt e.own b e1).1
      omega

/-- 'm[s] = v'', behind whatever was done to the row of the old value and to new blocks. -/
theorem GM.store {w w1 : World} {base top top' b n n' : Nat} {M : Groups} (h : GM w base top b n M) {s : ByteArray} (hs : s.size ≤ maxLen) (hn : n < maxLen) (hnn : n + 1 ≤ n') (htt : top ≤ top')
    {row : Option Nat} (hcl : Clear w b s row) (hrb : row ≠ some b) (hg : w.grownBy w1 row) {v' : Value} {zs' : KVs} (hown' : owns w1 base v' zs') (hl' : zs'.length ≤ n')
    (hloc : v'.ownBlock = row ∨ v'.ownBlock = none ∨ ∃ g, v'.ownBlock = some g ∧ top ≤ g) (htop : ∀ g, v'.ownBlock = some g → g < top') :
    ∃ w2, (Instr.mapUpdate 30 (.map (some b)) (.string s) v').run Try.prog w1 = .ok () w2 ∧ GM w2 base top' b n' (ups M s zs') ∧ w1.grownBy w2 (some b) := by
  obtain ⟨es, clock, hb, hst, hbb, hl, he, hk, hent, hap⟩ := h
  obtain ⟨hks, hat⟩ := GM.keysOf he hent
  obtain ⟨kl, hkey⟩ := key_lit hs
  have hb1 : w1.heap[b]? = some (.map es clock) := (hg.block b (Array.getElem?_eq_some_iff.1 hb).1 (fun e1 => hrb e1.symm)).trans hb
  have hroom : es.size < maxLen := by
    have : es.size = M.length := by simpa using he
    omega
  have grown : ∀ es' clock', w1.grownBy (setBlock w1 b (.map es' clock')) (some b) := fun es' clock' => ⟨rfl, rfl, rfl, by simp [setBlock], fun i _ hi => heap_setBlock_other hb1 _ (fun e1 => hi (by rw [e1]))⟩
  have ne_b : ∀ {x : Value} {zs : KVs}, owns w1 base x zs → x.ownBlock = none ∨ x.ownBlock ≠ some b := fun {x zs} ho => by
    cases hx : x.ownBlock with
    | none => exact Or.inl rfl
    | some g =>
      refine Or.inr (fun e1 => ?_)
      have := (World.ownsRow.lt ho g hx).1
      cases e1
      omega
  have other : ∀ es' clock' (i : Nat) (x : MapEntry) (m : ByteArray × KVs), es.toList[i]? = some x → M[i]? = some m → x.key ≠ .string s → Ent (setBlock w1 b (.map es' clock')) base top' n' x m := by
    intro es' clock' i x m hx hm hne
    have e := hent i x m hx hm
    have o1 := e.own.kept hg (hcl es clock hb x (List.mem_of_getElem? hx) hne)
    exact ⟨e.key, e.size, o1.kept (grown es' clock') (ne_b o1), by have := e.short; omega, fun g hgx => Nat.lt_of_lt_of_le (e.below g hgx) htt⟩
  have new : ∀ es' clock' born, Ent (setBlock w1 b (.map es' clock')) base top' n' ⟨.string s, v', born⟩ (s, zs') := fun es' clock' born => ⟨rfl, hs, hown'.kept (grown es' clock') (ne_b hown'), hl', htop⟩
  have apart : ∀ (i : Nat) (x : MapEntry), es.toList[i]? = some x → x.key ≠ .string s → x.val.ownBlock = none ∨ x.val.ownBlock ≠ v'.ownBlock := by
    intro i x hx hne
    obtain ⟨m, hm, e⟩ := hat i x hx
    rcases hloc with h1 | h1 | ⟨g, h1, h2⟩
    · rw [h1]
      exact hcl es clock hb x (List.mem_of_getElem? hx) hne
    · cases hx' : x.val.ownBlock with
      | none => exact Or.inl rfl
      | some gx => exact Or.inr (by rw [h1]; simp)
    · cases hx' : x.val.ownBlock with
      | none => exact Or.inl rfl
      | some gx =>
        have := e.below gx hx'
        refine Or.inr (fun e1 => ?_)
        rw [h1] at e1
        cases e1
        omega
  have flip : ∀ {x y : Value}, (x.ownBlock = none ∨ x.ownBlock ≠ y.ownBlock) → (y.ownBlock = none ∨ y.ownBlock ≠ x.ownBlock) := by
    intro x y hxy
    cases hy : y.ownBlock with
    | none => exact Or.inl rfl
    | some g =>
      refine Or.inr (fun e1 => ?_)
      rcases hxy with h1 | h1
      · rw [h1] at e1
        cases e1
      · exact h1 (by rw [hy, e1])
  rcases law9.find w1 hkey es.toList hks with ⟨h1, h2⟩ | ⟨j, e0, h1, h2, h3⟩
  · have hnot : s ∉ keys M := by
      intro hm
      obtain ⟨m, hm', rfl⟩ := List.mem_map.1 hm
      obtain ⟨i, hi⟩ := List.getElem?_of_mem hm'
      have hil : i < es.toList.length := by rw [he]; exact (List.getElem?_eq_some_iff.1 hi).1
      have ex := List.getElem?_eq_getElem hil
      exact h2 _ (List.mem_of_getElem? ex) (hent i _ m ex hi).key
    refine ⟨setBlock w1 b (.map (es.push ⟨.string s, v', clock⟩) (clock + 1)), ?_, ⟨_, _, heap_setBlock_same hb1 _, stamped_push hst h2, hbb, ?_, ?_, nodup_ups M s zs' hk, ?_, ?_⟩, grown _ _⟩
    · simp [Instr.mapUpdate, run_underlying Try.underlying30, MapKept.run_getObj_map hb1, law9.check w1 false hkey, h1, MapKept.run_setObj_map _ hb1, Result.andThen, setBlock]
    · rw [ups_new M s zs' hnot]
      simp
      omega
    · rw [ups_new M s zs' hnot]
      simp at he ⊢
      exact he
    · intro i x m hx hm
      rw [ups_new M s zs' hnot] at hm
      rw [Array.toList_push] at hx
      rcases Nat.lt_or_ge i M.length with hi | hi
      · rw [List.getElem?_append_left (by omega)] at hx
        rw [List.getElem?_append_left hi] at hm
        exact other _ _ i x m hx hm (h2 x (List.mem_of_getElem? hx))
      · rw [List.getElem?_append_right (by omega)] at hx
        rw [List.getElem?_append_right hi] at hm
        rw [he] at hx
        obtain ⟨hm0, hm1⟩ := List.getElem?_eq_some_iff.1 hm
        have hi0 : i - M.length = 0 := by simpa using hm0
        rw [hi0] at hx hm
        simp at hx hm
        subst hx
        subst hm
        exact new _ _ _
    · intro i k x y hik hx hy
      rw [Array.toList_push] at hx hy
      have at_end : ∀ {i : Nat} {x : MapEntry}, (es.toList ++ [(⟨.string s, v', clock⟩ : MapEntry)])[i]? = some x → (i < es.toList.length ∧ es.toList[i]? = some x) ∨ (i = es.toList.length ∧ x = ⟨.string s, v', clock⟩) := by
        intro i x hx
        rcases Nat.lt_or_ge i es.toList.length with hi | hi
        · rw [List.getElem?_append_left hi] at hx
          exact Or.inl ⟨hi, hx⟩
        · rw [List.getElem?_append_right hi] at hx
          obtain ⟨hm0, _⟩ := List.getElem?_eq_some_iff.1 hx
          have hi0 : i - es.toList.length = 0 := by simpa using hm0
          rw [hi0] at hx
          simp at hx
          exact Or.inr ⟨by omega, hx.symm⟩
      rcases at_end hx with ⟨_, hx0⟩ | ⟨ei, rfl⟩ <;> rcases at_end hy with ⟨_, hy0⟩ | ⟨ek, rfl⟩
      · exact hap i k x y hik hx0 hy0
      · exact apart i x hx0 (h2 x (List.mem_of_getElem? hx0))
      · exact flip (apart k y hy0 (h2 y (List.mem_of_getElem? hy0)))
      · exact absurd (ei.trans ek.symm) hik
  · obtain ⟨m0, hm0, en0⟩ := hat j e0 h2
    have hsm : m0.1 = s := by
      have := en0.key.symm.trans h3
      injection this
    have hjl : j < es.toList.length := (List.getElem?_eq_some_iff.1 h2).1
    have hj : es[j]? = some e0 := by simpa using h2
    have hlist : (es.modify j (fun e' => { e' with key := .string s, val := v' })).toList = es.toList.set j { e0 with key := .string s, val := v' } := by rw [Array.toList_modify, modify_eq_set _ _ _ _ h2]
    have hups : ups M s zs' = M.set j (s, zs') := by rw [← hsm]; exact ups_old M j m0 zs' hk hm0
    have keyne : ∀ {i : Nat} {x : MapEntry}, i ≠ j → es.toList[i]? = some x → x.key ≠ .string s := by
      intro i x hij hx e1
      obtain ⟨m, hm, e⟩ := hat i x hx
      have e2 : m.1 = s := by
        have := e.key.symm.trans e1
        injection this
      have k1 : (keys M)[i]? = some s := by simp [keys, hm, e2]
      have k2 : (keys M)[j]? = some s := by simp [keys, hm0, hsm]
      have l1 := (List.getElem?_eq_some_iff.1 k1).1
      exact hij ((List.getElem?_inj l1 hk).1 (k1.trans k2.symm))
    refine ⟨setBlock w1 b (.map (es.modify j (fun e' => { e' with key := .string s, val := v' })) clock), ?_, ⟨_, _, heap_setBlock_same hb1 _, stamped_modify hst _ _ (fun _ _ => rfl) (fun e' _ he' => by rw [hj] at he'; cases he'; exact h3.symm), hbb, ?_, ?_, nodup_ups M s zs' hk, ?_, ?_⟩, grown _ _⟩
    · simp [Instr.mapUpdate, run_underlying Try.underlying30, MapKept.run_getObj_map hb1, law9.check w1 false hkey, h1, hj, h3, law9.stays w1 hkey, MapKept.run_setObj_map _ hb1, Result.andThen, setBlock]
    · rw [hups]
      simp
      omega
    · rw [hups, hlist]
      simpa using he
    · intro i x m hx hm
      rw [hups] at hm
      rw [hlist] at hx
      by_cases hij : i = j
      · subst hij
        rw [List.getElem?_set_self hjl] at hx
        rw [List.getElem?_set_self (by omega)] at hm
        cases hx
        cases hm
        exact new _ _ _
      · rw [List.getElem?_set_ne (fun e => hij e.symm)] at hx hm
        exact other _ _ i x m hx hm (keyne hij hx)
    · intro i k x y hik hx hy
      rw [hlist] at hx hy
      by_cases hij : i = j
      · subst hij
        rw [List.getElem?_set_self hjl] at hx
        rw [List.getElem?_set_ne hik] at hy
        cases hx
        exact flip (apart k y hy (keyne (fun e => hik e.symm) hy))
      · rw [List.getElem?_set_ne (fun e => hij e.symm)] at hx
        by_cases hkj : k = j
        · subst hkj
          rw [List.getElem?_set_self hjl] at hy
          cases hy
          exact apart i x hx (keyne hij hx)
        · rw [List.getElem?_set_ne (fun e => hkj e.symm)] at hy
          exact hap i k x y hik hx hy

/-- 'len(m)'. -/
theorem GM.len {w : World} {base top b n : Nat} {M : Groups} (h : GM w base top b n M) (ty : TypeId) : (Builtin.len_ #[30] ty #[.map (some b)]).run Try.prog w = .ok (.int .i64 M.length) w := by
  obtain ⟨es, clock, hb, hst, hbb, hl, he, hk, hent, hap⟩ := h
  have e1 : es.size = M.length := by simpa using he
  simp [Builtin.len_, run_underlying Try.underlying30, MapKept.run_getObj_map hb, goInt, Result.andThen, e1]

end Go.Proofs.Qxb6605891a
