/-
  THE ENTRIES IN MEMORY, and the callees that read them: zzBytes (5), lastEntry (9), sameKV (10).
-/
import Derived.Test.Qxb6605891aAddTo
import Derived.Test.Qxb6605891aPlain
import Derived.Deep.QuietTactic
import Derived.BigQuiet
namespace Go.Proofs.Qxb6605891a
open Go.RowKit

/-- The pairs zs lie, as plain ints, where the slice's address u leads, in a block from lo on. -/
def PairsAt (w : World) (lo : Nat) (u : Option Addr) (zs : KVs) : Prop :=
  zs = [] ∨ ∃ g o, u = some ⟨g, o, none⟩ ∧ lo ≤ g ∧ g < w.heap.size ∧ ∀ (j : Nat) (p : Int × Int), zs[j]? = some p → w.cell? ⟨g, o + j * 2, none⟩ = some (.int .i64 p.1) ∧ w.cell? ⟨g, o + j * 2 + 1, none⟩ = some (.int .i64 p.2)

/-- Entry i: its key K i, its values Z i. -/
def EntAt (w : World) (lo b off i : Nat) (s : ByteArray) (zs : KVs) : Prop :=
  s.size ≤ maxLen ∧ zs.length ≤ maxLen ∧ w.cell? ⟨b, off + i * 2, none⟩ = some (.string s) ∧ ∃ u c, w.cell? ⟨b, off + i * 2 + 1, none⟩ = some (.slice u zs.length c) ∧ PairsAt w lo u zs

def Ents (w : World) (lo : Nat) (ad : Addr) (n : Nat) (K : Nat → ByteArray) (Z : Nat → KVs) : Prop :=
  ∀ i, i < n → ad.spot = none ∧ EntAt w lo ad.block ad.off i (K i) (Z i)

theorem PairsAt.below {w w' : World} {lo : Nat} {u : Option Addr} {zs : KVs} (h : PairsAt w lo u zs) (hb : Below w.heap.size w w') : PairsAt w' lo u zs := by
  rcases h with h | ⟨g, o, h1, h2, h3, h4⟩
  · exact Or.inl h
  · refine Or.inr ⟨g, o, h1, h2, Nat.lt_of_lt_of_le h3 hb.size, fun j p hp => ?_⟩
    obtain ⟨e1, e2⟩ := h4 j p hp
    exact ⟨(hb.cell (p := ⟨g, o + j * 2, none⟩) h3).trans e1, (hb.cell (p := ⟨g, o + j * 2 + 1, none⟩) h3).trans e2⟩

theorem EntAt.below {w w' : World} {lo b off i : Nat} {s : ByteArray} {zs : KVs} (h : EntAt w lo b off i s zs) (hb : Below w.heap.size w w') : EntAt w' lo b off i s zs := by
  obtain ⟨h1, h2, h3, u, c, h4, h5⟩ := h
  have hlt : b < w.heap.size := by simpa using World.block_lt_of_cell? w _ h3
  exact ⟨h1, h2, (hb.cell (p := ⟨b, off + i * 2, none⟩) hlt).trans h3, u, c, (hb.cell (p := ⟨b, off + i * 2 + 1, none⟩) hlt).trans h4, h5.below hb⟩

theorem Ents.below {w w' : World} {lo : Nat} {ad : Addr} {n : Nat} {K : Nat → ByteArray} {Z : Nat → KVs} (h : Ents w lo ad n K Z) (hb : Below w.heap.size w w') : Ents w' lo ad n K Z :=
  fun i hi => ⟨(h i hi).1, (h i hi).2.below hb⟩

set_option maxHeartbeats 1000000 in
theorem zzBytesE_some (ad : Addr) (n cap : Nat) (K : Nat → ByteArray) (Z : Nat → KVs) (s : ByteArray) (va vc : Int) (w : World) (hn : n ≤ maxLen) (hsz : s.size ≤ maxLen) {lo : Nat} (hs : Ents w lo ad n K Z) :
    Calls Try.prog 5 #[.slice (some ad) n cap, .string s, .agg #[.int .i64 va, .int .i64 vc]] w fun e w' => RetB e ∧ Below w.heap.size w w' := by
  unfold maxLen at hn hsz
  by_cases h20 : (n : Int) ≤ 1048576
  · go_enter Try.func5, Try.ntmps5
    go_wp2
    have hsA := hs.below ((Below.refl w.heap.size w).alloc (Nat.le_refl _) (.cells #[.int .i64 va, .int .i64 vc] 24))
    go_loop [7, 8] (fun t i => ∃ k : Nat, ∃ z : Int, k ≤ n ∧ i = .int .i64 k ∧ t = .int .i64 z ∧ 0 ≤ z ∧ z ≤ 1048576) (fun _ i => n - (intOf i).toNat)
    case atStart => exact ⟨0, n, Nat.zero_le _, rfl, rfl, by omega, by omega⟩
    case round =>
      obtain ⟨k, z, hk, rfl, rfl, hz0, hz1⟩ := hrel
      by_cases hlt : k < n
      · obtain ⟨hsp, hK, hZ, c0, u, c, c1, _⟩ := hsA k hlt
        obtain ⟨b, off, sp⟩ := ad
        simp only at hsp c0 c1
        subst hsp
        unfold maxLen at hK hZ
        clear hs hsA
        go_wp2
        · go_ret
          exact ⟨⟨_, rfl⟩, (Below.refl _ _).alloc (Nat.le_refl _) _⟩
        · go_ret
          exact ⟨⟨_, rfl⟩, (Below.refl _ _).alloc (Nat.le_refl _) _⟩
        · go_ret
          exact ⟨⟨_, rfl⟩, (Below.refl _ _).alloc (Nat.le_refl _) _⟩
        · go_ret
          exact ⟨⟨_, rfl⟩, (Below.refl _ _).alloc (Nat.le_refl _) _⟩
        · go_round
          case rel => exact ⟨k + 1, _, by omega, by go_num, rfl, by omega, by assumption⟩
          case measure => simp [intOf]; omega
      · go_wp2
        all_goals
          go_ret
          exact ⟨⟨_, rfl⟩, (Below.refl _ _).alloc (Nat.le_refl _) _⟩
  · go_enter Try.func5, Try.ntmps5
    go_wp2
    go_ret
    exact ⟨⟨_, rfl⟩, (Below.refl _ _).alloc (Nat.le_refl _) _⟩

set_option maxHeartbeats 400000 in
theorem zzBytesE_nil (s : ByteArray) (va vc : Int) (w : World) (hsz : s.size ≤ maxLen) :
    Calls Try.prog 5 #[.slice none 0 0, .string s, .agg #[.int .i64 va, .int .i64 vc]] w fun e w' => RetB e ∧ Below w.heap.size w w' := by
  unfold maxLen at hsz
  go_enter Try.func5, Try.ntmps5
  go_wp2
  go_loop [7, 8] (fun t i => t = .int .i64 0 ∧ i = .int .i64 0) (fun _ _ => 0)
  case atStart => exact ⟨rfl, rfl⟩
  case round =>
    obtain ⟨rfl, rfl⟩ := hrel
    go_wp2
    all_goals
      go_ret
      exact ⟨⟨_, rfl⟩, (Below.refl _ _).alloc (Nat.le_refl _) _⟩

theorem str_eq {a b : ByteArray} (h : (a.toList == b.toList) = true) : a = b := by
  have := eq_of_beq h
  rw [ByteArray.toList_eq, ByteArray.toList_eq] at this
  exact WideShapes.bytes_inj this

theorem str_ne {a b : ByteArray} (h : (a.toList == b.toList) = false) : a ≠ b := by
  rintro rfl
  simp at h

/-- The place of the last of the first k entries whose key is s; -1 where there is none. -/
def lastOf (K : Nat → ByteArray) (s : ByteArray) : Nat → Int
  | 0 => -1
  | k + 1 => if K k = s then k else lastOf K s k

set_option maxHeartbeats 400000 in
theorem lastEntry_some (ad : Addr) (n cap : Nat) (K : Nat → ByteArray) (Z : Nat → KVs) (s : ByteArray) (w : World) (hn : n ≤ maxLen) {lo : Nat} (hs : Ents w lo ad n K Z) :
    Calls Try.prog 9 #[.slice (some ad) n cap, .string s] w fun e w' => e = .returned (.int .i64 (lastOf K s n)) ∧ w = w' := by
  unfold maxLen at hn
  go_enter Try.func9, Try.ntmps9
  go_wp2
  go_loop [5, 6] (fun t i => ∃ k : Nat, k ≤ n ∧ i = .int .i64 k ∧ t = .int .i64 (lastOf K s k)) (fun _ i => n - (intOf i).toNat)
  case atStart => exact ⟨0, Nat.zero_le _, rfl, rfl⟩
  case round =>
    obtain ⟨k, hk, rfl, rfl⟩ := hrel
    by_cases hlt : k < n
    · obtain ⟨hsp, hK, hZ, c0, u, c, c1, _⟩ := hs k hlt
      obtain ⟨b, off, sp⟩ := ad
      simp only at hsp c0 c1
      subst hsp
      clear hs c1
      go_wp2
      · have he := str_eq (by assumption)
        go_round
        case rel => exact ⟨k + 1, by omega, by go_num, by simp [lastOf, he]⟩
        case measure => simp [intOf]; omega
      · have he := str_ne (by assumption)
        go_round
        case rel => exact ⟨k + 1, by omega, by go_num, by simp [lastOf, he]⟩
        case measure => simp [intOf]; omega
    · obtain rfl : k = n := by omega
      go_wp2
      go_ret
      exact ⟨rfl, rfl⟩

set_option maxHeartbeats 400000 in
theorem lastEntry_nil (s : ByteArray) (w : World) :
    Calls Try.prog 9 #[.slice none 0 0, .string s] w fun e w' => e = .returned (.int .i64 (-1)) ∧ w = w' := by
  go_enter Try.func9, Try.ntmps9
  go_wp2
  go_loop [5, 6] (fun t i => t = .int .i64 (-1) ∧ i = .int .i64 0) (fun _ _ => 0)
  case atStart => exact ⟨rfl, rfl⟩
  case round =>
    obtain ⟨rfl, rfl⟩ := hrel
    go_wp2
    go_ret
    exact ⟨rfl, rfl⟩

/-- The pairs zs lie, as kept values, where the slice's address u leads. -/
def GotAt (w : World) (u : Option Addr) (zs : KVs) : Prop :=
  zs = [] ∨ ∃ g o, u = some ⟨g, o, none⟩ ∧ g < w.heap.size ∧ ∀ (j : Nat) (p : Int × Int), zs[j]? = some p → w.cell? ⟨g, o + j * 2, none⟩ = some (.iface 3 (.int .i64 p.1)) ∧ w.cell? ⟨g, o + j * 2 + 1, none⟩ = some (.iface 3 (.int .i64 p.2))

theorem GotAt.below {w w' : World} {u : Option Addr} {zs : KVs} (h : GotAt w u zs) (hb : Below w.heap.size w w') : GotAt w' u zs := by
  rcases h with h | ⟨g, o, h1, h3, h4⟩
  · exact Or.inl h
  · refine Or.inr ⟨g, o, h1, Nat.lt_of_lt_of_le h3 hb.size, fun j p hp => ?_⟩
    obtain ⟨e1, e2⟩ := h4 j p hp
    exact ⟨(hb.cell (p := ⟨g, o + j * 2, none⟩) h3).trans e1, (hb.cell (p := ⟨g, o + j * 2 + 1, none⟩) h3).trans e2⟩

set_option maxHeartbeats 1000000 in
theorem sameKV_true (u u' : Option Addr) (c c' : Nat) (zs : KVs) (w : World) (hn : zs.length ≤ maxLen) {lo : Nat} (hg : GotAt w u zs) (hp : PairsAt w lo u' zs) :
    Calls Try.prog 10 #[.slice u zs.length c, .slice u' zs.length c'] w fun e w' => e = .returned (.bool true) ∧ Below w.heap.size w w' := by
  unfold maxLen at hn
  obtain ⟨n, hN⟩ : ∃ n, n = zs.length := ⟨_, rfl⟩
  rw [← hN] at hn ⊢
  have HN : Hid (n = zs.length) := hN
  clear hN
  go_enter Try.func10, Try.ntmps10
  go_wp2
  go_loopw [5] (fun i wr => ∃ k : Nat, k ≤ n ∧ i = .int .i64 k ∧ Below w.heap.size w wr) (fun i _ => n - (intOf i).toNat)
  case atStart => exact ⟨0, Nat.zero_le _, rfl, Below.refl _ _⟩
  case round =>
    obtain ⟨k, hk, rfl, hb⟩ := hrel
    by_cases hlt : k < n
    · have hgk : ∃ (g o : Nat) (p : Int × Int), u = some ⟨g, o, none⟩ ∧ g < wr.heap.size ∧ wr.cell? ⟨g, o + k * 2, none⟩ = some (.iface 3 (.int .i64 p.1)) ∧ wr.cell? ⟨g, o + k * 2 + 1, none⟩ = some (.iface 3 (.int .i64 p.2)) ∧
          ∃ g' o' : Nat, u' = some ⟨g', o', none⟩ ∧ wr.cell? ⟨g', o' + k * 2, none⟩ = some (.int .i64 p.1) ∧ wr.cell? ⟨g', o' + k * 2 + 1, none⟩ = some (.int .i64 p.2) := by
        have hk' : k < zs.length := by have := HN.out; omega
        rcases hg.below hb with h | ⟨g, o, h1, h2, h3⟩
        · rw [h] at hk'; simp at hk'
        · rcases hp.below hb with h | ⟨g', o', h1', _, h2', h3'⟩
          · rw [h] at hk'; simp at hk'
          · obtain ⟨a1, a2⟩ := h3 k zs[k] (List.getElem?_eq_getElem hk')
            obtain ⟨b1, b2⟩ := h3' k zs[k] (List.getElem?_eq_getElem hk')
            exact ⟨g, o, zs[k], h1, h2, a1, a2, g', o', h1', b1, b2⟩
      obtain ⟨g, o, p, rfl, hgl, a1, a2, g', o', rfl, b1, b2⟩ := hgk
      obtain ⟨pa, pc⟩ := p
      simp only at a1 a2 b1 b2
      have d1 := fun ob => Lib.cell?_alloc_some (W := wr) ob b1
      have d2 := fun ob => Lib.cell?_alloc_some (W := wr) ob b2
      clear hg hp
      go_wp2_with (go_at_call 13; refine (keptInts_any pa pc _).mono ?_; rintro e w9 ⟨rfl, rfl⟩)
      go_roundw
      case rel => exact ⟨k + 1, by omega, by go_num, hb.alloc hb.size _⟩
      case measure => simp [intOf]; omega
    · go_wp2
      go_ret
      exact ⟨rfl, hb⟩

end Go.Proofs.Qxb6605891a
