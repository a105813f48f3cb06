/-
  THE LISTS OF STRINGS: zzBytes (5, 12), listsTooBig (6), cloneStrings (7).
-/
import Derived.Test.Qxb6605891aFmtNew
namespace Go.Proofs.Qxb6605891aFmt
open Go.RowKit

/-- n strings lie where the slice's address leads; nothing is said of an empty one's address. -/
def Strs (w : World) (u : Option Addr) (n : Nat) (S : Nat → ByteArray) : Prop := n = 0 ∨ ∃ x, u = some x ∧ x.block < w.heap.size ∧ StrsAt w x n S

theorem Strs.below {w w' : World} {u : Option Addr} {n : Nat} {S : Nat → ByteArray} (h : Strs w u n S) (hb : Below w.heap.size w w') : Strs w' u n S := by
  rcases h with h | ⟨x, h1, h2, h3⟩
  · exact Or.inl h
  · exact Or.inr ⟨x, h1, Nat.lt_of_lt_of_le h2 hb.size, h3.below hb h2⟩

theorem Strs.at {w : World} {u : Option Addr} {n : Nat} {S : Nat → ByteArray} (h : Strs w u n S) {k : Nat} (hk : k < n) : ∃ b off, u = some ⟨b, off, none⟩ ∧ b < w.heap.size ∧ w.cell? ⟨b, off + k, none⟩ = some (.string (S k)) ∧ (S k).size ≤ 2 ^ 63 - 1 := by
  rcases h with h | ⟨⟨b, off, sp⟩, rfl, hx, hS⟩
  · omega
  · obtain ⟨q1, q2, q3⟩ := hS k hk
    simp only at q1 q2
    subst q1
    unfold maxLen at q3
    exact ⟨b, off, rfl, hx, q2, q3⟩

/-- The ending is a bool, whichever. -/
def RetB (e : Ending) : Prop := ∃ x : Bool, e = .returned (.bool x)

set_option maxHeartbeats 2000000 in
theorem zzBytes5 (u1 u2 : Option Addr) (n1 c1 n2 c2 : Nat) (S1 S2 : Nat → ByteArray) (r b : Bool) (w : World) (hn1 : n1 ≤ maxLen) (hn2 : n2 ≤ maxLen) (h1 : Strs w u1 n1 S1) (h2 : Strs w u2 n2 S2) :
    Calls Tryf.prog 5 #[.slice u1 n1 c1, .slice u2 n2 c2, .bool r, .bool b] w fun e w' => RetB e ∧ w = w' := by
  unfold maxLen at hn1 hn2
  by_cases h20 : (n1 : Int) ≤ 1048576
  · go_enter Tryf.func5, Tryf.ntmps5
    go_wp2
    go_loop [9, 10] (fun t i => ∃ k : Nat, ∃ z : Int, k ≤ n1 ∧ i = .int .i64 k ∧ t = .int .i64 z ∧ 0 ≤ z ∧ z ≤ 1048576) (fun _ i => n1 - (intOf i).toNat)
    case atStart => exact ⟨0, n1, Nat.zero_le _, rfl, rfl, by omega, by omega⟩
    case round =>
      obtain ⟨k, z, hk, rfl, rfl, hz0, hz1⟩ := hrel
      by_cases hlt : k < n1
      · obtain ⟨b', off, rfl, _, e0, hs⟩ := h1.at hlt
        go_wp2
        · go_ret
          exact ⟨⟨_, rfl⟩, rfl⟩
        · go_ret
          exact ⟨⟨_, rfl⟩, rfl⟩
        · go_round
          case rel => exact ⟨k + 1, z + (S1 k).size, by omega, by go_num, rfl, by omega, by assumption⟩
          case measure => simp [intOf]; omega
      · by_cases h21 : (n2 : Int) ≤ 1048576
        · by_cases h22 : z + (n2 : Int) ≤ 1048576
          · go_wp2
            go_loop [9, 11] (fun t i => ∃ k : Nat, ∃ z : Int, k ≤ n2 ∧ i = .int .i64 k ∧ t = .int .i64 z ∧ 0 ≤ z ∧ z ≤ 1048576) (fun _ i => n2 - (intOf i).toNat)
            case atStart => exact ⟨0, z + n2, Nat.zero_le _, rfl, rfl, by omega, by omega⟩
            case round =>
              obtain ⟨k2, z2, hk2, rfl, rfl, hz2, hz3⟩ := hrel
              by_cases hlt2 : k2 < n2
              · obtain ⟨b', off, rfl, _, e0, hs⟩ := h2.at hlt2
                go_wp2
                · go_ret
                  exact ⟨⟨_, rfl⟩, rfl⟩
                · go_ret
                  exact ⟨⟨_, rfl⟩, rfl⟩
                · go_round
                  case rel => exact ⟨k2 + 1, z2 + (S2 k2).size, by omega, by go_num, rfl, by omega, by assumption⟩
                  case measure => simp [intOf]; omega
              · go_wp2
                go_ret
                exact ⟨⟨_, rfl⟩, rfl⟩
          · go_wp2
            go_ret
            exact ⟨⟨_, rfl⟩, rfl⟩
        · go_wp2
          go_ret
          exact ⟨⟨_, rfl⟩, rfl⟩
  · go_enter Tryf.func5, Tryf.ntmps5
    go_wp2
    go_ret
    exact ⟨⟨_, rfl⟩, rfl⟩

set_option maxHeartbeats 2000000 in
theorem zzBytes12 (u1 u2 : Option Addr) (n1 c1 n2 c2 : Nat) (S1 S2 : Nat → ByteArray) (r b : Bool) (w : World) (hn1 : n1 ≤ maxLen) (hn2 : n2 ≤ maxLen) (h1 : Strs w u1 n1 S1) (h2 : Strs w u2 n2 S2) :
    Calls Tryf.prog 12 #[.slice u1 n1 c1, .slice u2 n2 c2, .bool r, .bool b] w fun e w' => RetB e ∧ w = w' := by
  unfold maxLen at hn1 hn2
  by_cases h20 : (n1 : Int) ≤ 1048576
  · go_enter Tryf.func12, Tryf.ntmps12
    go_wp2
    go_loop [9, 10] (fun t i => ∃ k : Nat, ∃ z : Int, k ≤ n1 ∧ i = .int .i64 k ∧ t = .int .i64 z ∧ 0 ≤ z ∧ z ≤ 1048576) (fun _ i => n1 - (intOf i).toNat)
    case atStart => exact ⟨0, n1, Nat.zero_le _, rfl, rfl, by omega, by omega⟩
    case round =>
      obtain ⟨k, z, hk, rfl, rfl, hz0, hz1⟩ := hrel
      by_cases hlt : k < n1
      · obtain ⟨b', off, rfl, _, e0, hs⟩ := h1.at hlt
        go_wp2
        · go_ret
          exact ⟨⟨_, rfl⟩, rfl⟩
        · go_ret
          exact ⟨⟨_, rfl⟩, rfl⟩
        · go_round
          case rel => exact ⟨k + 1, z + (S1 k).size, by omega, by go_num, rfl, by omega, by assumption⟩
          case measure => simp [intOf]; omega
      · by_cases h21 : (n2 : Int) ≤ 1048576
        · by_cases h22 : z + (n2 : Int) ≤ 1048576
          · go_wp2
            go_loop [9, 11] (fun t i => ∃ k : Nat, ∃ z : Int, k ≤ n2 ∧ i = .int .i64 k ∧ t = .int .i64 z ∧ 0 ≤ z ∧ z ≤ 1048576) (fun _ i => n2 - (intOf i).toNat)
            case atStart => exact ⟨0, z + n2, Nat.zero_le _, rfl, rfl, by omega, by omega⟩
            case round =>
              obtain ⟨k2, z2, hk2, rfl, rfl, hz2, hz3⟩ := hrel
              by_cases hlt2 : k2 < n2
              · obtain ⟨b', off, rfl, _, e0, hs⟩ := h2.at hlt2
                go_wp2
                · go_ret
                  exact ⟨⟨_, rfl⟩, rfl⟩
                · go_ret
                  exact ⟨⟨_, rfl⟩, rfl⟩
                · go_round
                  case rel => exact ⟨k2 + 1, z2 + (S2 k2).size, by omega, by go_num, rfl, by omega, by assumption⟩
                  case measure => simp [intOf]; omega
              · go_wp2
                go_ret
                exact ⟨⟨_, rfl⟩, rfl⟩
          · go_wp2
            go_ret
            exact ⟨⟨_, rfl⟩, rfl⟩
        · go_wp2
          go_ret
          exact ⟨⟨_, rfl⟩, rfl⟩
  · go_enter Tryf.func12, Tryf.ntmps12
    go_wp2
    go_ret
    exact ⟨⟨_, rfl⟩, rfl⟩

/-- 'true', or 'false' and both lists are short. -/
def RetBig (e : Ending) (n1 n2 : Nat) : Prop := e = .returned (.bool true) ∨ (e = .returned (.bool false) ∧ n1 ≤ 65536 ∧ n2 ≤ 65536)

set_option maxHeartbeats 2000000 in
theorem tooBig_any (u1 u2 : Option Addr) (n1 c1 n2 c2 : Nat) (S1 S2 : Nat → ByteArray) (w : World) (hn1 : n1 ≤ maxLen) (hn2 : n2 ≤ maxLen) (h1 : Strs w u1 n1 S1) (h2 : Strs w u2 n2 S2) :
    Calls Tryf.prog 6 #[.slice u1 n1 c1, .slice u2 n2 c2] w fun e w' => RetBig e n1 n2 ∧ w = w' := by
  unfold maxLen at hn1 hn2
  by_cases h20 : (n1 : Int) ≤ 65536
  · by_cases h21 : (n2 : Int) ≤ 65536
    · by_cases h22 : 16 * (n1 : Int) + 16 * (n2 : Int) ≤ 1048576
      · go_enter Tryf.func6, Tryf.ntmps6
        go_wp2
        go_loop [5, 6] (fun t i => ∃ k : Nat, ∃ z : Int, k ≤ n1 ∧ i = .int .i64 k ∧ t = .int .i64 z ∧ 0 ≤ z ∧ z ≤ 1048576) (fun _ i => n1 - (intOf i).toNat)
        case atStart => exact ⟨0, 16 * n1 + 16 * n2, Nat.zero_le _, rfl, rfl, by omega, by omega⟩
        case round =>
          obtain ⟨k, z, hk, rfl, rfl, hz0, hz1⟩ := hrel
          by_cases hlt : k < n1
          · obtain ⟨b', off, rfl, _, e0, hs⟩ := h1.at hlt
            go_wp2
            · go_ret
              exact ⟨Or.inl rfl, rfl⟩
            · go_ret
              exact ⟨Or.inl rfl, rfl⟩
            · go_round
              case rel => exact ⟨k + 1, z + (S1 k).size, by omega, by go_num, rfl, by omega, by assumption⟩
              case measure => simp [intOf]; omega
          · go_wp2
            go_loop [5, 7] (fun t i => ∃ k : Nat, ∃ z : Int, k ≤ n2 ∧ i = .int .i64 k ∧ t = .int .i64 z ∧ 0 ≤ z ∧ z ≤ 1048576) (fun _ i => n2 - (intOf i).toNat)
            case atStart => exact ⟨0, z, Nat.zero_le _, rfl, rfl, by omega, by omega⟩
            case round =>
              obtain ⟨k2, z2, hk2, rfl, rfl, hz2, hz3⟩ := hrel
              by_cases hlt2 : k2 < n2
              · obtain ⟨b', off, rfl, _, e0, hs⟩ := h2.at hlt2
                go_wp2
                · go_ret
                  exact ⟨Or.inl rfl, rfl⟩
                · go_ret
                  exact ⟨Or.inl rfl, rfl⟩
                · go_round
                  case rel => exact ⟨k2 + 1, z2 + (S2 k2).size, by omega, by go_num, rfl, by omega, by assumption⟩
                  case measure => simp [intOf]; omega
              · go_wp2
                go_ret
                exact ⟨Or.inr ⟨rfl, by omega, by omega⟩, rfl⟩
      · go_enter Tryf.func6, Tryf.ntmps6
        go_wp2
        go_ret
        exact ⟨Or.inl rfl, rfl⟩
    · go_enter Tryf.func6, Tryf.ntmps6
      go_wp2
      go_ret
      exact ⟨Or.inl rfl, rfl⟩
  · go_enter Tryf.func6, Tryf.ntmps6
    go_wp2
    go_ret
    exact ⟨Or.inl rfl, rfl⟩

theorem Tryf.info9 : (Tryf.prog.info? 9).map (fun i => (i.zero, i.size, i.bytes)) = some (some (.string ByteArray.empty), 1, 16) := by kernel_rfl

/-- The ending is a slice of the same n strings. -/
def RetS (e : Ending) (w' : World) (n : Nat) (S : Nat → ByteArray) : Prop := ∃ u c, e = .returned (.slice u n c) ∧ Strs w' u n S

/-- Every cell of the new row is there, none is frozen. -/
def RoomAt (w : World) (g n : Nat) : Prop := ∀ j, j < n → (∃ v, w.cell? ⟨g, j, none⟩ = some v) ∧ w.frozen? ⟨g, j, none⟩ = false

theorem strs_set {wr : World} {g k n : Nat} {S : Nat → ByteArray} (hk : k < n) (hS : (S k).size ≤ maxLen) (hst : StrsAt wr ⟨g, 0, none⟩ k S) (hro : RoomAt wr g n) :
    StrsAt (wr.setCell ⟨g, k, none⟩ (.string (S k))) ⟨g, 0, none⟩ (k + 1) S ∧ RoomAt (wr.setCell ⟨g, k, none⟩ (.string (S k))) g n := by
  obtain ⟨⟨v0, r0⟩, _⟩ := hro k hk
  refine ⟨fun i hi => ⟨rfl, ?_, ?_⟩, fun j hj => ⟨?_, by simpa using (hro j hj).2⟩⟩
  · simp only [Nat.zero_add]
    rcases Nat.lt_or_ge i k with h | h
    · rw [cs_o (by omega)]
      simpa using (hst i h).2.1
    · obtain rfl : i = k := by omega
      exact cs_s r0
  · rcases Nat.lt_or_ge i k with h | h
    · exact (hst i h).2.2
    · obtain rfl : i = k := by omega
      exact hS
  · obtain ⟨⟨v, hv⟩, _⟩ := hro j hj
    exact cell?_setCell_some hv

set_option maxHeartbeats 1000000 in
theorem clone_any (u : Option Addr) (n c : Nat) (S : Nat → ByteArray) (w : World) (hn : n ≤ 65536) (hnil : u = none → c = 0 ∧ n = 0) (h : Strs w u n S) :
    Calls Tryf.prog 7 #[.slice u n c] w fun e w' => RetS e w' n S ∧ Below w.heap.size w w' := by
  obtain ⟨i0, hi, hz0, hz1, hz2⟩ := info_parts Tryf.info9
  have hnl := fun (a : Option Addr) (n c : Nat) (w : World) => Lib.run_eql_slice_nil (P := Tryf.prog) w 22 9 a n c 0 0 Tryf.underlying22
  cases u with
  | none =>
    obtain ⟨rfl, rfl⟩ := hnil rfl
    go_enter Tryf.func7, Tryf.ntmps7
    go_wp2
    go_ret
    exact ⟨⟨none, 0, rfl, Or.inl rfl⟩, Below.refl _ _⟩
  | some ad =>
    clear hnil
    go_enter Tryf.func7, Tryf.ntmps7
    go_wp2_with (at_make; refine wpList_make_full _ rfl _ _ 22 rfl w.heap.size 9 i0 _ 1 Tryf.underlying22 hi hz0 hz1 _ _ _ _ n rfl rfl rfl rfl (by rw [hz2]; omega) (by unfold maxLen; omega) (Nat.le_refl _) ?_)
    intro w1 hown hgrow
    clear hi hz0 hz1 hz2 i0 hnl
    have hroom : RoomAt w1 w.heap.size n := fun j hj => ⟨⟨_, (hown.cellAt j (by omega)).trans (List.getElem?_eq_getElem (by rw [hown.1]; omega))⟩, hown.frozenAt j⟩
    have hbel : Below w.heap.size w w1 := (Below.refl _ _).grown hgrow (Nat.le_refl _) (by intro k hk; cases hk)
    have hsz : w.heap.size < w1.heap.size := (hown.lt _ rfl).2
    clear hown hgrow
    go_wp2
    go_loopw [4] (fun i wr => ∃ k : Nat, k ≤ n ∧ i = .int .i64 k ∧ StrsAt wr ⟨w.heap.size, 0, none⟩ k S ∧ RoomAt wr w.heap.size n ∧ Below w.heap.size w wr ∧ w.heap.size < wr.heap.size) (fun i _ => n - (intOf i).toNat)
    case atStart => exact ⟨0, Nat.zero_le _, rfl, fun i hi => by omega, hroom, hbel, hsz⟩
    case round =>
      clear hroom hbel hsz
      obtain ⟨k, hk, rfl, hst, hro, hbe, hsz1⟩ := hrel
      by_cases hlt : k < n
      · obtain ⟨b', off, hx, hbl, e0, hs⟩ := h.at hlt
        simp only [Option.some.injEq] at hx
        subst hx
        have e1 := (hbe.cell (p := ⟨b', off + k, none⟩) hbl).trans e0
        obtain ⟨⟨v0, r0⟩, f0⟩ := hro k hlt
        have R := strs_set hlt (by unfold maxLen; exact hs) hst hro
        have HR := show Hid _ from R
        clear R e0
        go_wp2
        go_roundw
        case rel => exact ⟨k + 1, by omega, by go_num, HR.out.1, HR.out.2, hbe.setCell (Nat.le_refl _) _, by simpa using hsz1⟩
        case measure => simp [intOf]; omega
      · go_wp2
        go_ret
        exact ⟨⟨_, _, rfl, Or.inr ⟨⟨w.heap.size, 0, none⟩, rfl, hsz1, by rwa [show n = k by omega]⟩⟩, hbe⟩

end Go.Proofs.Qxb6605891aFmt
