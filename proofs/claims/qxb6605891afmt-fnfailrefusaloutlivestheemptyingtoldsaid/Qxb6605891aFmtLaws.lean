/-
  THE TWO LAWS' OWN WALKS (3, 4).
-/
import Derived.Test.Qxb6605891aFmtLists
namespace Go.Proofs.Qxb6605891aFmt
open Go.RowKit

set_option maxRecDepth 100000 in
set_option maxHeartbeats 2000000 in
theorem law3 (a : Addr) (u1 u2 : Option Addr) (n1 c1 n2 c2 : Nat) (S1 S2 : Nat → ByteArray) (r b : Bool) (w : World) (hE : w.cell? ⟨0, 0, none⟩ = some (.iface 58 (.pointer (some a)))) (hn1 : n1 ≤ maxLen) (hn2 : n2 ≤ maxLen) (hu1 : u1 = none → c1 = 0 ∧ n1 = 0) (hu2 : u2 = none → c2 = 0 ∧ n2 = 0) (h1 : Strs w u1 n1 S1) (h2 : Strs w u2 n2 S2) :
    Calls Tryf.prog 3 #[.slice u1 n1 c1, .slice u2 n2 c2, .bool r, .bool b] w fun e w' => e = .returned (.bool true) ∧ Below w.heap.size w w' := by
  have hz : 0 < w.heap.size := by simpa using World.block_lt_of_cell? w _ hE
  go_enter Tryf.func3, Tryf.ntmps3
  go_wp2_with fail
  refine (zzBytes5 u1 u2 n1 c1 n2 c2 S1 S2 r b w hn1 hn2 h1 h2).mono ?_
  rintro e w0 ⟨⟨x, rfl⟩, rfl⟩
  cases x
  · go_wp2
    go_ret
    exact ⟨rfl, Below.refl _ _⟩
  · go_wp2_with fail
    refine (tooBig_any u1 u2 n1 c1 n2 c2 S1 S2 w hn1 hn2 h1 h2).mono ?_
    rintro e w0 ⟨rfl | ⟨rfl, hs1, hs2⟩, rfl⟩
    · go_wp2
      go_ret
      exact ⟨rfl, Below.refl _ _⟩
    · go_wp2_with fail
      refine (clone_any u1 n1 c1 S1 w hs1 hu1 h1).mono ?_
      rintro e w1 ⟨⟨v1, d1, rfl, hv1⟩, hb1⟩
      go_wp2_with fail
      refine (clone_any u2 n2 c2 S2 w1 hs2 hu2 (h2.below hb1)).mono ?_
      rintro e w2 ⟨⟨v2, d2, rfl, hv2⟩, hb2⟩
      have hb3 := hb1.trans (hb2.mono hb1.size)
      have hE2 := (hb3.cell (p := ⟨0, 0, none⟩) hz).trans hE
      go_wp2_with fail
      refine (new_any a v1 v2 n1 d1 n2 d2 S1 S2 r w2 hE2 hs1 hs2 (hv1.below hb2) hv2).mono ?_
      rintro e w3 ⟨⟨rfl, p1, p2, p3, p4, hcc, hrel⟩, hb4, hs4⟩
      have hE3 := (hb4.cell (p := ⟨0, 0, none⟩) (Nat.lt_of_lt_of_le hz hb3.size)).trans hE2
      obtain ⟨g, hg⟩ : ∃ g, g = w2.heap.size := ⟨_, rfl⟩
      rw [← hg] at hrel hs4 ⊢
      have hg0 : w.heap.size ≤ g := by rw [hg]; exact hb3.size
      have hb5 := hb3.trans (hb4.mono hb3.size)
      clear hg hb4 hE2 hb2 hv1 hv2 hb1
      go_wp2_with fail
      refine (failOnce_any a g p1 n1 p2 p3 n2 p4 r b w3 hE3 (by omega) (by omega) hcc hrel).mono ?_
      rintro e w4 ⟨rfl, hrel4, hb6, hs6⟩
      have hb7 := hb5.trans (hb6.mono hg0)
      cases r <;> cases b
      all_goals
        go_wp2_with (first | (go_at_call 10; refine (heldLen_any g _ _ _ _ _ hrel4).mono ?_; rintro e w' ⟨rfl, rfl⟩) | (go_at_call 11; refine (cachedLen_any g _ _ _ _ _ hrel4).mono ?_; rintro e w' ⟨rfl, rfl⟩))
        go_ret
        exact ⟨rfl, hb7⟩

set_option maxRecDepth 100000 in
set_option maxHeartbeats 2000000 in
theorem law4 (a : Addr) (u1 u2 : Option Addr) (n1 c1 n2 c2 : Nat) (S1 S2 : Nat → ByteArray) (r b : Bool) (w : World) (hE : w.cell? ⟨0, 0, none⟩ = some (.iface 58 (.pointer (some a)))) (hn1 : n1 ≤ maxLen) (hn2 : n2 ≤ maxLen) (hu1 : u1 = none → c1 = 0 ∧ n1 = 0) (hu2 : u2 = none → c2 = 0 ∧ n2 = 0) (h1 : Strs w u1 n1 S1) (h2 : Strs w u2 n2 S2) :
    Calls Tryf.prog 4 #[.slice u1 n1 c1, .slice u2 n2 c2, .bool r, .bool b] w fun e w' => e = .returned (.bool true) ∧ Below w.heap.size w w' := by
  have hz : 0 < w.heap.size := by simpa using World.block_lt_of_cell? w _ hE
  go_enter Tryf.func4, Tryf.ntmps4
  go_wp2_with fail
  refine (zzBytes12 u1 u2 n1 c1 n2 c2 S1 S2 r b w hn1 hn2 h1 h2).mono ?_
  rintro e w0 ⟨⟨x, rfl⟩, rfl⟩
  cases x
  · go_wp2
    go_ret
    exact ⟨rfl, Below.refl _ _⟩
  · go_wp2_with fail
    refine (tooBig_any u1 u2 n1 c1 n2 c2 S1 S2 w hn1 hn2 h1 h2).mono ?_
    rintro e w0 ⟨rfl | ⟨rfl, hs1, hs2⟩, rfl⟩
    · go_wp2
      go_ret
      exact ⟨rfl, Below.refl _ _⟩
    · go_wp2_with fail
      refine (clone_any u1 n1 c1 S1 w hs1 hu1 h1).mono ?_
      rintro e w1 ⟨⟨v1, d1, rfl, hv1⟩, hb1⟩
      go_wp2_with fail
      refine (clone_any u2 n2 c2 S2 w1 hs2 hu2 (h2.below hb1)).mono ?_
      rintro e w2 ⟨⟨v2, d2, rfl, hv2⟩, hb2⟩
      have hb3 := hb1.trans (hb2.mono hb1.size)
      have hE2 := (hb3.cell (p := ⟨0, 0, none⟩) hz).trans hE
      go_wp2_with fail
      refine (new_any a v1 v2 n1 d1 n2 d2 S1 S2 r w2 hE2 hs1 hs2 (hv1.below hb2) hv2).mono ?_
      rintro e w3 ⟨⟨rfl, p1, p2, p3, p4, hcc, hrel⟩, hb4, hs4⟩
      have hE3 := (hb4.cell (p := ⟨0, 0, none⟩) (Nat.lt_of_lt_of_le hz hb3.size)).trans hE2
      obtain ⟨g, hg⟩ : ∃ g, g = w2.heap.size := ⟨_, rfl⟩
      rw [← hg] at hrel hs4 ⊢
      have hg0 : w.heap.size ≤ g := by rw [hg]; exact hb3.size
      have hb5 := hb3.trans (hb4.mono hb3.size)
      clear hg hb4 hE2 hb2 hv1 hv2 hb1
      go_wp2_with fail
      refine (failOnce_any a g p1 n1 p2 p3 n2 p4 r false w3 hE3 (by omega) (by omega) hcc hrel).mono ?_
      rintro e w4 ⟨rfl, hrel4, hb6, hs6⟩
      have hb7 := hb5.trans (hb6.mono hg0)
      have hE4 := (hb6.cell (p := ⟨0, 0, none⟩) (by show 0 < g; omega)).trans hE3
      clear hb6 hb5 hb3 hrel hE3
      cases r <;> cases b
      all_goals
        go_wp2_with (first | (go_at_call 10; refine (heldLen_any g _ _ _ _ _ hrel4).mono ?_; rintro e w' ⟨rfl, rfl⟩) | (go_at_call 11; refine (cachedLen_any g _ _ _ _ _ hrel4).mono ?_; rintro e w' ⟨rfl, rfl⟩))
        refine (failOnce_any a g none 0 0 none 0 0 _ _ w4 hE4 (by omega) (by omega) (Nat.le_refl _) hrel4).mono ?_
        rintro e w5 ⟨rfl, hrel5, hb8, hs8⟩
        go_wp2_with (first | (go_at_call 10; refine (heldLen_any g _ _ _ _ _ hrel5).mono ?_; rintro e w' ⟨rfl, rfl⟩) | (go_at_call 11; refine (cachedLen_any g _ _ _ _ _ hrel5).mono ?_; rintro e w' ⟨rfl, rfl⟩))
        go_ret
        exact ⟨rfl, hb7.trans (hb8.mono hg0)⟩

end Go.Proofs.Qxb6605891aFmt
