/-
  The two laws as walks: FnWhileOpenRunsExactlyWhenOpen (3), FnWhileOpenNewScopeAcceptsEveryCall (4): each answers true, and all old memory is as it was.
-/
import Derived.Test.Qxb6605891aDoorOnce
namespace Go.Proofs.Qxb6605891aDoor
open Go.RowKit

set_option maxRecDepth 100000 in
set_option maxHeartbeats 2000000 in
theorem law3 (a : Addr) (c : Bool) (w : World) (hE : w.cell? ⟨0, 0, none⟩ = some (.iface 74 (.pointer (some a)))) :
    Calls Tryd.prog 3 #[.bool c] w fun e w' => e = .returned (.bool true) ∧ Below w.heap.size w w' := by
  have hz : w.heap.size ≠ 0 := by have := World.block_lt_of_cell? w _ hE; simp at this; omega
  have key : Calls Tryd.prog 3 #[.bool c] w fun e w' => e = .returned (.bool true) ∧ Below w.heap.size w w' := by
    cases c
    · go_enter Tryd.func3, Tryd.ntmps3
      go_wp2_with fail
      refine (zznewScope_any false _).mono ?_
      rintro e w1 ⟨rfl, h1, b1⟩
      go_wp2_with fail
      have hE1 := (b1.cell (p := ⟨0, 0, none⟩) (by simp; omega)).trans hE
      refine (once_any a w.heap.size false _ hE1 hz h1).mono ?_
      rintro e w2 ⟨rfl, h2, b2⟩
      have hE2 := (b2.cell (p := ⟨0, 0, none⟩) (by simp; omega)).trans hE1
      go_wp2_with fail
      refine (once_any a w.heap.size false _ hE2 hz h2).mono ?_
      rintro e w3 ⟨rfl, h3, b3⟩
      go_wp2_with (go_at_call 7; refine (closed_any w.heap.size false _ h3).mono ?_; rintro e w4 ⟨rfl, rfl⟩)
      go_ret
      exact ⟨rfl, (b1.trans b2).trans b3⟩
    · go_enter Tryd.func3, Tryd.ntmps3
      go_wp2_with fail
      refine (zznewScope_any true _).mono ?_
      rintro e w1 ⟨rfl, h1, b1⟩
      go_wp2_with fail
      have hE1 := (b1.cell (p := ⟨0, 0, none⟩) (by simp; omega)).trans hE
      refine (once_any a w.heap.size true _ hE1 hz h1).mono ?_
      rintro e w2 ⟨rfl, h2, b2⟩
      have hE2 := (b2.cell (p := ⟨0, 0, none⟩) (by simp; omega)).trans hE1
      go_wp2_with fail
      refine (once_any a w.heap.size true _ hE2 hz h2).mono ?_
      rintro e w3 ⟨rfl, h3, b3⟩
      go_wp2_with (go_at_call 7; refine (closed_any w.heap.size true _ h3).mono ?_; rintro e w4 ⟨rfl, rfl⟩)
      go_ret
      exact ⟨rfl, (b1.trans b2).trans b3⟩
  exact key

set_option maxRecDepth 100000 in
set_option maxHeartbeats 2000000 in
theorem law4 (n : Int) (w : World) :
    Calls Tryd.prog 4 #[.int .i64 n] w fun e w' => e = .returned (.bool true) ∧ Below w.heap.size w w' := by
  by_cases hneg : n < 0
  · go_enter Tryd.func4, Tryd.ntmps4
    go_wp2
    go_ret
    exact ⟨rfl, Below.refl _ _⟩
  by_cases hbig : n > 65536
  · go_enter Tryd.func4, Tryd.ntmps4
    go_wp2
    go_ret
    exact ⟨rfl, Below.refl _ _⟩
  obtain ⟨k, rfl⟩ : ∃ k : Nat, n = (k : Int) := ⟨n.toNat, by omega⟩
  have hk : k ≤ 65536 := by omega
  go_enter Tryd.func4, Tryd.ntmps4
  go_wp2_with (go_at_call 8; refine (newScope_any _).mono ?_; rintro e w1 ⟨rfl, h1, b1⟩)
  go_loopw [4] (fun i wr => ∃ j : Nat, j ≤ k ∧ i = .int .i64 j ∧ ScAt wr w.heap.size false ∧ Below w.heap.size w wr) (fun i _ => k - (intOf i).toNat)
  case atStart => exact ⟨0, Nat.zero_le _, rfl, h1, b1⟩
  case round =>
    clear h1 b1
    obtain ⟨j, hj, rfl, h2, b2⟩ := hrel
    by_cases hlt : j < k
    · go_wp2_with fail
      refine (once_open w.heap.size _ h2).mono ?_
      rintro e w3 ⟨rfl, h3, b3⟩
      go_wp2
      go_roundw
      case rel => exact ⟨j + 1, by omega, by go_num, h3, b2.trans b3⟩
      case measure => simp [intOf]; omega
    · obtain rfl : j = k := by omega
      go_wp2_with (first | (go_at_call 7; refine (closed_any w.heap.size false _ h2).mono ?_; rintro e w3 ⟨rfl, rfl⟩) | (go_at_call 9; refine (unlocked_any w.heap.size false _ h2).mono ?_; rintro e w4 ⟨rfl, rfl⟩))
      go_ret
      exact ⟨rfl, b2⟩

end Go.Proofs.Qxb6605891aDoor
