/-
  ZZmakeCut (17), ZZnewNetworksOfCuts (19), ZZspanFields (24), share.len (47), zzBytes (15, 25).
-/
import Derived.Test.Qxb6605954aPart
namespace Go.Proofs.Qxb6605954a
open Go.RowKit

theorem makeCut_any (p d : Int) (ch ru we : Nat) (w : World) :
    Calls Try.prog 17 #[.int .i64 p, .int .i64 d, .int .u64 ch, .int .u64 ru, .int .u64 we] w fun e w' => e = .returned (.agg #[.int .i64 p, .int .i64 d, .int .u64 ch, .int .u64 ru, .int .u64 we]) ∧ Below w.heap.size w w' := by
  go_enter Try.func17, Try.ntmps17
  go_wp2
  exact bodyPost_ret (v := .agg #[.int .i64 p, .int .i64 d, .int .u64 ch, .int .u64 ru, .int .u64 we]) (by simp [results, Try.results17, go_sem]) rfl ⟨rfl, (Below.refl _ _).alloc (Nat.le_refl _) _⟩

theorem results8 {fn : Func} {t0 t1 t2 t3 t4 t5 t6 t7 : Tmp} (h : fn.results = #[.tmp t0, .tmp t1, .tmp t2, .tmp t3, .tmp t4, .tmp t5, .tmp t6, .tmp t7]) (tmps : Array Value) (P : Program) (w : World) :
    (results fn tmps).run P w = .ok (.tuple #[tmps.getD t0 undef, tmps.getD t1 undef, tmps.getD t2 undef, tmps.getD t3 undef, tmps.getD t4 undef, tmps.getD t5 undef, tmps.getD t6 undef, tmps.getD t7 undef]) w := by
  simp [results, h]

set_option maxRecDepth 100000 in
set_option maxHeartbeats 1000000 in
theorem spanFields_any (p d : Int) (ch ru we a b f : Nat) (w : World) :
    Calls Try.prog 24 #[.agg #[.int .i64 p, .int .i64 d, .int .u64 ch, .int .u64 ru, .int .u64 we, .int .u64 a, .int .u64 b, .int .i64 f]] w fun e w' => e = .returned (.tuple #[.int .i64 p, .int .i64 d, .int .u64 ch, .int .u64 ru, .int .u64 we, .int .u64 a, .int .u64 b, .int .i64 f]) ∧ Below w.heap.size w w' := by
  go_enter Try.func24, Try.ntmps24
  go_wp2
  go_quiet (fail)
  go_wp2
  try simp only [Exit.inBlock, Exit.then]
  refine bodyPost_ret (results8 rfl _ _ _) rfl ?_
  exact ⟨rfl, below_drewN ((Below.refl _ _).alloc (Nat.le_refl _) _) _⟩

theorem networks_any (u : Option Addr) (n c : Nat) (w : World) :
    Calls Try.prog 19 #[.slice u n c] w fun e w' => e = .returned (.pointer (some ⟨w.heap.size, 0, none⟩)) ∧ w'.cell? ⟨w.heap.size, 6, none⟩ = some (.slice u n c) ∧ Below w.heap.size w w' ∧ w.heap.size < w'.heap.size := by
  go_enter Try.func19, Try.ntmps19
  go_wp2
  go_ret
  exact ⟨rfl, by simp, (Below.refl _ _).alloc (Nat.le_refl _) _, by simp⟩

theorem shareLen_none (u : Option Addr) (c : Nat) (w : World) : Calls Try.prog 47 #[.slice u 0 c] w fun e w' => e = .returned (.int .i64 (0 : Nat)) ∧ Below w.heap.size w w' := by
  go_enter Try.func47, Try.ntmps47
  go_wp2
  go_ret
  exact ⟨rfl, Below.refl _ _⟩

set_option maxHeartbeats 1000000 in
theorem shareLen_some (b o n c : Nat) (p d : Int) (ch ru we x y f : Nat) (w : World) (hn : 0 < n) (hn1 : n ≤ 1048576) (hxy : x ≤ y) (hy : y ≤ 1048576) (hf : f ≤ 1048576)
    (c0 : w.cell? ⟨b, o + (n - 1) * 8, none⟩ = some (.int .i64 p)) (c1 : w.cell? ⟨b, o + (n - 1) * 8 + 1, none⟩ = some (.int .i64 d)) (c2 : w.cell? ⟨b, o + (n - 1) * 8 + 2, none⟩ = some (.int .u64 ch)) (c3 : w.cell? ⟨b, o + (n - 1) * 8 + 3, none⟩ = some (.int .u64 ru)) (c4 : w.cell? ⟨b, o + (n - 1) * 8 + 4, none⟩ = some (.int .u64 we))
    (c5 : w.cell? ⟨b, o + (n - 1) * 8 + 5, none⟩ = some (.int .u64 x)) (c6 : w.cell? ⟨b, o + (n - 1) * 8 + 6, none⟩ = some (.int .u64 y)) (c7 : w.cell? ⟨b, o + (n - 1) * 8 + 7, none⟩ = some (.int .i64 f)) :
    Calls Try.prog 47 #[.slice (some ⟨b, o, none⟩) n c] w fun e w' => e = .returned (.int .i64 (f + (y - x) : Nat)) ∧ Below w.heap.size w w' := by
  have t0 : ((n : Int) == 0) = false := by simp; omega
  go_enter Try.func47, Try.ntmps47
  go_wp2
  go_ret
  rw [show ((f + (y - x) : Nat) : Int) = (f : Int) + ((y : Int) - (x : Int)) by omega]
  exact ⟨rfl, (Below.refl _ _).alloc (Nat.le_refl _) _⟩

set_option maxHeartbeats 400000 in
theorem bytes15 (u : Option Addr) (n c : Nat) (k m : Int) (w : World) (hn : n ≤ maxLen) : Calls Try.prog 15 #[.slice u n c, .int .i64 k, .int .i64 m] w fun e w' => e = .returned (.bool (decide (n ≤ 1048576))) ∧ w = w' := by
  unfold maxLen at hn
  by_cases h : (n : Int) ≤ 1048576
  · rw [decide_eq_true (show n ≤ 1048576 by omega)]
    go_enter Try.func15, Try.ntmps15
    go_wp2
    go_ret
    exact ⟨rfl, rfl⟩
  · rw [decide_eq_false (show ¬ n ≤ 1048576 by omega)]
    go_enter Try.func15, Try.ntmps15
    go_wp2
    go_ret
    exact ⟨rfl, rfl⟩

set_option maxHeartbeats 400000 in
theorem bytes25 (u : Option Addr) (n c : Nat) (m : Int) (w : World) (hn : n ≤ maxLen) : Calls Try.prog 25 #[.slice u n c, .int .i64 m] w fun e w' => e = .returned (.bool (decide (n ≤ 1048576))) ∧ w = w' := by
  unfold maxLen at hn
  by_cases h : (n : Int) ≤ 1048576
  · rw [decide_eq_true (show n ≤ 1048576 by omega)]
    go_enter Try.func25, Try.ntmps25
    go_wp2
    go_ret
    exact ⟨rfl, rfl⟩
  · rw [decide_eq_false (show ¬ n ≤ 1048576 by omega)]
    go_enter Try.func25, Try.ntmps25
    go_wp2
    go_ret
    exact ⟨rfl, rfl⟩

end Go.Proofs.Qxb6605954a
