import Derived.Test.Qxb6605891aRows
import Derived.WalkKit
import Derived.WalkSpells
import Derived.WalkLawsBesides
import Derived.Maps.OwnSet
import Derived.Maps.AppendAt
namespace Go.Proofs.Qxb6605891a
open Go.RowKit

theorem Try.cells39 : Try.prog.cellsOf 39 = 1 := by kernel_rfl
theorem Try.cells42 : Try.prog.cellsOf 42 = 3 := by kernel_rfl
theorem Try.cells9 : Try.prog.cellsOf 9 = 1 := by kernel_rfl
theorem Try.cells24 : Try.prog.cellsOf 24 = 2 := by kernel_rfl
theorem Try.cells3 : Try.prog.cellsOf 3 = 1 := by kernel_rfl
theorem Try.cells33 : Try.prog.cellsOf 33 = 2 := by kernel_rfl

/-- One kept value, as a value. -/
def kv (a c : Int) : Value := .agg #[.iface 3 (.int .i64 a), .iface 3 (.int .i64 c)]

set_option maxHeartbeats 400000 in
theorem kept_any (a c : Int) (w : World) :
    Calls Try.prog 7 #[.int .i64 a, .int .i64 c] w fun e w' => e = .returned (kv a c) ∧ w' = w.alloc (.cells #[.iface 3 (.int .i64 a), .iface 3 (.int .i64 c)] 33) := by
  go_enter Try.func7, Try.ntmps7
  go_wp2
  exact bodyPost_ret (v := kv a c) (by simp [results, Try.results7, go_sem, kv]) rfl ⟨rfl, rfl⟩

theorem Try.as3_3 (v : Value) (w : World) : (Instr.typeAssert (.iface 3 v) 20 3 true).run Try.prog w = .ok (.tuple #[v, .bool true]) w := by kernel_rfl

set_option maxHeartbeats 400000 in
theorem keptInts_any (a c : Int) (w : World) :
    Calls Try.prog 13 #[kv a c] w fun e w' => e = .returned (.tuple #[.int .i64 a, .int .i64 c, .bool true]) ∧ w' = w.alloc (.cells #[.iface 3 (.int .i64 a), .iface 3 (.int .i64 c)] 33) := by
  unfold kv
  have h3 := Try.as3_3
  go_enter Try.func13, Try.ntmps13
  go_wp2
  go_ret3
  exact ⟨rfl, rfl⟩

/-- A slice of steps in memory: step i lies at its three cells. -/
def StepsAt (w : World) (b off n : Nat) (K : Nat → ByteArray) (A C : Nat → Int) : Prop :=
  ∀ i, i < n → w.cell? ⟨b, off + i * 3, none⟩ = some (.string (K i)) ∧ w.cell? ⟨b, off + i * 3 + 1, none⟩ = some (.int .i64 (A i)) ∧ w.cell? ⟨b, off + i * 3 + 2, none⟩ = some (.int .i64 (C i)) ∧ (K i).size ≤ maxLen

/-- The ending is a bool, whichever. -/
def RetB (e : Ending) : Prop := ∃ x : Bool, e = .returned (.bool x)

set_option maxHeartbeats 400000 in
theorem zzBytes_some (b off n cap : Nat) (K : Nat → ByteArray) (A C : Nat → Int) (w : World) (hn : n ≤ maxLen) (hs : StepsAt w b off n K A C) :
    Calls Try.prog 11 #[.slice (some ⟨b, off, none⟩) n cap] w fun e w' => RetB e ∧ w = w' := by
  unfold maxLen at hn
  by_cases h20 : (n : Int) ≤ 1048576
  · go_enter Try.func11, Try.ntmps11
    go_wp2
    go_loop [3, 4] (fun t i => ∃ k : Nat, ∃ z : Int, k ≤ n ∧ i = .int .i64 k ∧ t = .int .i64 z ∧ 0 ≤ z ∧ z ≤ 1048576) (fun _ i => n - (intOf i).toNat)
    case atStart => exact ⟨0, n, Nat.zero_le _, rfl, rfl, by omega, by omega⟩
    case round =>
      obtain ⟨k, z, hk, rfl, rfl, hz0, hz1⟩ := hrel
      by_cases hlt : k < n
      · obtain ⟨h0, h1, h2, h3⟩ := hs k hlt
        unfold maxLen at h3
        clear h1 h2
        go_wp2
        · go_ret
          exact ⟨⟨_, rfl⟩, rfl⟩
        · go_ret
          exact ⟨⟨_, rfl⟩, rfl⟩
        · go_round
          case rel => exact ⟨k + 1, z + (K k).size, by omega, by go_num, rfl, by omega, by assumption⟩
          case measure => simp [intOf]; omega
      · go_wp2
        go_ret
        exact ⟨⟨_, rfl⟩, rfl⟩
  · go_enter Try.func11, Try.ntmps11
    go_wp2
    go_ret
    exact ⟨⟨_, rfl⟩, rfl⟩

set_option maxHeartbeats 400000 in
theorem zzBytes_zero (a : Option Addr) (cap : Nat) (w : World) :
    Calls Try.prog 11 #[.slice a 0 cap] w fun e w' => RetB e ∧ w = w' := by
  go_enter Try.func11, Try.ntmps11
  go_wp2
  go_loop [3, 4] (fun t i => i = .int .i64 0) (fun _ _ => 0)
  case atStart => rfl
  case round =>
    obtain rfl := hrel
    go_wp2
    go_ret
    exact ⟨⟨_, rfl⟩, rfl⟩

theorem Try.info42 : (Try.prog.info? 42).map (fun i => (i.zero, i.size, i.bytes)) = some (some (.agg #[.string ByteArray.empty, .int .i64 0, .int .i64 0]), 3, 32) := by kernel_rfl

/-- A row of n steps' room in block g: every cell is there, none is frozen. -/
def RoomAt (w : World) (g n : Nat) : Prop := ∀ j, j < n → (∃ v, w.cell? ⟨g, j, none⟩ = some v) ∧ w.frozen? ⟨g, j, none⟩ = false

theorem cs_o {w : World} {g p q : Nat} {v : Value} (h : p ≠ q) : (w.setCell ⟨g, p, none⟩ v).cell? ⟨g, q, none⟩ = w.cell? ⟨g, q, none⟩ :=
  World.cell?_setCell_other _ _ _ _ (fun e => h (by injection e))

theorem cs_s {w : World} {g p : Nat} {u v : Value} (h : w.cell? ⟨g, p, none⟩ = some u) : (w.setCell ⟨g, p, none⟩ v).cell? ⟨g, p, none⟩ = some v :=
  World.cell?_setCell_same _ _ _ h

theorem steps_set3 {wr : World} {g k n : Nat} {K : Nat → ByteArray} {A C : Nat → Int} (hk : k < n) (hK : (K k).size ≤ maxLen) (hst : StepsAt wr g 0 k K A C) (hro : RoomAt wr g (n * 3)) :
    StepsAt (((wr.setCell ⟨g, k * 3, none⟩ (.string (K k))).setCell ⟨g, k * 3 + 1, none⟩ (.int .i64 (A k))).setCell ⟨g, k * 3 + 2, none⟩ (.int .i64 (C k))) g 0 (k + 1) K A C ∧
    RoomAt (((wr.setCell ⟨g, k * 3, none⟩ (.string (K k))).setCell ⟨g, k * 3 + 1, none⟩ (.int .i64 (A k))).setCell ⟨g, k * 3 + 2, none⟩ (.int .i64 (C k))) g (n * 3) := by
  obtain ⟨⟨v0, r0⟩, _⟩ := hro (k * 3) (by omega)
  obtain ⟨⟨v1, r1⟩, _⟩ := hro (k * 3 + 1) (by omega)
  obtain ⟨⟨v2, r2⟩, _⟩ := hro (k * 3 + 2) (by omega)
  refine ⟨fun i hi => ?_, fun j hj => ⟨?_, ?_⟩⟩
  · rcases Nat.lt_or_ge i k with h | h
    · obtain ⟨h0, h1, h2, h3⟩ := hst i h
      simp only [Nat.zero_add] at h0 h1 h2 ⊢
      refine ⟨?_, ?_, ?_, h3⟩
      · rw [cs_o, cs_o, cs_o, h0] <;> omega
      · rw [cs_o, cs_o, cs_o, h1] <;> omega
      · rw [cs_o, cs_o, cs_o, h2] <;> omega
    · obtain rfl : i = k := by omega
      simp only [Nat.zero_add]
      refine ⟨?_, ?_, ?_, hK⟩
      · rw [cs_o, cs_o, cs_s r0] <;> omega
      · rw [cs_o, cs_s (u := v1)]
        · rw [cs_o, r1]; omega
        · omega
      · rw [cs_s (u := v2)]
        rw [cs_o, cs_o, r2] <;> omega
  · obtain ⟨⟨v, hv⟩, _⟩ := hro j hj
    obtain ⟨a1, e1⟩ := cell?_setCell_some (p := ⟨g, k * 3, none⟩) (x := .string (K k)) hv
    obtain ⟨a2, e2⟩ := cell?_setCell_some (p := ⟨g, k * 3 + 1, none⟩) (x := .int .i64 (A k)) e1
    exact cell?_setCell_some e2
  · simpa using (hro j hj).2

set_option maxHeartbeats 400000 in
theorem cloneAdds_some (b off n cap : Nat) (K : Nat → ByteArray) (A C : Nat → Int) (w : World) (hn : n ≤ 4096) (hb : b < w.heap.size) (hs : StepsAt w b off n K A C) :
    Calls Try.prog 12 #[.slice (some ⟨b, off, none⟩) n cap] w fun e w' => e = .returned (.slice (some ⟨w.heap.size, 0, none⟩) n n) ∧ StepsAt w' w.heap.size 0 n K A C ∧ Below w.heap.size w w' ∧ w.heap.size < w'.heap.size := by
  obtain ⟨i0, hi, hz0, hz1, hz2⟩ := info_parts Try.info42
  have hnil := fun (a : Option Addr) (n c : Nat) (w : World) => Lib.run_eql_slice_nil (P := Try.prog) w 39 42 a n c 0 0 Try.underlying39
  go_enter Try.func12, Try.ntmps12
  go_wp2_with (at_make; refine wpList_make_full _ rfl _ _ 39 rfl w.heap.size 42 i0 _ 3 Try.underlying39 hi hz0 hz1 _ _ _ _ n rfl rfl rfl rfl (by rw [hz2]; omega) (by unfold maxLen; omega) (Nat.le_refl _) ?_)
  intro w1 hown hgrow
  clear hi hz0 hz1 hz2 i0 hnil
  have hroom : RoomAt w1 w.heap.size (n * 3) := fun j hj => ⟨⟨_, (hown.cellAt j hj).trans (List.getElem?_eq_getElem (by rw [hown.1]; exact hj))⟩, hown.frozenAt j⟩
  have hbel : Below w.heap.size w w1 := (Below.refl _ _).grown hgrow (Nat.le_refl _) (by intro k hk; cases hk)
  have hsz : w.heap.size < w1.heap.size := (hown.lt _ rfl).2
  clear hown hgrow
  go_wp2
  go_loopw [4] (fun i wr => ∃ k : Nat, k ≤ n ∧ i = .int .i64 k ∧ StepsAt wr w.heap.size 0 k K A C ∧ RoomAt wr w.heap.size (n * 3) ∧ Below w.heap.size w wr ∧ w.heap.size < wr.heap.size) (fun i _ => n - (intOf i).toNat)
  case atStart => exact ⟨0, Nat.zero_le _, rfl, fun i hi => by omega, hroom, hbel, hsz⟩
  case round =>
    obtain ⟨k, hk, rfl, hst, hro, hbe, hsz1⟩ := hrel
    by_cases hlt : k < n
    · obtain ⟨h0, h1, h2, h3⟩ := hs k hlt
      have c0 := (hbe.cell (p := ⟨b, off + k * 3, none⟩) hb).trans h0
      have c1 := (hbe.cell (p := ⟨b, off + k * 3 + 1, none⟩) hb).trans h1
      have c2 := (hbe.cell (p := ⟨b, off + k * 3 + 2, none⟩) hb).trans h2
      obtain ⟨⟨v0, r0⟩, f0⟩ := hro (k * 3) (by omega)
      obtain ⟨⟨v1, r1⟩, f1⟩ := hro (k * 3 + 1) (by omega)
      obtain ⟨⟨v2, r2⟩, f2⟩ := hro (k * 3 + 2) (by omega)
      clear h0 h1 h2 hroom hbel hsz
      have R := steps_set3 (A := A) (C := C) hlt h3 hst hro
      go_wp2
      go_roundw
      case rel => exact ⟨k + 1, by omega, by go_num, R.1, R.2, ((hbe.setCell (Nat.le_refl _) _).setCell (Nat.le_refl _) _).setCell (Nat.le_refl _) _, by simpa using hsz1⟩
      case measure => simp [intOf]; omega
    · go_wp2
      go_ret
      exact ⟨rfl, by rwa [show n = k by omega], hbe, hsz1⟩

end Go.Proofs.Qxb6605891a
