/-
  The row of cuts that both laws build.
-/
import Derived.Test.Qxb6605954aShare
import Derived.Test.Qxb6605954aTail
import Derived.Laws.OwnMore
namespace Go.Proofs.Qxb6605954a
open Go.RowKit

/-- A cut is stored. -/
def set5 (w : World) (g o : Nat) (x : Cu) : World :=
  ((((w.setCell ⟨g, o, none⟩ (.int .i64 x.p)).setCell ⟨g, o + 1, none⟩ (.int .i64 x.d)).setCell ⟨g, o + 2, none⟩ (.int .u64 x.ch)).setCell ⟨g, o + 3, none⟩ (.int .u64 x.ru)).setCell ⟨g, o + 4, none⟩ (.int .u64 x.we)

theorem addr_ne {g g' o o' : Nat} (h : g ≠ g' ∨ o ≠ o') : (⟨g, o, none⟩ : Addr) ≠ ⟨g', o', none⟩ := fun e => by
  injection e with e1 e2
  omega

theorem set5_other (w : World) (g o : Nat) (x : Cu) (g' o' : Nat) (h : g' ≠ g ∨ o' < o ∨ o + 5 ≤ o') : (set5 w g o x).cell? ⟨g', o', none⟩ = w.cell? ⟨g', o', none⟩ := by
  unfold set5
  rw [World.cell?_setCell_other _ _ _ _ (addr_ne (by omega)), World.cell?_setCell_other _ _ _ _ (addr_ne (by omega)), World.cell?_setCell_other _ _ _ _ (addr_ne (by omega)), World.cell?_setCell_other _ _ _ _ (addr_ne (by omega)), World.cell?_setCell_other _ _ _ _ (addr_ne (by omega))]

theorem set5_at {w : World} {g o : Nat} (x : Cu) {v0 v1 v2 v3 v4 : Value} (h0 : w.cell? ⟨g, o, none⟩ = some v0) (h1 : w.cell? ⟨g, o + 1, none⟩ = some v1) (h2 : w.cell? ⟨g, o + 2, none⟩ = some v2) (h3 : w.cell? ⟨g, o + 3, none⟩ = some v3) (h4 : w.cell? ⟨g, o + 4, none⟩ = some v4) : CutAt (set5 w g o x) g o x := by
  unfold set5
  refine ⟨?_, ?_, ?_, ?_, ?_⟩
  · rw [World.cell?_setCell_other _ _ _ _ (addr_ne (by omega)), World.cell?_setCell_other _ _ _ _ (addr_ne (by omega)), World.cell?_setCell_other _ _ _ _ (addr_ne (by omega)), World.cell?_setCell_other _ _ _ _ (addr_ne (by omega))]
    exact World.cell?_setCell_same _ _ _ h0
  · rw [World.cell?_setCell_other _ _ _ _ (addr_ne (by omega)), World.cell?_setCell_other _ _ _ _ (addr_ne (by omega)), World.cell?_setCell_other _ _ _ _ (addr_ne (by omega))]
    refine World.cell?_setCell_same _ _ _ (u := v1) ?_
    rw [World.cell?_setCell_other _ _ _ _ (addr_ne (by omega))]
    exact h1
  · rw [World.cell?_setCell_other _ _ _ _ (addr_ne (by omega)), World.cell?_setCell_other _ _ _ _ (addr_ne (by omega))]
    refine World.cell?_setCell_same _ _ _ (u := v2) ?_
    rw [World.cell?_setCell_other _ _ _ _ (addr_ne (by omega)), World.cell?_setCell_other _ _ _ _ (addr_ne (by omega))]
    exact h2
  · rw [World.cell?_setCell_other _ _ _ _ (addr_ne (by omega))]
    refine World.cell?_setCell_same _ _ _ (u := v3) ?_
    rw [World.cell?_setCell_other _ _ _ _ (addr_ne (by omega)), World.cell?_setCell_other _ _ _ _ (addr_ne (by omega)), World.cell?_setCell_other _ _ _ _ (addr_ne (by omega))]
    exact h3
  · refine World.cell?_setCell_same _ _ _ (u := v4) ?_
    rw [World.cell?_setCell_other _ _ _ _ (addr_ne (by omega)), World.cell?_setCell_other _ _ _ _ (addr_ne (by omega)), World.cell?_setCell_other _ _ _ _ (addr_ne (by omega)), World.cell?_setCell_other _ _ _ _ (addr_ne (by omega))]
    exact h4

theorem Try.info45 : (Try.prog.info? 45).map (fun i => (i.zero, i.size, i.bytes)) = some (some (.agg #[.int .i64 0, .int .i64 0, .int .u64 0, .int .u64 0, .int .u64 0]), 5, 40) := by kernel_rfl

/-- How a law ends. -/
def Says (w : World) (e : Ending) (w' : World) : Prop := e = .returned (.bool true) ∧ Below w.heap.size w w'

/-- The test fails; nothing has turned. -/
def Same (w2 : World) (v : Value) (w' : World) : Prop := v = .bool false ∧ w' = w2

/-- make([]cut, n). -/
theorem make_cuts (n : Nat) (hn : n ≤ 65536) (w : World) : (Instr.makeSlice 43 (.int .i64 (n : Int)) (.int .i64 (n : Int))).run Try.prog w = .ok (.slice (some ⟨w.heap.size, 0, none⟩) n n) (w.alloc (.cells (madeCells #[.int .i64 0, .int .i64 0, .int .u64 0, .int .u64 0, .int .u64 0] (n * 5)) 45)) := by
  obtain ⟨i0, hi0, hz0, hz1, hz2⟩ := info_parts Try.info45
  have h := run_make (P := Try.prog) w 43 45 i0 _ Try.underlying43 hi0 hz0 .i64 .i64 n n (by omega) (Int.le_refl _) (by rw [hz2]; omega) (by omega)
  rw [hz1] at h
  simp only [Int.toNat_natCast] at h
  exact h

/-- The cuts that are built. -/
def BuiltAt (wB : World) (C : Nat → Cu) (n : Nat) (i : Value) (wr : World) : Prop :=
  ∃ k : Nat, k ≤ n ∧ i = .int .i64 k ∧ (∀ j, j < k → CutAt wr wB.heap.size (j * 5) (C j)) ∧ (∀ o, o < n * 5 → ∃ v, wr.cell? ⟨wB.heap.size, o, none⟩ = some v) ∧ (∀ o, wr.frozen? ⟨wB.heap.size, o, none⟩ = false) ∧ Below wB.heap.size wB wr ∧ wB.heap.size < wr.heap.size

theorem builtAt_start (wB : World) (C : Nat → Cu) (n : Nat) : BuiltAt wB C n (.int .i64 0) (wB.alloc (.cells (madeCells #[.int .i64 0, .int .i64 0, .int .u64 0, .int .u64 0, .int .u64 0] (n * 5)) 45)) := by
  refine ⟨0, Nat.zero_le _, rfl, fun j hj => absurd hj (Nat.not_lt_zero _), fun o ho => ?_, fun o => by simp, (Below.refl _ _).alloc (Nat.le_refl _) _, by simp⟩
  have : o < (madeCells #[Value.int .i64 0, .int .i64 0, .int .u64 0, .int .u64 0, .int .u64 0] (n * 5)).size := by rw [size_madeCells]; exact ho
  exact ⟨_, by simp [this]; rfl⟩

theorem builtAt_step {wB wr wD : World} {C : Nat → Cu} {n k : Nat} {x : Cu} {i : Value} (hk : k < n) (hx : C k = x) (hi : i = .int .i64 (k + 1 : Nat)) (hB : ∀ j, j < k → CutAt wr wB.heap.size (j * 5) (C j)) (hE : ∀ o, o < n * 5 → ∃ v, wr.cell? ⟨wB.heap.size, o, none⟩ = some v) (hfz : ∀ o, wr.frozen? ⟨wB.heap.size, o, none⟩ = false) (hb : Below wB.heap.size wB wr) (hs : wB.heap.size < wr.heap.size) (hD : Below wr.heap.size wr wD) :
    BuiltAt wB C n i (set5 wD wB.heap.size (k * 5) x) := by
  have hE2 : ∀ o, o < n * 5 → ∃ v, wD.cell? ⟨wB.heap.size, o, none⟩ = some v := fun o ho => by
    obtain ⟨v, hv⟩ := hE o ho
    exact ⟨v, (hD.cell (p := ⟨wB.heap.size, o, none⟩) hs).trans hv⟩
  obtain ⟨v0, p0⟩ := hE2 (k * 5) (by omega)
  obtain ⟨v1, p1⟩ := hE2 (k * 5 + 1) (by omega)
  obtain ⟨v2, p2⟩ := hE2 (k * 5 + 2) (by omega)
  obtain ⟨v3, p3⟩ := hE2 (k * 5 + 3) (by omega)
  obtain ⟨v4, p4⟩ := hE2 (k * 5 + 4) (by omega)
  have hA := set5_at x p0 p1 p2 p3 p4
  refine ⟨k + 1, hk, hi, fun j hj => ?_, fun o ho => ?_, fun o => ?_, ?_, ?_⟩
  · rcases Nat.lt_succ_iff_lt_or_eq.1 hj with h | rfl
    · obtain ⟨c0, c1, c2, c3, c4⟩ := (hB j h).below hD hs
      exact ⟨(set5_other _ _ _ _ _ _ (by omega)).trans c0, (set5_other _ _ _ _ _ _ (by omega)).trans c1, (set5_other _ _ _ _ _ _ (by omega)).trans c2, (set5_other _ _ _ _ _ _ (by omega)).trans c3, (set5_other _ _ _ _ _ _ (by omega)).trans c4⟩
    · rw [hx]
      exact hA
  · by_cases h : o < k * 5 ∨ k * 5 + 5 ≤ o
    · obtain ⟨v, hv⟩ := hE2 o ho
      exact ⟨v, (set5_other _ _ _ _ _ _ (Or.inr h)).trans hv⟩
    · have : o = k * 5 ∨ o = k * 5 + 1 ∨ o = k * 5 + 2 ∨ o = k * 5 + 3 ∨ o = k * 5 + 4 := by omega
      rcases this with rfl | rfl | rfl | rfl | rfl
      · exact ⟨_, hA.c0⟩
      · exact ⟨_, hA.c1⟩
      · exact ⟨_, hA.c2⟩
      · exact ⟨_, hA.c3⟩
      · exact ⟨_, hA.c4⟩
  · unfold set5
    simp only [World.frozen?_setCell]
    exact (hD.frozen (p := ⟨wB.heap.size, o, none⟩) hs).trans (hfz o)
  · have h1 := hb.trans (hD.mono hb.size)
    exact ((((h1.setCell (Nat.le_refl _) _).setCell (Nat.le_refl _) _).setCell (Nat.le_refl _) _).setCell (Nat.le_refl _) _).setCell (Nat.le_refl _) _
  · have := hD.size
    unfold set5
    simp
    omega

theorem builtAt_cuts {wB wr : World} {C : Nat → Cu} {n : Nat} (hB : ∀ j, j < n → CutAt wr wB.heap.size (j * 5) (C j)) (hs : wB.heap.size < wr.heap.size) : CutsAt wr (some ⟨wB.heap.size, 0, none⟩) n C :=
  Or.inr ⟨wB.heap.size, 0, rfl, hs, fun i hi => by rw [Nat.zero_add]; exact hB i hi⟩

end Go.Proofs.Qxb6605954a
