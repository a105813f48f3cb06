/-
  ZZunitsOfPart (18).
-/
import Derived.Test.Qxb6605954aUnits
import Derived.Test.Qxb6605954aPlain
namespace Go.Proofs.Qxb6605954a
open Go.RowKit

/-- A row of spans lies where the slice's address leads. -/
def SpansAt (w : World) (u : Option Addr) (S : List Sp) : Prop :=
  S = [] ∨ ∃ b, u = some ⟨b, 0, none⟩ ∧ b < w.heap.size ∧ ∀ j s, S[j]? = some s →
    w.cell? ⟨b, j * 8, none⟩ = some (.int .i64 s.c.p) ∧ w.cell? ⟨b, j * 8 + 1, none⟩ = some (.int .i64 s.c.d) ∧ w.cell? ⟨b, j * 8 + 2, none⟩ = some (.int .u64 s.c.ch) ∧ w.cell? ⟨b, j * 8 + 3, none⟩ = some (.int .u64 s.c.ru) ∧ w.cell? ⟨b, j * 8 + 4, none⟩ = some (.int .u64 s.c.we) ∧
    w.cell? ⟨b, j * 8 + 5, none⟩ = some (.int .u64 s.a) ∧ w.cell? ⟨b, j * 8 + 6, none⟩ = some (.int .u64 s.b) ∧ w.cell? ⟨b, j * 8 + 7, none⟩ = some (.int .i64 s.f)

theorem SpansAt.below {w w' : World} {u : Option Addr} {S : List Sp} (h : SpansAt w u S) (hb : Below w.heap.size w w') : SpansAt w' u S := by
  rcases h with h | ⟨b, h1, h2, h3⟩
  · exact Or.inl h
  · refine Or.inr ⟨b, h1, Nat.lt_of_lt_of_le h2 hb.size, fun j s hj => ?_⟩
    obtain ⟨q0, q1, q2, q3, q4, q5, q6, q7⟩ := h3 j s hj
    exact ⟨(hb.cell (p := ⟨b, j * 8, none⟩) h2).trans q0, (hb.cell (p := ⟨b, j * 8 + 1, none⟩) h2).trans q1, (hb.cell (p := ⟨b, j * 8 + 2, none⟩) h2).trans q2, (hb.cell (p := ⟨b, j * 8 + 3, none⟩) h2).trans q3, (hb.cell (p := ⟨b, j * 8 + 4, none⟩) h2).trans q4,
      (hb.cell (p := ⟨b, j * 8 + 5, none⟩) h2).trans q5, (hb.cell (p := ⟨b, j * 8 + 6, none⟩) h2).trans q6, (hb.cell (p := ⟨b, j * 8 + 7, none⟩) h2).trans q7⟩

theorem spansAt_of_owns {w : World} {base : Nat} {sv : Value} {S : List Sp} (h : w.ownsRow base 64 8 sv S.length (spanCells S)) : ∃ u c, sv = .slice u S.length c ∧ SpansAt w u S := by
  rcases Nat.eq_zero_or_pos S.length with h0 | h0
  · have e : S = [] := List.length_eq_zero_iff.1 h0
    rcases h.2 with ⟨rfl, _⟩ | ⟨g, cap, cur, rfl, _⟩
    · exact ⟨none, 0, by rw [h0], Or.inl e⟩
    · exact ⟨_, cap, rfl, Or.inl e⟩
  · obtain ⟨g, cap, rfl, _, hlt⟩ := h.form h0
    refine ⟨_, cap, rfl, Or.inr ⟨g, rfl, hlt, fun j s hj => ?_⟩⟩
    have hjl : j < S.length := by
      rcases Nat.lt_or_ge j S.length with h | h
      · exact h
      · rw [List.getElem?_eq_none h] at hj; cases hj
    obtain ⟨q0, q1, q2, q3, q4, q5, q6, q7⟩ := spanCells_at S j s hj
    exact ⟨(h.cellAt _ (by omega)).trans q0, (h.cellAt _ (by omega)).trans q1, (h.cellAt _ (by omega)).trans q2, (h.cellAt _ (by omega)).trans q3, (h.cellAt _ (by omega)).trans q4, (h.cellAt _ (by omega)).trans q5, (h.cellAt _ (by omega)).trans q6, (h.cellAt _ (by omega)).trans q7⟩

/-- How ZZunitsOfPart ends. -/
def SharePost (w : World) (C : Nat → Cu) (n K M : Nat) (e : Ending) (w' : World) : Prop :=
  ∃ (S : List Sp) (u : Option Addr) (c : Nat), e = .returned (.slice u S.length c) ∧ SpansOf C K M (lineN C n) n S ∧ SpansAt w' u S ∧ Below w.heap.size w w'

theorem share_any (g : Nat) (u : Option Addr) (n c : Nat) (C : Nat → Cu) (K M : Nat) (w : World) (hg : w.cell? ⟨g, 6, none⟩ = some (.slice u n c)) (hn : n ≤ 65536) (hC : CutsAt w u n C) (hF : Fits C n) (hT : 0 < n → 0 < lineN C n) (hK : 1 ≤ K) (hKM : K ≤ M) (hM : M < 9223372036854775808) :
    Calls Try.prog 18 #[.pointer (some ⟨g, 0, none⟩), .agg #[.int .i64 K, .int .i64 M]] w (SharePost w C n K M) := by
  have hu := fun ob => units_any g u n c C K M (w.alloc ob) (Lib.cell?_alloc_some _ hg) hn (hC.below ((Below.refl _ _).alloc (Nat.le_refl _) ob) (Nat.le_refl _)) hF hT hK hKM hM
  go_enter Try.func18, Try.ntmps18
  go_wp2_with (go_at_call 36; refine (hu _).mono ?_; rintro e w' ⟨S, sv, base, rfl, hS, hb, hown, hbe⟩)
  obtain ⟨u', c', rfl, hA⟩ := spansAt_of_owns hown
  go_ret
  exact ⟨S, u', c', rfl, hS, hA, ((Below.refl w.heap.size w).alloc (Nat.le_refl _) _).trans (hbe.mono (by simp))⟩

end Go.Proofs.Qxb6605954a
