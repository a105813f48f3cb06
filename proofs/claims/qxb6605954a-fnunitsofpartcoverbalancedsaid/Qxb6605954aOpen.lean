/-
  What an argument of type []Cut is, opened; the closed facts of the rows.
-/
import Derived.Test.Qxb6605954aFit
import Derived.Test.Qxb6605954aRows
import Derived.ProofKit
import Derived.OpenShut
import Derived.ChangeOld
import Derived.Below
import Derived.Deep.Slices
namespace Go.Proofs.Qxb6605954a
open Go.ChangeShapes Go.WideShapes Go.ChangeAt Go.RowKit

theorem Try.own : ownKnob Try.prog.godebug = none := by kernel_rfl
theorem Try.laidOut : laidOutB Try.prog = true := by kernel_rfl
theorem Try.cells48 : Try.prog.cellsOf 48 = 5 := by kernel_rfl
theorem Try.cells3 : Try.prog.cellsOf 3 = 1 := by kernel_rfl
theorem Try.cells40 : Try.prog.cellsOf 40 = 1 := by kernel_rfl

theorem nat_of_wf {n : Int} (h : (Lit.int .u64 n).wf = true) : ∃ k : Nat, n = k ∧ k < 18446744073709551616 := by
  have e1 : IntKind.u64.min = 0 := by decide
  have e2 : IntKind.u64.max = 18446744073709551615 := by decide
  simp only [Lit.wf, Bool.and_eq_true, decide_eq_true_eq] at h
  rw [e1, e2] at h
  exact ⟨n.toNat, by omega, by omega⟩

theorem i64_of_wf {n : Int} (h : (Lit.int .i64 n).wf = true) : n < 9223372036854775808 := by
  have e2 : IntKind.i64.max = 9223372036854775807 := by decide
  simp only [Lit.wf, Bool.and_eq_true, decide_eq_true_eq] at h
  rw [e2] at h
  omega

theorem list5 {α : Type} {l : List α} (h : l.length = 5) : ∃ a b c d e, l = [a, b, c, d, e] := by
  match l, h with
  | [a, b, c, d, e], _ => exact ⟨a, b, c, d, e, rfl⟩

/-- One cut, as its five cells. -/
theorem open_cut {H : Type} {enc : TypeId × Value → H} {w : World} {base : Nat} {spare : Nat → Bool} {held : Bool} {fuel : Nat} {cs : List Value} {x : DataW H × List MemPlace} (h : DataW.trod enc Try.prog w base spare held fuel 48 cs = some x) :
    ∃ c : Cu, cs = [.int .i64 c.p, .int .i64 c.d, .int .u64 c.ch, .int .u64 c.ru, .int .u64 c.we] ∧ c.rng := by
  obtain ⟨xs, n, _, rfl, hl, hlen, hf⟩ := DataW.trod_struct Try.underlying48 h
  rw [Try.cells48] at hl
  have hlen5 : xs.length = 5 := hlen
  clear hlen h
  obtain ⟨c0, c1, c2, c3, c4, rfl⟩ := list5 hl
  obtain ⟨y0, y1, y2, y3, y4, rfl⟩ := list5 hlen5
  have h0 : DataW.trod enc Try.prog w base spare held n 3 [c0] = some y0 := by
    have h := hf 0 _ rfl
    change DataW.trod enc Try.prog w base spare held n 3 (List.take (Try.prog.cellsOf 3) [c0, c1, c2, c3, c4]) = some y0 at h
    rw [Try.cells3] at h
    exact h
  have h1 : DataW.trod enc Try.prog w base spare held n 3 [c1] = some y1 := by
    have h := hf 1 _ rfl
    change DataW.trod enc Try.prog w base spare held n 3 (List.take (Try.prog.cellsOf 3) [c1, c2, c3, c4]) = some y1 at h
    rw [Try.cells3] at h
    exact h
  have h2 : DataW.trod enc Try.prog w base spare held n 40 [c2] = some y2 := by
    have h := hf 2 _ rfl
    change DataW.trod enc Try.prog w base spare held n 40 (List.take (Try.prog.cellsOf 40) [c2, c3, c4]) = some y2 at h
    rw [Try.cells40] at h
    exact h
  have h3 : DataW.trod enc Try.prog w base spare held n 40 [c3] = some y3 := by
    have h := hf 3 _ rfl
    change DataW.trod enc Try.prog w base spare held n 40 (List.take (Try.prog.cellsOf 40) [c3, c4]) = some y3 at h
    rw [Try.cells40] at h
    exact h
  have h4 : DataW.trod enc Try.prog w base spare held n 40 [c4] = some y4 := by
    have h := hf 4 _ rfl
    change DataW.trod enc Try.prog w base spare held n 40 (List.take (Try.prog.cellsOf 40) [c4]) = some y4 at h
    rw [Try.cells40] at h
    exact h
  obtain ⟨p, e0, _, _⟩ := DataW.trod_int Try.underlying3 h0
  obtain ⟨d, e1, _, _⟩ := DataW.trod_int Try.underlying3 h1
  obtain ⟨ch, e2, _, w2⟩ := DataW.trod_int Try.underlying40 h2
  obtain ⟨ru, e3, _, w3⟩ := DataW.trod_int Try.underlying40 h3
  obtain ⟨we, e4, _, w4⟩ := DataW.trod_int Try.underlying40 h4
  obtain ⟨ch, rfl, b2⟩ := nat_of_wf w2
  obtain ⟨ru, rfl, b3⟩ := nat_of_wf w3
  obtain ⟨we, rfl, b4⟩ := nat_of_wf w4
  simp at e0 e1 e2 e3 e4
  exact ⟨⟨p, d, ch, ru, we⟩, by rw [e0, e1, e2, e3, e4], b2, b3, b4⟩

theorem open_cuts {H : Type} {enc : TypeId × Value → H} {w : World} {fuel : Nat} {a : Option Addr} {len cap : Nat} {x : DataW H × List MemPlace} (h : DataW.trod enc Try.prog w 0 (fun _ => true) true fuel 38 [.slice a len cap] = some x) :
    ∃ C : Nat → Cu, len ≤ maxLen ∧ CutsAt w a len C ∧ ∀ i, i < len → (C i).rng := by
  rcases Deep.open_slice Try.underlying38 h with ⟨hcs, _⟩ | ⟨a', len', cap', m, n, D, Pl, hcs, _, hl, hm, hmm, _, hx⟩
  · simp at hcs
    obtain ⟨_, rfl, _⟩ := hcs
    exact ⟨fun _ => default, Nat.zero_le _, Or.inl rfl, fun i hi => absurd hi (Nat.not_lt_zero _)⟩
  · simp at hcs
    obtain ⟨rfl, rfl, rfl⟩ := hcs
    by_cases h0 : len = 0
    · subst h0
      exact ⟨fun _ => default, Nat.zero_le _, Or.inl rfl, fun i hi => absurd hi (Nat.not_lt_zero _)⟩
    · simp only [if_true] at hmm
      rw [Try.cells48] at hx
      have one : ∀ i, i < len → ∃ c : Cu, w.cell? (a'.add (i * 5)) = some (.int .i64 c.p) ∧ w.cell? (a'.add (i * 5 + 1)) = some (.int .i64 c.d) ∧ w.cell? (a'.add (i * 5 + 2)) = some (.int .u64 c.ch) ∧ w.cell? (a'.add (i * 5 + 3)) = some (.int .u64 c.ru) ∧ w.cell? (a'.add (i * 5 + 4)) = some (.int .u64 c.we) ∧ c.rng := by
        intro i hi
        obtain ⟨cs', h1, h2⟩ := hx i (by omega)
        obtain ⟨c, rfl, hr⟩ := open_cut h2
        obtain ⟨_, _, hc⟩ := World.cells?_some h1
        have c0 := hc 0 (by omega)
        have c1 := hc 1 (by omega)
        have c2 := hc 2 (by omega)
        have c3 := hc 3 (by omega)
        have c4 := hc 4 (by omega)
        rw [Deep.add_add] at c0 c1 c2 c3 c4
        exact ⟨c, by simpa using c0, by simpa using c1, by simpa using c2, by simpa using c3, by simpa using c4, hr⟩
      obtain ⟨C, hC⟩ := Deep.choose_lt one
      obtain ⟨b, off, spot⟩ := a'
      have hspot : spot = none := by simpa [Addr.add] using World.cell?_spot (hC 0 (by omega)).1
      subst hspot
      refine ⟨C, by omega, Or.inr ⟨b, off, rfl, ?_, fun i hi => ?_⟩, fun i hi => (hC i hi).2.2.2.2.2⟩
      · have := World.block_lt_of_cell? w _ (hC 0 (by omega)).1
        simpa [Addr.add] using this
      · obtain ⟨c0, c1, c2, c3, c4, _⟩ := hC i hi
        rw [add_plain] at c0 c1 c2 c3 c4
        exact ⟨c0, by rw [Nat.add_assoc]; exact c1, by rw [Nat.add_assoc]; exact c2, by rw [Nat.add_assoc]; exact c3, by rw [Nat.add_assoc]; exact c4⟩

end Go.Proofs.Qxb6605954a
