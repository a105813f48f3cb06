/-
  THE ROW 'Rows.FnAddToScriptKeepsEachOutlinesOrderSaid', PROVED.
-/
import Derived.Test.Qxb6605891aScript
import Derived.ProofKit
import Derived.OpenShut
import Derived.ChangeOld
import Derived.Below
import Derived.Deep.Slices
namespace Go.Proofs.Qxb6605891a
open Go.ChangeShapes Go.WideShapes Go.ChangeAt Go.RowKit

theorem Try.own : ownKnob Try.prog.godebug = none := by kernel_rfl
theorem Try.laidOut : laidOutB Try.prog = true := by kernel_rfl

/-- One step, as its three cells. -/
theorem open_step {H : Type} {enc : TypeId × Value → H} {w : World} {base : Nat} {spare : Nat → Bool} {held : Bool} {fuel : Nat} {cs : List Value} {x : DataW H × List MemPlace} (h : DataW.trod enc Try.prog w base spare held fuel 42 cs = some x) :
    ∃ (s : ByteArray) (p q : Int), cs = [.string s, .int .i64 p, .int .i64 q] ∧ s.size ≤ maxLen := by
  obtain ⟨y0, y1, n, _, hl, h0, h1⟩ := trod_struct2 Try.underlying42 h
  rw [Try.cells42] at hl
  match cs, hl with
  | [c0, c1, c2], _ =>
    simp only [Try.cells9, Try.cells24] at h0 h1
    obtain ⟨s, e0, _, hs⟩ := DataW.trod_string Try.underlying9 h0
    obtain ⟨z0, z1, m, _, _, g0, g1⟩ := trod_struct2 Try.underlying24 h1
    simp only [Try.cells3] at g0 g1
    obtain ⟨p, ep, _, _⟩ := DataW.trod_int Try.underlying3 g0
    obtain ⟨q, eq, _, _⟩ := DataW.trod_int Try.underlying3 g1
    simp at e0 ep eq
    exact ⟨s, p, q, by rw [e0, ep, eq], hs⟩

theorem open_steps {H : Type} {enc : TypeId × Value → H} {w : World} {fuel : Nat} {a : Option Addr} {len cap : Nat} {x : DataW H × List MemPlace} (h : DataW.trod enc Try.prog w 0 (fun _ => true) true fuel 39 [.slice a len cap] = some x) :
    len = 0 ∨ ∃ b off K A C, a = some ⟨b, off, none⟩ ∧ len ≤ maxLen ∧ b < w.heap.size ∧ StepsAt w b off len K A C := by
  rcases Deep.open_slice Try.underlying39 h with ⟨hcs, _⟩ | ⟨a', len', cap', m, n, D, Pl, hcs, _, hl, hm, hmm, _, hx⟩
  · simp at hcs
    exact Or.inl hcs.2.1
  · simp at hcs
    obtain ⟨rfl, rfl, rfl⟩ := hcs
    by_cases h0 : len = 0
    · exact Or.inl h0
    · right
      simp only [if_true] at hmm
      rw [Try.cells42] at hx
      have one : ∀ i, i < len → ∃ z : ByteArray × Int × Int, w.cell? (a'.add (i * 3)) = some (.string z.1) ∧ w.cell? (a'.add (i * 3 + 1)) = some (.int .i64 z.2.1) ∧ w.cell? (a'.add (i * 3 + 2)) = some (.int .i64 z.2.2) ∧ z.1.size ≤ maxLen := by
        intro i hi
        obtain ⟨cs', h1, h2⟩ := hx i (by omega)
        obtain ⟨s, p, q, rfl, hs⟩ := open_step h2
        obtain ⟨_, _, hc⟩ := World.cells?_some h1
        have c0 := hc 0 (by omega)
        have c1 := hc 1 (by omega)
        have c2 := hc 2 (by omega)
        rw [Deep.add_add] at c0 c1 c2
        exact ⟨(s, p, q), by simpa using c0, by simpa using c1, by simpa using c2, hs⟩
      obtain ⟨F, hF⟩ := Deep.choose_lt one
      obtain ⟨b, off, spot⟩ := a'
      have hspot : spot = none := by simpa [Addr.add] using World.cell?_spot (hF 0 (by omega)).1
      subst hspot
      refine ⟨b, off, fun i => (F i).1, fun i => (F i).2.1, fun i => (F i).2.2, rfl, by omega, ?_, fun i hi => ?_⟩
      · have := World.block_lt_of_cell? w _ (hF 0 (by omega)).1
        simpa [Addr.add] using this
      · obtain ⟨c0, c1, c2, c3⟩ := hF i hi
        rw [add_plain] at c0 c1 c2
        exact ⟨c0, by rw [Nat.add_assoc]; exact c1, by rw [Nat.add_assoc]; exact c2, c3⟩

set_option maxRecDepth 100000 in
theorem script_lifted (os : Os) (started : os.Started) (H : Type) (enc : TypeId × Value → H) :
    ReturnsInHanded {} Try.checked os 4 .any (Rows.fnAddToScriptKeepsEachOutlinesOrderSpec.pre6 enc Try.prog Try.f4 Rows.fnAddToScriptKeepsEachOutlinesOrderRow.domain false) (Rows.fnAddToScriptKeepsEachOutlinesOrderSpec.post enc Try.prog Try.f4 false true false false) := by
  refine returnsInHanded_of_change (C := Try.checked) Try.own started (by kernel_rfl) Try.func4
    (ChangeSpec.witness6 (enc := enc) (C := Try.checked) false ⟨#[], #[.slice none 0 0], []⟩ 8 (by kernel_rfl) (by kernel_rfl) (by kernel_rfl) (by kernel_rfl)) ?_
  intro W base args ds gs before hval0 hW hcnd _
  have hval : ∀ (j : Nat) t v, Try.f4.params[j]? = some t → args[j]? = some v → Value.okWide Try.prog W .any base t v := hval0
  have hW' := hW
  obtain ⟨p, q, hA0, hV, rfl, hfz, hnd⟩ := hW
  have hA : DataW.TrodAll enc Try.prog W 0 (fun _ => true) true Try.f4.params.toList args.toList ds p := hA0
  rw [Try.params4] at hA hval
  obtain ⟨v0, vs0, d0, ds0, p0, q0, hargs, rfl, rfl, h0, r0⟩ := trodAll_cons hA
  obtain ⟨rfl, rfl, rfl⟩ := trodAll_nil r0
  obtain rfl : args = #[v0] := by cases args; simp_all
  obtain ⟨rfl, rfl⟩ := trodVars_none hV
  obtain ⟨a0, len0, cap0, rfl⟩ := okWide_slice Try.underlying39 (hval 0 39 v0 rfl rfl)
  have k0 := h0
  have lt0 : ∀ x ∈ p0, x.block < W.heap.size := by obtain ⟨m, hm⟩ := k0; exact DataW.trod_lt m _ _ _ hm
  have w0 : Calls Try.prog 4 #[.slice a0 len0 cap0] W fun e w' => e = .returned (.bool true) ∧ Below W.heap.size W w' := by
    obtain ⟨fuel, hf⟩ := h0
    simp only [Value.cells] at hf
    rcases open_steps hf with rfl | ⟨b, off, K, A, C, rfl, hn, hb, hs⟩
    · exact script_zero a0 cap0 W
    · rcases Nat.eq_zero_or_pos len0 with rfl | hpos
      · exact script_zero _ cap0 W
      · exact script_some b off len0 cap0 K A C W hn hpos hb hs
  clear hA0 hval0
  refine w0.mono fun e W' ⟨he, bel⟩ => ?_
  subst he
  exact ⟨_, rfl, _, _, _, [], _, [], hW', trodAll_mk1 (shut_bool Try.underlying4 _), (trodAll_cons_mk (Below.trod Try.laidOut (by kernel_rfl) (of_decide_eq_true (by kernel_rfl)) k0 bel lt0) trodAll_mk0), rfl, bel.frame _, fun h => by cases h⟩

theorem script_proved : Rows.FnAddToScriptKeepsEachOutlinesOrderSaid :=
  OpenClaim.holds_of_wide 4 Try.f4 rfl rfl rfl rfl rfl rfl rfl ⟨rfl, rfl, rfl, rfl, rfl⟩ rfl rfl rfl rfl rfl (by kernel_rfl) Try.func4 (by kernel_rfl)
    (of_decide_eq_true (by kernel_rfl)) (by unfold Func.isWrapper; first | (rw [if_pos (by decide +kernel)]; kernel_rfl) | (rw [if_neg (by decide +kernel)]; exact ⟨rfl, rfl⟩))
    (fun os started H enc _ => script_lifted os started H enc)

end Go.Proofs.Qxb6605891a
