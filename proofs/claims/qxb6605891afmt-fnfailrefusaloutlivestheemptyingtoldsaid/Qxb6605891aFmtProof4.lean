/-
  THE TWO TOLD AND TIED CARDS, PROVED. fmt's text is told by the model's own function (no call of fmt is reached on these roads: no release fails); what ErrScopeClosed holds is tied to the program's text by the given tie.
-/
import Derived.Test.Qxb6605891aFmtLaws
import Derived.Test.Qxb6605891aFmtTie
import Derived.Test.Qxb6605891aFmtCards
import Derived.ProofKit
import Derived.OpenShut
import Derived.ChangeOld
import Derived.LaidMore
import Derived.Stop.Joined
import Derived.Stop.JoinedTold
import Derived.Stop.LaidErr
import Derived.Deep.DeepWitnessRef
import Derived.Deep.Slices
import Derived.WalkSmall
import Derived.SevenTiedAt
namespace Go.Proofs.Qxb6605891aFmt
open Go.ChangeShapes Go.WideShapes Go.ChangeAt Go.RowKit

theorem Tryf.own : ownKnob Tryf.prog.godebug = none := by kernel_rfl
theorem Tryf.laidOut : laidOutB Tryf.prog = true := by kernel_rfl
theorem Tryf.cells9 : Tryf.prog.cellsOf 9 = 1 := by kernel_rfl

/-- The name of the one listed variable. -/
def gName : String := Rows.fnFailRefusalOutlivesTheEmptyingSpec.vars.headD ""
theorem gE : Tryf.prog.globalNamed gName = some 0 := by kernel_rfl
theorem gT : (Tryf.prog.globals[0]?).map (·.type) = some 36 := by kernel_rfl

/-- What is listed of it. -/
def laid1 : List (String × DataW Unit) := [(gName, Rows.laid_example_com_usnea_usnea_ErrScopeClosed)]

/-- The dynamic type's name, as the listed datum has it. -/
def nameOf {H : Type} : DataW H → String
  | .iface nm _ => nm
  | _ => ""

theorem row58 (u : TypeId) (h : Tryf.prog.typeName? 3 u = some (nameOf (Rows.laid_example_com_usnea_usnea_ErrScopeClosed (H := Unit)))) : u = 58 := by
  have e : nameOf (Rows.laid_example_com_usnea_usnea_ErrScopeClosed (H := Unit)) = String.ofList [Char.ofNat 42] ++ "errors.errorString" := by decide
  have e2 : String.ofList [Char.ofNat 42] = _ := rfl
  have hr : ((List.range Tryf.prog.types.size).all fun u => Tryf.prog.typeName? 3 u != some (nameOf (Rows.laid_example_com_usnea_usnea_ErrScopeClosed (H := Unit))) || u == 58) = true := by kernel_rfl
  rw [e] at h hr
  exact typeName_ptr_named (nm := "errors.errorString") hr (by kernel_rfl) (by decide) u h

/-- From the listed datum to the variable's cell. -/
theorem of_laid {W : World} (h : laidMetH Tryf.prog laid1 W) : ∃ a : Addr, W.var? Tryf.prog gName = some #[.iface 58 (.pointer (some a))] ∧ W.cell? ⟨0, 0, none⟩ = some (.iface 58 (.pointer (some a))) := by
  rw [MakeChecks.laidMetH_plain _ _ _ (by kernel_rfl)] at h
  obtain ⟨a, s, hv, _, _, _⟩ := laid_sentinel h gE gT Tryf.underlying36 row58 Tryf.underlying58 Tryf.underlying79 rfl rfl Tryf.underlying9 (by kernel_rfl) (by kernel_rfl)
  exact ⟨a, hv, by simpa using World.var?_cell gE hv 0⟩

theorem door_met (os : Os) (args : Array Value) : laidMetH Tryf.prog laid1 ((World.doorLaid Tryf.prog 400 os).forCall (fun _ _ => 0) ⟨#[], args, []⟩).memory :=
  laidMetH_of_parts3 (fuel := 8) (laidMet_of_run' 8 (by kernel_rfl) (by kernel_rfl)) (by kernel_rfl) (by kernel_rfl)

theorem open_strs {H : Type} {enc : TypeId × Value → H} {w : World} {fuel : Nat} {u : Option Addr} {len cap : Nat} {x : DataW H × List MemPlace} (h : DataW.trod enc Tryf.prog w 0 (fun _ => true) true fuel 22 [.slice u len cap] = some x) :
    len ≤ maxLen ∧ (u = none → cap = 0 ∧ len = 0) ∧ ∃ S, Strs w u len S := by
  rcases Deep.open_slice1 Tryf.underlying22 Tryf.cells9 h with ⟨hcs, _⟩ | ⟨a', len', cap', m, n, V, D, Pl, hcs, _, hl, hm, hmm, _, hx⟩
  · simp at hcs
    obtain ⟨rfl, rfl, rfl⟩ := hcs
    exact ⟨Nat.zero_le _, fun _ => ⟨rfl, rfl⟩, fun _ => ByteArray.empty, Or.inl rfl⟩
  · simp at hcs
    obtain ⟨rfl, rfl, rfl⟩ := hcs
    refine ⟨by omega, by simp, ?_⟩
    simp only [if_true] at hmm
    by_cases h0 : len = 0
    · exact ⟨fun _ => ByteArray.empty, Or.inl h0⟩
    · have one : ∀ i, i < len → ∃ s : ByteArray, w.cell? (a'.add i) = some (.string s) ∧ s.size ≤ maxLen := by
        intro i hi
        obtain ⟨c1, c2⟩ := hx i (by omega)
        obtain ⟨s, e, _, hs⟩ := DataW.trod_string Tryf.underlying9 c2
        simp at e
        exact ⟨s, by rw [c1, e], hs⟩
      obtain ⟨F, hF⟩ := Deep.choose_lt one
      obtain ⟨b, off, spot⟩ := a'
      have hspot : spot = none := by simpa [Addr.add] using World.cell?_spot (hF 0 (by omega)).1
      subst hspot
      refine ⟨F, Or.inr ⟨⟨b, off, none⟩, rfl, ?_, fun i hi => ⟨rfl, ?_, (hF i hi).2⟩⟩⟩
      · have := World.block_lt_of_cell? w _ (hF 0 (by omega)).1
        simpa [Addr.add] using this
      · have := (hF i hi).1
        rwa [add_plain] at this

set_option maxRecDepth 100000 in
set_option maxHeartbeats 4000000 in
theorem lifted4 (os : Os) (started : os.Started) (H : Type) (enc : TypeId × Value → H) :
    ReturnsInTold none {} Tryf.checked os 4 .any Input.okWide ((OpenSpec.ofChange Rows.fnFailRefusalOutlivesTheEmptyingSpec).preRow enc Tryf.prog Tryf.f4 Rows.fnFailRefusalOutlivesTheEmptyingRow.domain false Rows.fnFailRefusalOutlivesTheEmptyingRow.laid) (fun F => ((OpenSpec.ofChange Rows.fnFailRefusalOutlivesTheEmptyingSpec).at F).post enc Tryf.prog Tryf.f4 false true false false) (aloneAtReturn Tryf.prog) nothingAlways := by
  refine returnsInTold_of_row (C := Tryf.checked) (s := OpenSpec.ofChange Rows.fnFailRefusalOutlivesTheEmptyingSpec) (by kernel_rfl) Tryf.own started (by kernel_rfl) Tryf.func4
    (OpenSpec.witness_stopped_atRef (enc := enc) (C := Tryf.checked) false (World.doorLaid Tryf.prog 400 os) #[.slice none 0 0, .slice none 0 0, .bool false, .bool false] rfl (by kernel_rfl) (by kernel_rfl) (by kernel_rfl)
      (OpenSpec.preRow_of_B rfl 8 (by kernel_rfl) (by kernel_rfl) (door_met os _))) ?_
  intro F W base args ds gs before _ _ hval0 hW _ _ _ hL _
  have hval : ∀ (j : Nat) t v, Tryf.f4.params[j]? = some t → args[j]? = some v → Value.okWide Tryf.prog W .any base t v := hval0
  have hW' := hW
  obtain ⟨p, q, hA0, hV0, rfl, hfz, hnd⟩ := hW
  have hA : DataW.TrodAll enc Tryf.prog W 0 (fun _ => true) true Tryf.f4.params.toList args.toList ds p := hA0
  have hV : DataW.TrodVars enc Tryf.prog W (fun _ => true) [gName] gs q := hV0
  rw [Tryf.params4] at hA hval
  obtain ⟨v0, v1, v2, v3, d0, d1, d2, d3, p0, p1, p2, p3, rfl, rfl, rfl, h0, h1, h2, h3⟩ := trodAll_four hA
  obtain ⟨a0, len0, cap0, rfl⟩ := okWide_slice Tryf.underlying22 (hval 0 22 v0 rfl rfl)
  obtain ⟨a1, len1, cap1, rfl⟩ := okWide_slice Tryf.underlying22 (hval 1 22 v1 rfl rfl)
  have k0 := h0
  have k1 := h1
  have k2 := h2
  have k3 := h3
  have lt0 : ∀ x ∈ p0, x.block < W.heap.size := by obtain ⟨m, hm⟩ := k0; exact DataW.trod_lt m _ _ _ hm
  have lt1 : ∀ x ∈ p1, x.block < W.heap.size := by obtain ⟨m, hm⟩ := k1; exact DataW.trod_lt m _ _ _ hm
  have lt2 : ∀ x ∈ p2, x.block < W.heap.size := by obtain ⟨m, hm⟩ := k2; exact DataW.trod_lt m _ _ _ hm
  have lt3 : ∀ x ∈ p3, x.block < W.heap.size := by obtain ⟨m, hm⟩ := k3; exact DataW.trod_lt m _ _ _ hm
  obtain ⟨a, hva, hE⟩ := of_laid hL
  obtain ⟨rfl, rfl⟩ := hV.unique (vars_read1 enc gE gT Tryf.underlying36 hva trivial _)
  have hz : 0 < W.heap.size := by simpa using World.block_lt_of_cell? W _ hE
  have w0 : Calls Tryf.prog 4 #[.slice a0 len0 cap0, .slice a1 len1 cap1, v2, v3] W fun e w' => e = .returned (.bool true) ∧ Below W.heap.size W w' := by
    obtain ⟨fuel0, hf0⟩ := h0
    obtain ⟨fuel1, hf1⟩ := h1
    simp only [Value.cells] at hf0 hf1
    obtain ⟨r, rfl, _, _⟩ := open_bool Tryf.underlying4 (hval 2 4 v2 rfl rfl) h2
    obtain ⟨b, rfl, _, _⟩ := open_bool Tryf.underlying4 (hval 3 4 v3 rfl rfl) h3
    obtain ⟨hn0, hu0, S0, hS0⟩ := open_strs hf0
    obtain ⟨hn1, hu1, S1, hS1⟩ := open_strs hf1
    exact law4 a a0 a1 len0 cap0 len1 cap1 S0 S1 r b W hE hn0 hn1 hu0 hu1 hS0 hS1
  clear hA0 hV0 hval0
  refine w0.mono fun e W' ⟨he, bel⟩ => ?_
  subst he
  have e1 : ((OpenSpec.ofChange Rows.fnFailRefusalOutlivesTheEmptyingSpec).at F.told).fn H ([d0, d1, d2, d3] ++ [tok enc (.iface 58 (.pointer (some a)))]) = { results := [.lit (.bool true)], args := [d0, d1, d2, d3], vars := [tok enc (.iface 58 (.pointer (some a)))] } := rfl
  refine ⟨_, rfl, _, _, _, [], p0 ++ (p1 ++ (p2 ++ p3)), [.cell 0 0], hW', ?_, ?_, ?_, bel.frame _, fun h => by cases h⟩
  · rw [e1]; exact trodAll_mk1 (shut_bool Tryf.underlying4 _)
  · rw [e1]; exact trodAll_mk4 (Below.trod Tryf.laidOut (by kernel_rfl) (of_decide_eq_true (by kernel_rfl)) k0 bel lt0) (Below.trod Tryf.laidOut (by kernel_rfl) (of_decide_eq_true (by kernel_rfl)) k1 bel lt1) (Below.trod Tryf.laidOut (by kernel_rfl) (of_decide_eq_true (by kernel_rfl)) k2 bel lt2) (Below.trod Tryf.laidOut (by kernel_rfl) (of_decide_eq_true (by kernel_rfl)) k3 bel lt3)
  · rw [e1]; exact vars_read1 enc gE gT Tryf.underlying36 (var?_below bel gE hz hva) trivial _

theorem Tryf.stopKnobs : Tryf.pinned.checked.prog.stopKnobs = [] := by kernel_rfl
theorem Tryf.quiet (os : Os) : Stop.quiet Tryf.pinned.checked.prog os := by
  intro k hk
  rw [Tryf.stopKnobs] at hk
  cases hk

set_option maxRecDepth 100000 in
theorem card4 : Rows.FnFailRefusalOutlivesTheEmptyingToldSaid :=
  Claim7.holds_of_told_tied_any_at .later 4 Tryf.f4 _ _ [] _ _ _ _ _ (by kernel_rfl) rfl rfl rfl (by kernel_rfl) (by kernel_rfl) rfl ⟨rfl, rfl, rfl, rfl, rfl, rfl, rfl⟩ rfl rfl (by kernel_rfl) (by kernel_rfl) Tryf.func4 (by kernel_rfl)
    (of_decide_eq_true (by kernel_rfl)) (by unfold Func.isWrapper; first | (rw [if_pos (by decide +kernel)]; kernel_rfl) | (rw [if_neg (by decide +kernel)]; exact ⟨rfl, rfl⟩)) (by kernel_rfl) rfl Tryf.stopKnobs.symm (by kernel_rfl)
    (by kernel_rfl) (by kernel_rfl) (by kernel_rfl) (by kernel_rfl) (by kernel_rfl) (by kernel_rfl) (by kernel_rfl) (by kernel_rfl) (by kernel_rfl) rfl (by kernel_rfl) rfl rfl
    rfl rfl
    rfl (by kernel_rfl) (by kernel_rfl) (by kernel_rfl) (by decide) (by kernel_rfl) fnFailRefusalOutlivesTheEmptying_row_tie
    (OpenClaim.moreEntering_of (by kernel_rfl) (by kernel_rfl) (by kernel_rfl) (by kernel_rfl) (by kernel_rfl) (by kernel_rfl) (by kernel_rfl) (by kernel_rfl) (by kernel_rfl) (by kernel_rfl))
    ⟨_, WideRow.started_initial, Tryf.quiet _⟩
    (fun os started _ H enc _ => lifted4 os started H enc)

end Go.Proofs.Qxb6605891aFmt
