/-
  THE TWO TIED CARDS, PROVED: the row's statement, then the card by the builder; what ErrScopeClosed holds is tied to the program's text by the given tie.
-/
import Derived.Test.Qxb6605891aDoorLaws
import Derived.Test.Qxb6605891aDoorTie
import Derived.Test.Qxb6605891aDoorCards
import Derived.ProofKit
import Derived.OpenShut
import Derived.ChangeOld
import Derived.LaidMore
import Derived.Stop.Joined
import Derived.Stop.LaidErr
import Derived.Deep.DeepWitnessRef
import Derived.Deep.Slices
import Derived.WalkSmall
import Derived.SevenTiedAt
namespace Go.Proofs.Qxb6605891aDoor
open Go.ChangeShapes Go.WideShapes Go.ChangeAt Go.RowKit

theorem Tryd.own : ownKnob Tryd.prog.godebug = none := by kernel_rfl
theorem Tryd.laidOut : laidOutB Tryd.prog = true := by kernel_rfl

/-- The name of the one listed variable. -/
def gName : String := Rows.fnWhileOpenRunsExactlyWhenOpenSpec.vars.headD ""
theorem gE : Tryd.prog.globalNamed gName = some 0 := by kernel_rfl
theorem gT : (Tryd.prog.globals[0]?).map (·.type) = some 55 := by kernel_rfl

/-- What is listed of it. -/
def laid1 : List (String × DataW Unit) := [(gName, Rows.laid_example_com_usnea_usnea_ErrScopeClosed)]

/-- The dynamic type's name, as the listed datum has it. -/
def nameOf {H : Type} : DataW H → String
  | .iface nm _ => nm
  | _ => ""

theorem row74 (u : TypeId) (h : Tryd.prog.typeName? 3 u = some (nameOf (Rows.laid_example_com_usnea_usnea_ErrScopeClosed (H := Unit)))) : u = 74 := by
  have e : nameOf (Rows.laid_example_com_usnea_usnea_ErrScopeClosed (H := Unit)) = String.ofList [Char.ofNat 42] ++ "errors.errorString" := by decide
  have hr : ((List.range Tryd.prog.types.size).all fun u => Tryd.prog.typeName? 3 u != some (nameOf (Rows.laid_example_com_usnea_usnea_ErrScopeClosed (H := Unit))) || u == 74) = true := by kernel_rfl
  rw [e] at h hr
  exact typeName_ptr_named (nm := "errors.errorString") hr (by kernel_rfl) (by decide) u h

/-- From the listed datum to the variable's cell. -/
theorem of_laid {W : World} (h : laidMetH Tryd.prog laid1 W) : ∃ a : Addr, W.var? Tryd.prog gName = some #[.iface 74 (.pointer (some a))] ∧ W.cell? ⟨0, 0, none⟩ = some (.iface 74 (.pointer (some a))) := by
  rw [MakeChecks.laidMetH_plain _ _ _ (by kernel_rfl)] at h
  obtain ⟨a, s, hv, _, _, _⟩ := laid_sentinel h gE gT Tryd.underlying55 row74 Tryd.underlying74 Tryd.underlying99 rfl rfl Tryd.underlying9 (by kernel_rfl) (by kernel_rfl)
  exact ⟨a, hv, by simpa using World.var?_cell gE hv 0⟩

theorem door_met (os : Os) (args : Array Value) : laidMetH Tryd.prog laid1 ((World.doorLaid Tryd.prog 400 os).forCall (fun _ _ => 0) ⟨#[], args, []⟩).memory :=
  laidMetH_of_parts3 (fuel := 8) (laidMet_of_run' 8 (by kernel_rfl) (by kernel_rfl)) (by kernel_rfl) (by kernel_rfl)

set_option maxRecDepth 100000 in
set_option maxHeartbeats 4000000 in
theorem lifted4 (os : Os) (started : os.Started) (H : Type) (enc : TypeId × Value → H) :
    ReturnsInHanded {} Tryd.checked os 4 .any (fun w args => (Rows.fnWhileOpenNewScopeAcceptsEveryCallSpec.pre enc Tryd.prog Tryd.f4 [] false w args ∧ laidMetH Tryd.prog laid1 w) ∧ sizedMet enc Tryd.prog Tryd.f4 (OpenSpec.ofChange Rows.fnWhileOpenNewScopeAcceptsEveryCallSpec) false w args)
      (Rows.fnWhileOpenNewScopeAcceptsEveryCallSpec.post enc Tryd.prog Tryd.f4 false true false false) := by
  refine returnsInHanded_of_change_and (C := Tryd.checked) (X := fun w _ => laidMetH Tryd.prog laid1 w) (fun _ _ _ hh h => h.of_heap hh) Tryd.own started (by kernel_rfl) Tryd.func4
    (ChangeSpec.witness_shaped (enc := enc) (C := Tryd.checked) (os := os) (X := fun w _ => laidMetH Tryd.prog laid1 w) false (World.doorLaid Tryd.prog 400 os) #[.int .i64 0] 8 rfl (World.shaped_of_RefB (by kernel_rfl) (by kernel_rfl)) (by kernel_rfl) (by kernel_rfl) (by kernel_rfl) (door_met os _)) ?_
  intro W base args ds gs before hval0 hW _ _ hL _
  have hval : ∀ (j : Nat) t v, Tryd.f4.params[j]? = some t → args[j]? = some v → Value.okWide Tryd.prog W .any base t v := hval0
  have hW' := hW
  obtain ⟨p, q, hA0, hV0, rfl, hfz, hnd⟩ := hW
  have hA : DataW.TrodAll enc Tryd.prog W 0 (fun _ => true) true Tryd.f4.params.toList args.toList ds p := hA0
  have hV : DataW.TrodVars enc Tryd.prog W (fun _ => true) [gName] gs q := hV0
  rw [Tryd.params4] at hA hval
  obtain ⟨v0, d0, rfl, rfl, h0⟩ := trodAll_one hA
  obtain ⟨n, rfl, rfl, rfl, _⟩ := open_int Tryd.underlying3 (hval 0 3 v0 rfl rfl) h0
  obtain ⟨a, hva, hE⟩ := of_laid hL
  obtain ⟨rfl, rfl⟩ := hV.unique (vars_read1 enc gE gT Tryd.underlying55 hva trivial _)
  have hz : 0 < W.heap.size := by simpa using World.block_lt_of_cell? W _ hE
  clear hA0 hV0 hval0
  refine (law4 n W).mono fun e W' ⟨he, bel⟩ => ?_
  subst he
  have e1 : Rows.fnWhileOpenNewScopeAcceptsEveryCallSpec.fn H ([.lit (.int .i64 n)] ++ [tok enc (.iface 74 (.pointer (some a)))]) = { results := [.lit (.bool true)], args := [.lit (.int .i64 n)], vars := [tok enc (.iface 74 (.pointer (some a)))] } := rfl
  refine ⟨_, rfl, _, _, _, [], [], [.cell 0 0], hW', ?_, ?_, ?_, bel.frame _, fun h => by cases h⟩
  · rw [e1]; exact trodAll_mk1 (shut_bool Tryd.underlying4 _)
  · rw [e1]; exact trodAll_mk1 (Below.trod Tryd.laidOut (by kernel_rfl) (of_decide_eq_true (by kernel_rfl)) h0 bel (fun _ h => by cases h))
  · rw [e1]; exact vars_read1 enc gE gT Tryd.underlying55 (var?_below bel gE hz hva) trivial _

theorem row4 : Rows.FnWhileOpenNewScopeAcceptsEveryCallSaid :=
  OpenClaim.holds_of_wide 4 Tryd.f4 rfl rfl rfl rfl rfl rfl rfl ⟨rfl, rfl, rfl, rfl, rfl⟩ rfl rfl rfl rfl rfl (by kernel_rfl) Tryd.func4 (by kernel_rfl)
    (of_decide_eq_true (by kernel_rfl)) (by unfold Func.isWrapper; first | (rw [if_pos (by decide +kernel)]; kernel_rfl) | (rw [if_neg (by decide +kernel)]; exact ⟨rfl, rfl⟩))
    (fun os started H enc _ => lifted4 os started H enc)

set_option maxRecDepth 100000 in
theorem card4 : Rows.FnWhileOpenNewScopeAcceptsEveryCallCardSaid :=
  Claim7.holds_tied_plain_at .later [] [.called] true (true, "3ee8206486e96ec649d1274147466258b29edd995b38a61e07e2fd36ab848201") true
    row4 (fun _ h => by cases h) (by kernel_rfl) (fun _ h => by cases h) fnWhileOpenNewScopeAcceptsEveryCall_row_tie rfl ⟨rfl, rfl⟩ (by kernel_rfl) rfl
    (fun f fn hf hfn => by
      obtain rfl : f = 4 := Option.some.inj ((show Tryd.prog.funcNamed Rows.fnWhileOpenNewScopeAcceptsEveryCallRow.func = some 4 by kernel_rfl).symm.trans hf) |>.symm
      obtain rfl : fn = Tryd.f4 := (Option.some.inj (Tryd.func4.symm.trans hfn)).symm
      exact ⟨by kernel_rfl, fun j t ht => by
        rw [Tryd.params4] at ht
        have h3 : t = 3 := by
          rcases j with _ | j
          · simpa using ht.symm
          · simp at ht
        subst h3
        exact (show Tryd.prog.wantsStandIn 3 = false by kernel_rfl)⟩)
    (by kernel_rfl)

end Go.Proofs.Qxb6605891aDoor
