/-
  The numbers under which this program holds sync.Mutex's functions and types; (*sync.Mutex).TryLock (12), (*internal/sync.Mutex).TryLock (16) where the lock is free.
-/
import Derived.Test.Qxb6605891aDoorRows
import Derived.Conc.MuLone
import Derived.WalkKit
import Derived.WalkSpells
import Derived.WalkLawsBesides
import Derived.Laws.EntriesVeiled
import Derived.KernelRfl
namespace Go.Proofs.Qxb6605891aDoor
open Go.RowKit Go.MuLone Go.Conc.Locks

abbrev Tryd.muLink : Go.Conc.Locks.MuLink := { lock := 18, unlock := 13, ilock := 26, iunlock := 17, lockSlow := 29, unlockSlow := 25, disable := 19, enable := 20, acquire := 22, relMerge := 23, cas32 := 21, add32 := 24, tMutex := 36, tIMutex := 34, tPMutex := 61, tPIMutex := 62, tPI32 := 64, tUP := 66, tNoCopy := 31, tU32 := 32 }
theorem Tryd.muLib : Go.Conc.Locks.MuLib Tryd.prog Tryd.muLink :=
  ⟨Tryd.func18, Tryd.func13, Tryd.func26, Tryd.func17, Tryd.func19, Tryd.func20, Tryd.func22, Tryd.func23, Tryd.func21, Tryd.func24, Tryd.underlying34, Tryd.runUnderlying34, Tryd.sizeOf34, Tryd.isAgg34, Tryd.zeroValue34, Tryd.underlying36, Tryd.runUnderlying36, Tryd.sizeOf36, Tryd.isAgg36, Tryd.zeroValue36, Tryd.underlying61, Tryd.runUnderlying61, Tryd.sizeOf61, Tryd.isAgg61, Tryd.zeroValue61, Tryd.underlying62, Tryd.runUnderlying62, Tryd.sizeOf62, Tryd.isAgg62, Tryd.zeroValue62, Tryd.underlying64, Tryd.runUnderlying64, Tryd.sizeOf64, Tryd.isAgg64, Tryd.zeroValue64, Tryd.underlying66, Tryd.runUnderlying66, Tryd.sizeOf66, Tryd.isAgg66, Tryd.zeroValue66, Tryd.underlying31, Tryd.runUnderlying31, Tryd.sizeOf31, Tryd.isAgg31, Tryd.zeroValue31, Tryd.underlying21, Tryd.runUnderlying21, Tryd.sizeOf21, Tryd.isAgg21, Tryd.zeroValue21, (by kernel_rfl)⟩

theorem setCell_back {w : World} {b o : Nat} {u : Value} (v : Value) (h : w.cell? ⟨b, o, none⟩ = some u) : (w.setCell ⟨b, o, none⟩ v).setCell ⟨b, o, none⟩ u = w := by
  obtain ⟨heap, tape, drawn, os, output⟩ := w
  simp only [World.setCell]
  congr 1
  apply Array.ext_getElem?
  intro i
  simp only [Array.getElem?_modify]
  by_cases e : b = i
  · subst e
    simp only [if_true]
    simp only [World.cell?] at h
    split at h
    · rename_i c e fr hb
      simp at h
      simp only [hb, Option.map_some]
      congr 2
      simp
      apply Array.ext_getElem?
      intro j
      simp only [Array.getElem?_setIfInBounds]
      split
      · rename_i ej
        subst ej
        split <;> simp_all
      · rfl
    · cases h
  · simp [e]

set_option maxHeartbeats 1000000 in
theorem itry_free (a : Addr) (w : World) (hc : w.cell? a = some (.int .i32 0)) (hz : w.frozen? a = false) :
    Calls Tryd.prog 16 #[.pointer (some a)] w fun e w' => e = .returned (.bool true) ∧ w' = w.setCell a (.int .i32 1) := by
  have hd : ∀ w, (callFunc 19 #[]).run Tryd.prog w = .ok (.value (.tuple #[])) w := disable Tryd.muLib
  have he : ∀ w, (callFunc 20 #[]).run Tryd.prog w = .ok (.value (.tuple #[])) w := enable Tryd.muLib
  have hr : ∀ a w, (callFunc 22 #[.pointer (some a)]).run Tryd.prog w = .ok (.value (.tuple #[])) w := acquire Tryd.muLib
  have hc1 := World.cell?_setCell_same w a (.int .i32 1) hc
  have hcv := run_convert_to_unsafe (P := Tryd.prog) (src := 62) (dst := 66) Tryd.underlying62 Tryd.underlying66 (by kernel_rfl) hc1
  have hcas := run_call_cas_hit (P := Tryd.prog) Tryd.func21 (by kernel_rfl) (by kernel_rfl) (by kernel_rfl) .i32 (by kernel_rfl) (y := 1) hc hz
  go_enter Tryd.func16, Tryd.ntmps16
  go_wp2
  go_ret
  exact ⟨rfl, rfl⟩

theorem try_free (a : Addr) (w : World) (hc : w.cell? a = some (.int .i32 0)) (hz : w.frozen? a = false) :
    Calls Tryd.prog 12 #[.pointer (some a)] w fun e w' => e = .returned (.bool true) ∧ w' = w.setCell a (.int .i32 1) := by
  go_enter Tryd.func12, Tryd.ntmps12
  go_wp2_with (go_at_call 16; refine (itry_free a _ hc hz).mono ?_; rintro e w1 ⟨rfl, rfl⟩)
  go_ret
  exact ⟨rfl, rfl⟩

end Go.Proofs.Qxb6605891aDoor
