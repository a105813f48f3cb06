/-
  ZZunlocked (9), whileOpen (14), ZZwhileOpenRan (10), ZZisScopeClosed (11), whileOpenOnce (6), ZZclosed (7), NewScope (8), ZZnewScope (5).
-/
import Derived.Test.Qxb6605891aDoorLocks
import Derived.Defers
import Derived.LaidEql
import Derived.Deep.QuietTactic
import Derived.BigQuiet
namespace Go.Proofs.Qxb6605891aDoor
open Go.RowKit Go.MuLone

/-- A Scope in block g: its lock free, closed or open. -/
structure ScAt (w : World) (g : Nat) (c : Bool) : Prop where
  s0 : w.cell? ⟨g, 0, none⟩ = some (.int .i32 0)
  s2 : w.cell? ⟨g, 2, none⟩ = some (.bool c)
  f0 : w.frozen? ⟨g, 0, none⟩ = false

theorem ScAt.lt {w : World} {g : Nat} {c : Bool} (h : ScAt w g c) : g < w.heap.size := by simpa using World.block_lt_of_cell? w _ h.s0

theorem ScAt.below {w w' : World} {g : Nat} {c : Bool} (h : ScAt w g c) (hb : Below w.heap.size w w') : ScAt w' g c :=
  ⟨(hb.cell (p := ⟨g, 0, none⟩) h.lt).trans h.s0, (hb.cell (p := ⟨g, 2, none⟩) h.lt).trans h.s2, (hb.frozen (p := ⟨g, 0, none⟩) h.lt).trans h.f0⟩

set_option maxHeartbeats 400000 in
theorem unlocked_any (g : Nat) (c : Bool) (w : World) (h : ScAt w g c) :
    Calls Tryd.prog 9 #[.pointer (some ⟨g, 0, none⟩)] w fun e w' => e = .returned (.bool true) ∧ w' = w := by
  obtain ⟨s0, s2, f0⟩ := h
  have hc1 := World.cell?_setCell_same w ⟨g, 0, none⟩ (.int .i32 1) s0
  have hz1 : (w.setCell ⟨g, 0, none⟩ (.int .i32 1)).frozen? ⟨g, 0, none⟩ = false := by rw [World.frozen?_setCell]; exact f0
  go_enter Tryd.func9, Tryd.ntmps9
  go_wp2_with (first | (go_at_call 12; refine (try_free ⟨g, 0, none⟩ _ s0 f0).mono ?_; rintro e w1 ⟨rfl, rfl⟩) | (go_at_call 13; refine (unlock_held Tryd.muLib ⟨g, 0, none⟩ _ hc1 hz1).mono ?_; rintro e w1 ⟨rfl, rfl⟩))
  go_ret
  exact ⟨rfl, setCell_back _ s0⟩

theorem eqE (a : Addr) (w : World) : (binOp .eql 55 (.iface 74 (.pointer (some a))) (.iface 74 (.pointer (some a)))).run Tryd.prog w = .ok (.bool true) w := by
  have h74 : (Tryd.prog.info? 74).map (·.comparable) = some true := by kernel_rfl
  have h99 : (Tryd.prog.info? 99).map (·.comparable) = some true := by kernel_rfl
  obtain ⟨i, hi, hc⟩ := Option.map_eq_some_iff.1 h74
  obtain ⟨j, hj, _⟩ := Option.map_eq_some_iff.1 h99
  exact run_eql_iface_ptr_same w a Tryd.underlying55 Tryd.underlying74 hi hc hj

set_option maxHeartbeats 400000 in
theorem isClosed_nil (w : World) : Calls Tryd.prog 11 #[.nilIface] w fun e w' => e = .returned (.bool false) ∧ w' = w := by
  go_enter Tryd.func11, Tryd.ntmps11
  go_wp2
  go_ret
  exact ⟨rfl, rfl⟩

set_option maxHeartbeats 400000 in
theorem isClosed_E (a : Addr) (w : World) (hE : w.cell? ⟨0, 0, none⟩ = some (.iface 74 (.pointer (some a)))) : Calls Tryd.prog 11 #[.iface 74 (.pointer (some a))] w fun e w' => e = .returned (.bool true) ∧ w' = w := by
  have he := eqE
  go_enter Tryd.func11, Tryd.ntmps11
  go_wp2
  go_ret
  exact ⟨rfl, rfl⟩

theorem closed_any (g : Nat) (c : Bool) (w : World) (h : ScAt w g c) : Calls Tryd.prog 7 #[.pointer (some ⟨g, 0, none⟩)] w fun e w' => e = .returned (.bool c) ∧ w' = w := by
  obtain ⟨s0, s2, f0⟩ := h
  go_enter Tryd.func7, Tryd.ntmps7
  go_wp2
  go_ret
  exact ⟨rfl, rfl⟩

theorem ran_store (b : Nat) (w : World) (h : w.cell? ⟨b, 0, none⟩ = some (.bool false)) (hf : w.frozen? ⟨b, 0, none⟩ = false) :
    Calls Tryd.prog 15 #[.pointer (some ⟨b, 0, none⟩)] w fun e w' => e = .returned (.tuple #[]) ∧ w' = w.setCell ⟨b, 0, none⟩ (.bool true) := by
  go_enter Tryd.func15, Tryd.ntmps15
  go_wp2
  go_end0
  exact ⟨rfl, rfl⟩

set_option maxHeartbeats 1000000 in
theorem whileOpen_closed (a : Addr) (g b : Nat) (w : World) (hE : w.cell? ⟨0, 0, none⟩ = some (.iface 74 (.pointer (some a)))) (hg : g ≠ 0) (h : ScAt w g true) :
    Calls Tryd.prog 14 #[.pointer (some ⟨g, 0, none⟩), .func (.func 15) #[] #[.pointer (some ⟨b, 0, none⟩)]] w fun e w' => e = .returned (.iface 74 (.pointer (some a))) ∧ w' = w := by
  obtain ⟨s0, s2, f0⟩ := h
  have hc1 := World.cell?_setCell_same w ⟨g, 0, none⟩ (.int .i32 1) s0
  have hz1 : (w.setCell ⟨g, 0, none⟩ (.int .i32 1)).frozen? ⟨g, 0, none⟩ = false := by rw [World.frozen?_setCell]; exact f0
  have hc2 := (World.cell?_setCell_other w ⟨g, 0, none⟩ ⟨g, 2, none⟩ (.int .i32 1) (by simp)).trans s2
  have hE1 := (World.cell?_setCell_other w ⟨g, 0, none⟩ ⟨0, 0, none⟩ (.int .i32 1) (fun e => hg (by injection e))).trans hE
  go_enter_defers Tryd.func14, Tryd.ntmps14
  go_wp2_with (go_at_call 18; refine (lock_free Tryd.muLib ⟨g, 0, none⟩ _ s0 f0).mono ?_; rintro e w' ⟨rfl, rfl⟩)
  refine leaves_cons (f := 13) (args := #[.pointer (some ⟨g, 0, none⟩)]) (by simp) (by simp [go_sem]) ?_
  refine (unlock_deferred Tryd.muLib ⟨g, 0, none⟩ .returning _ hc1 hz1).mono ?_
  rintro e u' w'' ⟨rfl, rfl, rfl⟩
  exact ⟨_, results_tmp rfl _ _ _, rfl, setCell_back _ s0⟩

set_option maxHeartbeats 1000000 in
theorem whileOpen_open (g b : Nat) (w : World) (hgb : g ≠ b) (h : ScAt w g false) (hb : w.cell? ⟨b, 0, none⟩ = some (.bool false)) (hf : w.frozen? ⟨b, 0, none⟩ = false) :
    Calls Tryd.prog 14 #[.pointer (some ⟨g, 0, none⟩), .func (.func 15) #[] #[.pointer (some ⟨b, 0, none⟩)]] w fun e w' => e = .returned .nilIface ∧ ScAt w' g false ∧ w'.cell? ⟨b, 0, none⟩ = some (.bool true) ∧ Below (min g b) w w' := by
  obtain ⟨s0, s2, f0⟩ := h
  have hc1 := World.cell?_setCell_same w ⟨g, 0, none⟩ (.int .i32 1) s0
  have hz1 : (w.setCell ⟨g, 0, none⟩ (.int .i32 1)).frozen? ⟨g, 0, none⟩ = false := by rw [World.frozen?_setCell]; exact f0
  have hc2 := (World.cell?_setCell_other w ⟨g, 0, none⟩ ⟨g, 2, none⟩ (.int .i32 1) (by simp)).trans s2
  have hb1 := (World.cell?_setCell_other w ⟨g, 0, none⟩ ⟨b, 0, none⟩ (.int .i32 1) (fun e => hgb (by injection e))).trans hb
  have hf1 : (w.setCell ⟨g, 0, none⟩ (.int .i32 1)).frozen? ⟨b, 0, none⟩ = false := by rw [World.frozen?_setCell]; exact hf
  have hc3 := (World.cell?_setCell_other (w.setCell ⟨g, 0, none⟩ (.int .i32 1)) ⟨b, 0, none⟩ ⟨g, 0, none⟩ (.bool true) (fun e => hgb (by injection e with e1; exact e1.symm))).trans hc1
  have hz3 : ((w.setCell ⟨g, 0, none⟩ (.int .i32 1)).setCell ⟨b, 0, none⟩ (.bool true)).frozen? ⟨g, 0, none⟩ = false := by rw [World.frozen?_setCell]; exact hz1
  go_enter_defers Tryd.func14, Tryd.ntmps14
  go_wp2_with (first | (go_at_call 18; refine (lock_free Tryd.muLib ⟨g, 0, none⟩ _ s0 f0).mono ?_; rintro e w' ⟨rfl, rfl⟩) | (go_at_call 15; refine (ran_store b _ hb1 hf1).mono ?_; rintro e w' ⟨rfl, rfl⟩))
  refine leaves_cons (f := 13) (args := #[.pointer (some ⟨g, 0, none⟩)]) (by simp) (by simp [go_sem]) ?_
  refine (unlock_deferred Tryd.muLib ⟨g, 0, none⟩ .returning _ hc3 hz3).mono ?_
  rintro e u' w'' ⟨rfl, rfl, rfl⟩
  refine ⟨_, results_tmp rfl _ _ _, rfl, ⟨World.cell?_setCell_same _ _ _ hc3, ?_, by simpa using f0⟩, ?_, (((Below.refl (min g b) w).setCell (p := ⟨g, 0, none⟩) (Nat.min_le_left g b) _).setCell (p := ⟨b, 0, none⟩) (Nat.min_le_right g b) _).setCell (p := ⟨g, 0, none⟩) (Nat.min_le_left g b) _⟩
  · rw [World.cell?_setCell_other _ _ _ _ (by simp), World.cell?_setCell_other _ _ _ _ (by simp)]; exact hc2
  · rw [World.cell?_setCell_other _ ⟨g, 0, none⟩ ⟨b, 0, none⟩ _ (fun e => hgb (by injection e))]; exact World.cell?_setCell_same _ _ _ hb1


set_option maxHeartbeats 1000000 in
theorem ran_closed (a : Addr) (g : Nat) (w : World) (hE : w.cell? ⟨0, 0, none⟩ = some (.iface 74 (.pointer (some a)))) (hg : g ≠ 0) (h : ScAt w g true) :
    Calls Tryd.prog 10 #[.pointer (some ⟨g, 0, none⟩)] w fun e w' => e = .returned (.tuple #[.bool false, .iface 74 (.pointer (some a))]) ∧ Below w.heap.size w w' := by
  have hmf : ∀ (fn : Fn) (first cap : Array Value) (w : World), (Instr.makeFunc fn first cap).run Tryd.prog w = .ok (.func fn first cap) w := fun _ _ _ _ => rfl
  have hlt := h.lt
  have hbel : Below w.heap.size w (w.alloc (.cells #[.bool false] 4)) := (Below.refl w.heap.size w).alloc (Nat.le_refl _) _
  have h1 := h.below hbel
  have hE1 := (hbel.cell (p := ⟨0, 0, none⟩) (by simp; omega)).trans hE
  go_enter Tryd.func10, Tryd.ntmps10
  go_wp2_with (go_at_call 14; refine (whileOpen_closed a g w.heap.size _ hE1 hg h1).mono ?_; rintro e w' ⟨rfl, rfl⟩)
  go_ret2
  exact ⟨rfl, hbel⟩

set_option maxHeartbeats 1000000 in
theorem ran_open (g : Nat) (w : World) (h : ScAt w g false) :
    Calls Tryd.prog 10 #[.pointer (some ⟨g, 0, none⟩)] w fun e w' => e = .returned (.tuple #[.bool true, .nilIface]) ∧ ScAt w' g false ∧ Below g w w' := by
  have hmf : ∀ (fn : Fn) (first cap : Array Value) (w : World), (Instr.makeFunc fn first cap).run Tryd.prog w = .ok (.func fn first cap) w := fun _ _ _ _ => rfl
  have hlt := h.lt
  have hbel : Below w.heap.size w (w.alloc (.cells #[.bool false] 4)) := (Below.refl w.heap.size w).alloc (Nat.le_refl _) _
  have h1 := h.below hbel
  go_enter Tryd.func10, Tryd.ntmps10
  go_wp2_with (go_at_call 14; refine (whileOpen_open g w.heap.size _ (by omega) h1 (by simp) (by simp)).mono ?_; rintro e w' ⟨rfl, h2, hc, hb⟩)
  go_ret2
  exact ⟨rfl, h2, (hbel.mono (by omega)).trans (hb.mono (by omega))⟩

theorem results4 {fn : Func} {t u v x : Tmp} (h : fn.results = #[.tmp t, .tmp u, .tmp v, .tmp x]) (tmps : Array Value) (P : Program) (w : World) :
    (results fn tmps).run P w = .ok (.tuple #[tmps.getD t undef, tmps.getD u undef, tmps.getD v undef, tmps.getD x undef]) w := by
  simp [results, h]

theorem ScAt.drew {w : World} {g : Nat} {c : Bool} (h : ScAt w g c) (n : Nat) : ScAt (w.drewN n) g c := h.below (below_drewN (Below.refl _ _) _)

set_option maxHeartbeats 1000000 in
theorem once_closed (a : Addr) (g : Nat) (w : World) (hE : w.cell? ⟨0, 0, none⟩ = some (.iface 74 (.pointer (some a)))) (hg : g ≠ 0) (h : ScAt w g true) :
    Calls Tryd.prog 6 #[.pointer (some ⟨g, 0, none⟩)] w fun e w' => e = .returned (.tuple #[.bool false, .bool false, .bool true, .bool true]) ∧ ScAt w' g true ∧ Below g w w' := by
  have hlt := h.lt
  go_enter Tryd.func6, Tryd.ntmps6
  go_wp2_with (go_at_call 10; refine (ran_closed a g _ hE hg h).mono ?_; rintro e w1 ⟨rfl, hb⟩)
  have h1 := h.below hb
  have hE1 := (hb.cell (p := ⟨0, 0, none⟩) (by simp; omega)).trans hE
  go_quiet (first | (go_at_call 11; exact Calls.quiet_of_same (isClosed_E a _ hE1)) | (go_at_call 9; exact Calls.quiet_of_same (unlocked_any g true _ (h1.drew _))))
  go_wp2
  try simp only [Exit.inBlock, Exit.then]
  refine bodyPost_ret (results4 rfl _ _ _) rfl ?_
  exact ⟨rfl, h1.drew _, below_drewN (hb.mono (by omega)) _⟩

set_option maxHeartbeats 1000000 in
theorem once_open (g : Nat) (w : World) (h : ScAt w g false) :
    Calls Tryd.prog 6 #[.pointer (some ⟨g, 0, none⟩)] w fun e w' => e = .returned (.tuple #[.bool true, .bool true, .bool false, .bool true]) ∧ ScAt w' g false ∧ Below g w w' := by
  have hlt := h.lt
  go_enter Tryd.func6, Tryd.ntmps6
  go_wp2_with (go_at_call 10; refine (ran_open g _ h).mono ?_; rintro e w1 ⟨rfl, h1, hb⟩)
  go_quiet (first | (go_at_call 11; exact Calls.quiet_of_same (isClosed_nil _)) | (go_at_call 9; exact Calls.quiet_of_same (unlocked_any g false _ (h1.drew _))))
  go_wp2
  try simp only [Exit.inBlock, Exit.then]
  refine bodyPost_ret (results4 rfl _ _ _) rfl ?_
  exact ⟨rfl, h1.drew _, below_drewN hb _⟩

theorem once_any (a : Addr) (g : Nat) (c : Bool) (w : World) (hE : w.cell? ⟨0, 0, none⟩ = some (.iface 74 (.pointer (some a)))) (hg : g ≠ 0) (h : ScAt w g c) :
    Calls Tryd.prog 6 #[.pointer (some ⟨g, 0, none⟩)] w fun e w' => e = .returned (.tuple #[.bool (!c), .bool (!c), .bool c, .bool true]) ∧ ScAt w' g c ∧ Below g w w' := by
  cases c
  · exact once_open g w h
  · exact once_closed a g w hE hg h

set_option maxHeartbeats 1000000 in
theorem newScope_any (w : World) :
    Calls Tryd.prog 8 #[] w fun e w' => e = .returned (.pointer (some ⟨w.heap.size, 0, none⟩)) ∧ ScAt w' w.heap.size false ∧ Below w.heap.size w w' := by
  go_enter Tryd.func8, Tryd.ntmps8
  go_wp2
  go_ret
  refine ⟨rfl, ⟨by simp, by simp, by simp⟩, (Below.refl _ _).alloc (Nat.le_refl _) _⟩

set_option maxHeartbeats 1000000 in
theorem zznewScope_any (c : Bool) (w : World) :
    Calls Tryd.prog 5 #[.bool c] w fun e w' => e = .returned (.pointer (some ⟨w.heap.size, 0, none⟩)) ∧ ScAt w' w.heap.size c ∧ Below w.heap.size w w' := by
  go_enter Tryd.func5, Tryd.ntmps5
  go_wp2
  go_ret
  refine ⟨rfl, ⟨by simp, by simp, by simp⟩, (Below.refl _ _).alloc (Nat.le_refl _) _⟩

end Go.Proofs.Qxb6605891aDoor
