/-
  ZZisScopeClosed (15), failOnce (9).
-/
import Derived.Test.Qxb6605891aFmtSmall
import Derived.Deep.QuietTactic
import Derived.BigQuiet
namespace Go.Proofs.Qxb6605891aFmt
open Go.RowKit

theorem eqE (a : Addr) (w : World) : (binOp .eql 36 (.iface 58 (.pointer (some a))) (.iface 58 (.pointer (some a)))).run Tryf.prog w = .ok (.bool true) w := by
  have h58 : (Tryf.prog.info? 58).map (·.comparable) = some true := by kernel_rfl
  have h79 : (Tryf.prog.info? 79).map (·.comparable) = some true := by kernel_rfl
  obtain ⟨i, hi, hc⟩ := Option.map_eq_some_iff.1 h58
  obtain ⟨j, hj, _⟩ := Option.map_eq_some_iff.1 h79
  exact run_eql_iface_ptr_same w a Tryf.underlying36 Tryf.underlying58 hi hc hj

set_option maxHeartbeats 400000 in
theorem isClosed_nil (w : World) : Calls Tryf.prog 15 #[.nilIface] w fun e w' => e = .returned (.bool false) ∧ w' = w := by
  go_enter Tryf.func15, Tryf.ntmps15
  go_wp2
  go_ret
  exact ⟨rfl, rfl⟩

set_option maxHeartbeats 400000 in
theorem isClosed_E (a : Addr) (w : World) (hE : w.cell? ⟨0, 0, none⟩ = some (.iface 58 (.pointer (some a)))) : Calls Tryf.prog 15 #[.iface 58 (.pointer (some a))] w fun e w' => e = .returned (.bool true) ∧ w' = w := by
  have he := eqE
  go_enter Tryf.func15, Tryf.ntmps15
  go_wp2
  go_ret
  exact ⟨rfl, rfl⟩

/-- The refusal that is recorded. -/
def refE (a : Addr) (b : Bool) : Value := if b then .iface 58 (.pointer (some a)) else .nilIface

theorem refE_isErr (a : Addr) (b : Bool) : IsErr 58 (refE a b) := by
  cases b
  · exact Or.inl rfl
  · exact Or.inr ⟨a, rfl⟩

theorem pick_ref (a : Addr) (r b : Bool) : pickE (refE a r) (refE a b) = refE a (r || b) := by
  cases r <;> rfl

set_option maxHeartbeats 1000000 in
theorem failOnce_any (a : Addr) (g : Nat) (u : Option Addr) (n c : Nat) (v : Option Addr) (m d : Nat) (r b : Bool) (w : World) (hE : w.cell? ⟨0, 0, none⟩ = some (.iface 58 (.pointer (some a)))) (hg0 : 0 < g) (hn : n ≤ 1048576) (hc : n ≤ c) (h : RelAt w g u n c v m d (refE a r)) :
    Calls Tryf.prog 9 #[.pointer (some ⟨g, 0, none⟩), .bool b] w fun e w' => e = .returned (.tuple #[.bool (!(r || b)), .bool (r || b)]) ∧ RelAt w' g none 0 0 none 0 0 (refE a r) ∧ Below g w w' ∧ w.heap.size ≤ w'.heap.size := by
  have hlt := h.lt
  cases b
  · have hf := failNil_any g u n c v m d 58 (refE a r) w (refE_isErr a r) hn hc h
    cases r
    · have hf' : Calls Tryf.prog 16 #[.pointer (some ⟨g, 0, none⟩)] w fun e w' => e = .returned .nilIface ∧ RelAt w' g none 0 0 none 0 0 (refE a false) ∧ Below g w w' ∧ w.heap.size ≤ w'.heap.size := hf
      clear hf
      go_enter Tryf.func9, Tryf.ntmps9
      go_wp2_with (go_at_call 16; refine hf'.mono ?_; rintro e w1 ⟨rfl, h1, h2, h3⟩)
      go_quiet ((go_at_call 15; exact Calls.quiet_of_same (isClosed_nil _)))
      go_wp2
      go_ret2
      exact ⟨rfl, h1.below (below_drewN (Below.refl _ _) _), below_drewN h2 _, h3⟩
    · have hf' : Calls Tryf.prog 16 #[.pointer (some ⟨g, 0, none⟩)] w fun e w' => e = .returned (.iface 58 (.pointer (some a))) ∧ RelAt w' g none 0 0 none 0 0 (refE a true) ∧ Below g w w' ∧ w.heap.size ≤ w'.heap.size := hf
      clear hf
      go_enter Tryf.func9, Tryf.ntmps9
      go_wp2_with (go_at_call 16; refine hf'.mono ?_; rintro e w1 ⟨rfl, h1, h2, h3⟩)
      have hE1 := (h2.cell (p := ⟨0, 0, none⟩) hg0).trans hE
      go_quiet ((go_at_call 15; exact Calls.quiet_of_same (isClosed_E a _ hE1)))
      go_wp2
      go_ret2
      exact ⟨rfl, h1.below (below_drewN (Below.refl _ _) _), below_drewN h2 _, h3⟩
  · have hf := failClosed_any g u n c v m d 58 (refE a r) _ w hE (refE_isErr a r) hn hc h
    have hf' : Calls Tryf.prog 14 #[.pointer (some ⟨g, 0, none⟩)] w fun e w' => e = .returned (.iface 58 (.pointer (some a))) ∧ RelAt w' g none 0 0 none 0 0 (refE a r) ∧ Below g w w' ∧ w.heap.size ≤ w'.heap.size := by
      cases r <;> exact hf
    clear hf
    have hrr : (r || true) = true := by simp
    rw [hrr]
    go_enter Tryf.func9, Tryf.ntmps9
    go_wp2_with (go_at_call 14; refine hf'.mono ?_; rintro e w1 ⟨rfl, h1, h2, h3⟩)
    have hE1 := (h2.cell (p := ⟨0, 0, none⟩) hg0).trans hE
    go_quiet ((go_at_call 15; exact Calls.quiet_of_same (isClosed_E a _ hE1)))
    go_wp2
    go_ret2
    exact ⟨rfl, h1.below (below_drewN (Below.refl _ _) _), below_drewN h2 _, h3⟩

end Go.Proofs.Qxb6605891aFmt
