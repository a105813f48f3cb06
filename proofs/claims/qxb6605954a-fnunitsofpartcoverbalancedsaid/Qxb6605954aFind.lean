/-
  The two searches of unitsOfPart.
-/
import Derived.Test.Qxb6605954aSpans
namespace Go.Proofs.Qxb6605954a
open Go.RowKit

theorem enters45 : ∀ args w, (callFunc 45 args).run Try.prog w = .ok (.enter 45 args) w := fun args w => by
  simp [callFunc, Try.func45, Try.f45]
theorem enters46 : ∀ args w, (callFunc 46 args).run Try.prog w = .ok (.enter 46 args) w := fun args w => by
  simp [callFunc, Try.func46, Try.f46]

theorem findLo (bV bB bF bC bP bT : Nat) (p d : Int) (ch ru we B K M T : Nat) (w : World) (h : Env w bB bF bC bP bT p d ch ru we B K M T) (hn : Nums ch ru we B K M T)
    (hv : w.cell? ⟨bV, 0, none⟩ = some (.func (.func 40) #[] #[.pointer (some ⟨bB, 0, none⟩), .pointer (some ⟨bF, 0, none⟩), .pointer (some ⟨bC, 0, none⟩), .pointer (some ⟨bP, 0, none⟩), .pointer (some ⟨bT, 0, none⟩)])) :
    Calls Try.prog 44 #[.int .i64 (cnt ch ru : Nat), .func (.func 45) #[] #[.pointer (some ⟨bV, 0, none⟩), .pointer (some ⟨bP, 0, none⟩)]] w fun e w' => (∃ k : Nat, e = .returned (.int .i64 k) ∧ Found (fun j => decide (K ≤ partN ch ru we B M T j + 1)) (cnt ch ru) k) ∧ Below w.heap.size w w' := by
  refine search_any 45 _ (cnt ch ru) _ w enters45 (by have := hn.n; omega) (fun w' i hb hi => ?_) (fun a b hab _ ha => ?_)
  · exact (from_any bV bB bF bC bP bT p d ch ru we B K M T i w' (h.below hb) hn hi ((hb.cell (World.block_lt_of_cell? _ _ hv)).trans hv)).mono fun e w'' ⟨he, hb2⟩ => ⟨he, hb.trans (hb2.mono hb.size)⟩
  · have := partN_mono (ch := ch) (ru := ru) (we := we) (B := B) (M := M) (T := T) hab
    simp only [decide_eq_true_eq] at ha ⊢
    omega

theorem findHi (bV bB bF bC bP bT : Nat) (p d : Int) (ch ru we B K M T : Nat) (w : World) (h : Env w bB bF bC bP bT p d ch ru we B K M T) (hn : Nums ch ru we B K M T)
    (hv : w.cell? ⟨bV, 0, none⟩ = some (.func (.func 40) #[] #[.pointer (some ⟨bB, 0, none⟩), .pointer (some ⟨bF, 0, none⟩), .pointer (some ⟨bC, 0, none⟩), .pointer (some ⟨bP, 0, none⟩), .pointer (some ⟨bT, 0, none⟩)])) :
    Calls Try.prog 44 #[.int .i64 (cnt ch ru : Nat), .func (.func 46) #[] #[.pointer (some ⟨bV, 0, none⟩), .pointer (some ⟨bP, 0, none⟩)]] w fun e w' => (∃ k : Nat, e = .returned (.int .i64 k) ∧ Found (fun j => decide (K ≤ partN ch ru we B M T j)) (cnt ch ru) k) ∧ Below w.heap.size w w' := by
  refine search_any 46 _ (cnt ch ru) _ w enters46 (by have := hn.n; omega) (fun w' i hb hi => ?_) (fun a b hab _ ha => ?_)
  · exact (to_any bV bB bF bC bP bT p d ch ru we B K M T i w' (h.below hb) hn hi ((hb.cell (World.block_lt_of_cell? _ _ hv)).trans hv)).mono fun e w'' ⟨he, hb2⟩ => ⟨he, hb.trans (hb2.mono hb.size)⟩
  · have := partN_mono (ch := ch) (ru := ru) (we := we) (B := B) (M := M) (T := T) hab
    simp only [decide_eq_true_eq] at ha ⊢
    omega

end Go.Proofs.Qxb6605954a
