/-
  sort.Search (44): the closure may draw and make blocks of its own; what lay there before stays.
-/
import Derived.Test.Qxb6605954aLen
namespace Go.Proofs.Qxb6605954a
open Go.RowKit

/-- k is the first place below n where p holds (n where there is none), p being false ahead of it and true from it on. -/
def Found (p : Nat → Bool) (n k : Nat) : Prop := k ≤ n ∧ (∀ t, t < k → p t = false) ∧ (∀ t, k ≤ t → t < n → p t = true)

def SearchAt (w : World) (p : Nat → Bool) (n : Nat) (kx : Nat) (x y : Value) (wr : World) : Prop :=
  ∃ lo hi : Nat, x = .int .i64 lo ∧ y = .int .i64 hi ∧ lo ≤ hi ∧ hi ≤ n ∧ hi - lo ≤ kx ∧ Below w.heap.size w wr ∧ (∀ t, t < lo → p t = false) ∧ (∀ t, hi ≤ t → t < n → p t = true)

set_option maxRecDepth 100000 in
set_option maxHeartbeats 2000000 in
theorem search_any (g : Nat) (cb : Array Value) (n : Nat) (p : Nat → Bool) (w : World) (eg : ∀ args w, (callFunc g args).run Try.prog w = .ok (.enter g args) w) (hsz : n < 4611686018427387904)
    (hf : ∀ (w' : World) (i : Nat), Below w.heap.size w w' → i < n → Calls Try.prog g (#[.int .i64 i] ++ cb) w' fun e w'' => e = .returned (.bool (p i)) ∧ Below w.heap.size w w'')
    (hmono : ∀ a b, a ≤ b → b < n → p a = true → p b = true) :
    Calls Try.prog 44 #[.int .i64 n, .func (.func g) #[] cb] w fun e w' => (∃ k : Nat, e = .returned (.int .i64 k) ∧ Found p n k) ∧ Below w.heap.size w w' := by
  have HF := show Hid _ from hf
  have M := show Hid _ from hmono
  clear hf hmono
  go_enter Try.func44, Try.ntmps44
  go_wp2
  go_loopg [5, 6] n (SearchAt w p n)
  case atStart => exact ⟨0, n, rfl, rfl, Nat.zero_le _, Nat.le_refl _, by omega, Below.refl _ _, fun t ht => absurd ht (Nat.not_lt_zero _), fun t h1 h2 => by omega⟩
  case round =>
    obtain ⟨lo, hi, rfl, rfl, hlh, hin, hg, hb, I⟩ := hrel
    have HI := show Hid _ from I
    clear I
    by_cases hlt : lo < hi
    · have hc := HF.out wr ((lo + hi) / 2) hb (by omega)
      rw [show (((lo + hi) / 2 : Nat) : Int) = ((lo : Int) + (hi : Int)) / 2 by omega] at hc
      cases hp : p ((lo + hi) / 2) <;> rw [hp] at hc
      · have HP := show Hid (p ((lo + hi) / 2) = false) from hp
        clear hp
        go_wp2_with (go_at_fn g; refine hc.mono ?_; rintro e w' ⟨rfl, hb2⟩)
        go_roundg (hi - ((lo + hi) / 2 + 1))
        case measure => omega
        case rel =>
          refine ⟨(lo + hi) / 2 + 1, hi, by rw [show ((lo : Int) + (hi : Int)) / 2 + 1 = (((lo + hi) / 2 + 1 : Nat) : Int) by omega], rfl, by omega, hin, Nat.le_refl _, hb2, fun t ht => ?_, HI.out.2⟩
          cases h : p t with
          | false => rfl
          | true => have := M.out t ((lo + hi) / 2) (by omega) (by omega) h; rw [HP.out] at this; cases this
      · have HP := show Hid (p ((lo + hi) / 2) = true) from hp
        clear hp
        go_wp2_with (go_at_fn g; refine hc.mono ?_; rintro e w' ⟨rfl, hb2⟩)
        go_roundg ((lo + hi) / 2 - lo)
        case measure => omega
        case rel =>
          exact ⟨lo, (lo + hi) / 2, rfl, by rw [show ((lo : Int) + (hi : Int)) / 2 = (((lo + hi) / 2 : Nat) : Int) by omega], by omega, by omega, Nat.le_refl _, hb2, HI.out.1, fun t ht htn => M.out ((lo + hi) / 2) t ht htn HP.out⟩
    · obtain rfl : hi = lo := by omega
      go_wp2
      go_ret
      exact ⟨⟨_, rfl, hin, HI.out⟩, hb⟩

end Go.Proofs.Qxb6605954a
