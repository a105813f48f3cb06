/-
  unit (39), length (38).
-/
import Derived.Test.Qxb6605954aSmall
import Derived.StillTailTactics
namespace Go.Proofs.Qxb6605954a
open Go.RowKit

set_option maxRecDepth 100000 in
set_option maxHeartbeats 1000000 in
theorem unit_any (p d : Int) (ch ru we j : Nat) (w : World) (h : CutOk ch ru we) (hj : j < cnt ch ru) :
    Calls Try.prog 39 #[.agg #[.int .i64 p, .int .i64 d, .int .u64 ch, .int .u64 ru, .int .u64 we], .int .u64 j] w fun e w' => e = .returned (.agg #[.int .i64 p, .int .i64 d, .int .u64 (j * ru : Nat), .int .u64 (min (j * ru + ru) ch : Nat), .int .u64 (wt ch ru we j : Nat)]) ∧ Below w.heap.size w w' := by
  obtain ⟨c0, c1, r0, r1, w1⟩ := h
  rw [lt_cnt c0 r0] at hj
  have ef := wrap_mul (a := j) (b := ru) (by omega)
  have eW : wt ch ru we j = min (min ru (ch - j * ru) * we) 1099511627776 := rfl
  rw [eW]
  clear eW
  generalize j * ru = f at hj ef ⊢
  obtain ⟨z, hz⟩ : ∃ z, z = min ru (ch - f) := ⟨_, rfl⟩
  obtain ⟨m, hm⟩ : ∃ m, m = min (f + ru) ch := ⟨_, rfl⟩
  have em : min ((f : Int) + (ru : Int)) (ch : Int) = (m : Int) := by omega
  have hfm : f ≤ m ∧ m ≤ 9223372036854775808 := by omega
  have ez : (m : Int) - (f : Int) = (z : Int) := by omega
  have ewz := wrap_nat z (by omega)
  rw [← hz, ← hm]
  have c := fun w => mulWeight_any z we w (by omega) w1
  clear hz hm
  obtain ⟨r, hr⟩ : ∃ r, r = min (z * we) 1099511627776 := ⟨_, rfl⟩
  rw [← hr] at c ⊢
  clear hr
  go_enter Try.func39, Try.ntmps39
  go_wp2
  refine wp_region_still_tail 13 (by kernel_rfl) (by kernel_rfl) ?_
  change wpStill _ _ (World.drew _) (fun a' => wpList _ _ _ _ a' (World.drew _)) _ _
  simp only [List.take_succ_cons, List.take_zero, List.drop_succ_cons, List.drop_zero]
  iterate 11 still_step
  still_call (c _)
  still_step
  refine wpStill_nil ?_
  go_wp2
  exact bodyPost_ret (v := .agg #[.int .i64 p, .int .i64 d, .int .u64 f, .int .u64 m, .int .u64 r]) (by simp [results, Try.results39, go_sem]) rfl ⟨rfl, (((Below.refl _ _).alloc (Nat.le_refl _) _).alloc (by simp) _).drew⟩

/-- Worlds behind w: so many draws, some blocks more. -/
def wd (w : World) (n : Nat) (os : Array Obj) : World := { w with drawn := n, heap := w.heap ++ os }

/-- How far a world is from w. -/
structure Far where
  n : Nat
  os : Array Obj

instance : Inhabited Far := ⟨⟨0, #[]⟩⟩

theorem below_wd (w : World) (n : Nat) (os : Array Obj) : Below w.heap.size w (wd w n os) :=
  ⟨rfl, rfl, rfl, by simp [wd], fun k hk => by simp only [wd]; rw [Array.getElem?_append_left hk]⟩

theorem wd_of_below {w w' : World} (h : Below w.heap.size w w') : ∃ p : Far, w' = wd w p.n p.os := by
  refine ⟨⟨w'.drawn, w'.heap.extract w.heap.size w'.heap.size⟩, ?_⟩
  obtain ⟨heap', tape', drawn', os', output'⟩ := w'
  obtain ⟨h1, h2, h3, h4, h5⟩ := h
  simp only at h1 h2 h3 h4 h5
  simp only [wd, h1, h2, h3]
  congr 1
  apply Array.ext_getElem?
  intro i
  by_cases hi : i < w.heap.size
  · rw [Array.getElem?_append_left hi, h5 i hi]
  · rw [Array.getElem?_append_right (by omega), Array.getElem?_extract]
    by_cases h6 : i < heap'.size
    · rw [if_pos (by omega)]
      congr 1
      omega
    · rw [if_neg (by omega), Array.getElem?_eq_none (by omega)]

theorem cell_wd {w : World} {a : Addr} {v : Value} (h : w.cell? a = some v) (n : Nat) (os : Array Obj) : (wd w n os).cell? a = some v :=
  ((below_wd w n os).cell (World.block_lt_of_cell? _ _ h)).trans h

theorem wp_region_wd {P : Program} {id : Nat} {Q : Exit → Act → World → Prop} {a : Act} {w : World} {l : List Oper} (hm : P.follows .mixedOrders = true) (hB : Region.lexB .any l.toArray = true)
    (h : wpQuiet P l.toArray (fun w' => ∃ p : Far, w' = wd w p.n p.os) (fun a' => ∀ w', (∃ p : Far, w' = wd w p.n p.os) → Q .normal a' w') l a) : (Code.region id l.toArray true).wp P Q a w :=
  wp_region_quiet (C := fun w' => ∃ p : Far, w' = wd w p.n p.os) hm hB ⟨⟨w.drawn + 1, #[]⟩, by simp [wd]⟩ (by simpa using h)

/-- A callee's contract, met in such a world. -/
theorem calls_wd {P : Program} {f : FuncId} {args : Array Value} {w : World} {n : Nat} {os : Array Obj} {v : Value}
    (h : Calls P f args (wd w n os) fun e w' => e = .returned v ∧ Below (wd w n os).heap.size (wd w n os) w') : Calls P f args (wd w n os) fun e w'' => e = .returned v ∧ ∃ p : Far, w'' = wd w p.n p.os :=
  h.mono fun _ _ ⟨he, hb⟩ => ⟨he, wd_of_below ((below_wd w n os).trans (hb.mono (below_wd w n os).size))⟩

end Go.Proofs.Qxb6605954a
