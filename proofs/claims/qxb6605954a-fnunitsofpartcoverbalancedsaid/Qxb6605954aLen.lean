/-
  length (38).
-/
import Derived.Test.Qxb6605954aUnit
namespace Go.Proofs.Qxb6605954a
open Go.RowKit

/-- What the units of a cut weigh together. -/
def len (ch ru we : Nat) : Nat := (cnt ch ru - 1) * wt ch ru we 0 + wt ch ru we (cnt ch ru - 1)

theorem unit_weight (a b c d e : Value) (w : World) : (Instr.field 102 (.agg #[a, b, c, d, e]) 4).run Try.prog w = .ok e w := by
  simp [Instr.field, go_sem, part, asAgg]

set_option maxRecDepth 100000 in
set_option maxHeartbeats 1000000 in
theorem length_any (p d : Int) (ch ru we : Nat) (w : World) (h : CutOk ch ru we) (hn : cnt ch ru ≤ 1048576) :
    Calls Try.prog 38 #[.agg #[.int .i64 p, .int .i64 d, .int .u64 ch, .int .u64 ru, .int .u64 we]] w fun e w' => e = .returned (.int .u64 (len ch ru we : Nat)) ∧ Below w.heap.size w w' := by
  have u0 := fun w => unit_any p d ch ru we 0 w h (cnt_pos ch ru)
  have ul := fun w => unit_any p d ch ru we (cnt ch ru - 1) w h (by have := cnt_pos ch ru; omega)
  have hc := fun w => count_any p d ch ru we w h
  have k0 := wt_le ch ru we 0
  have kl := wt_le ch ru we (cnt ch ru - 1)
  have kp := cnt_pos ch ru
  obtain ⟨l, hl⟩ : ∃ l, l = cnt ch ru - 1 := ⟨_, rfl⟩
  unfold len
  rw [← hl] at ul kl ⊢
  generalize cnt ch ru = N at *
  generalize wt ch ru we 0 = a at *
  generalize wt ch ru we l = b at *
  have hlb : l < 1048576 := by omega
  have el : (N : Int) - 1 = (l : Int) := by omega
  have hpb : l * a ≤ 1048576 * 1099511627776 := Nat.mul_le_mul (by omega) k0
  have em := wrap_mul (a := l) (b := a) (by omega)
  have es : IntKind.u64.wrap (((l * a : Nat) : Int) + (b : Int)) = ((l * a + b : Nat) : Int) := by rw [IntKind.wrap_u64]; omega
  generalize l * a = pr at em es hpb ⊢
  generalize pr + b = su at es ⊢
  clear hl hn kp
  go_enter Try.func38, Try.ntmps38
  go_wp2_with (go_at_call 43; refine (hc _).mono ?_; rintro e w1 ⟨rfl, hb⟩)
  have d0 := (hb.cell (p := ⟨w.heap.size, 0, none⟩) (by simp)).trans (c := some (.int .i64 p)) (by simp)
  have d1 := (hb.cell (p := ⟨w.heap.size, 1, none⟩) (by simp)).trans (c := some (.int .i64 d)) (by simp)
  have d2 := (hb.cell (p := ⟨w.heap.size, 2, none⟩) (by simp)).trans (c := some (.int .u64 ch)) (by simp)
  have d3 := (hb.cell (p := ⟨w.heap.size, 3, none⟩) (by simp)).trans (c := some (.int .u64 ru)) (by simp)
  have d4 := (hb.cell (p := ⟨w.heap.size, 4, none⟩) (by simp)).trans (c := some (.int .u64 we)) (by simp)
  have e0 := cell_wd d0
  have e1 := cell_wd d1
  have e2 := cell_wd d2
  have e3 := cell_wd d3
  have e4 := cell_wd d4
  have hbb := ((Below.refl w.heap.size w).alloc (Nat.le_refl _) _).trans (hb.mono (by simp))
  clear d0 d1 d2 d3 d4 hb
  have hfield := unit_weight
  refine wp_region_wd (by kernel_rfl) (by kernel_rfl) ?_
  quiet_step (fail)
  quiet_step (fail)
  quiet_step (exact calls_wd (u0 _))
  quiet_step (fail)
  quiet_step (fail)
  quiet_step (fail)
  quiet_step (fail)
  quiet_step (exact calls_wd (ul _))
  quiet_step (fail)
  quiet_step (fail)
  quiet_step (fail)
  refine wpQuiet_nil ?_
  rintro w2 ⟨p, rfl⟩
  go_wp2
  go_ret
  exact ⟨rfl, hbb.trans ((below_wd _ _ _).mono hbb.size)⟩

end Go.Proofs.Qxb6605954a
