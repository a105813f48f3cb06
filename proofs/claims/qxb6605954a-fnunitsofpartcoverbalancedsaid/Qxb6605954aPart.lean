/-
  The closures of unitsOfPart (40, 45, 46): the part of unit j.
-/
import Derived.Test.Qxb6605954aSearch
namespace Go.Proofs.Qxb6605954a
open Go.RowKit

theorem wt_le_first (ch ru we j : Nat) : wt ch ru we j ≤ wt ch ru we 0 := by
  unfold wt
  have h : min ru (ch - j * ru) ≤ min ru (ch - 0 * ru) := by omega
  have := Nat.mul_le_mul_right we h
  omega

/-- Twice the middle of unit j of a cut ahead of which the line is B long. -/
def mid (ch ru we B j : Nat) : Nat := 2 * (B + j * wt ch ru we 0) + wt ch ru we j
/-- The part that unit j is of, counted from 0. -/
def partN (ch ru we B M T j : Nat) : Nat := mid ch ru we B j * M / (2 * T)

theorem mid_mono {ch ru we B a b : Nat} (h : a ≤ b) : mid ch ru we B a ≤ mid ch ru we B b := by
  unfold mid
  rcases Nat.lt_or_ge a b with h1 | h1
  · have h2 : (a + 1) * wt ch ru we 0 ≤ b * wt ch ru we 0 := Nat.mul_le_mul_right _ h1
    rw [Nat.add_mul, Nat.one_mul] at h2
    have := wt_le_first ch ru we a
    omega
  · obtain rfl : a = b := by omega
    exact Nat.le_refl _

theorem upto_len {ch ru we j : Nat} (h : j < cnt ch ru) : j * wt ch ru we 0 + wt ch ru we j ≤ len ch ru we := by
  unfold len
  rcases Nat.lt_or_ge j (cnt ch ru - 1) with h1 | h1
  · have h2 : (j + 1) * wt ch ru we 0 ≤ (cnt ch ru - 1) * wt ch ru we 0 := Nat.mul_le_mul_right _ h1
    rw [Nat.add_mul, Nat.one_mul] at h2
    have := wt_le_first ch ru we j
    omega
  · obtain rfl : j = cnt ch ru - 1 := by omega
    exact Nat.le_refl _

theorem mid_le {ch ru we B T j : Nat} (h : j < cnt ch ru) (hT : B + len ch ru we ≤ T) : mid ch ru we B j ≤ 2 * T := by
  have := upto_len (we := we) h
  unfold mid
  omega

theorem partN_mono {ch ru we B M T a b : Nat} (h : a ≤ b) : partN ch ru we B M T a ≤ partN ch ru we B M T b :=
  Nat.div_le_div_right (Nat.mul_le_mul_right _ (mid_mono h))

theorem partN_le {ch ru we B M T j : Nat} (h : j < cnt ch ru) (hT : B + len ch ru we ≤ T) : partN ch ru we B M T j ≤ M := by
  unfold partN
  refine Nat.div_le_of_le_mul ?_
  exact Nat.mul_le_mul_right _ (mid_le h hT)

/-- What the closures read. -/
structure Env (w : World) (bB bF bC bP bT : Nat) (p d : Int) (ch ru we B K M T : Nat) : Prop where
  eB : w.cell? ⟨bB, 0, none⟩ = some (.int .u64 B)
  eF : w.cell? ⟨bF, 0, none⟩ = some (.int .u64 (wt ch ru we 0 : Nat))
  c0 : w.cell? ⟨bC, 0, none⟩ = some (.int .i64 p)
  c1 : w.cell? ⟨bC, 1, none⟩ = some (.int .i64 d)
  c2 : w.cell? ⟨bC, 2, none⟩ = some (.int .u64 ch)
  c3 : w.cell? ⟨bC, 3, none⟩ = some (.int .u64 ru)
  c4 : w.cell? ⟨bC, 4, none⟩ = some (.int .u64 we)
  p0 : w.cell? ⟨bP, 0, none⟩ = some (.int .i64 K)
  p1 : w.cell? ⟨bP, 1, none⟩ = some (.int .i64 M)
  eT : w.cell? ⟨bT, 0, none⟩ = some (.int .u64 T)

theorem Env.below {w w' : World} {bB bF bC bP bT : Nat} {p d : Int} {ch ru we B K M T : Nat} (h : Env w bB bF bC bP bT p d ch ru we B K M T) (hb : Below w.heap.size w w') : Env w' bB bF bC bP bT p d ch ru we B K M T :=
  ⟨(hb.cell (World.block_lt_of_cell? _ _ h.eB)).trans h.eB, (hb.cell (World.block_lt_of_cell? _ _ h.eF)).trans h.eF, (hb.cell (World.block_lt_of_cell? _ _ h.c0)).trans h.c0, (hb.cell (World.block_lt_of_cell? _ _ h.c1)).trans h.c1,
    (hb.cell (World.block_lt_of_cell? _ _ h.c2)).trans h.c2, (hb.cell (World.block_lt_of_cell? _ _ h.c3)).trans h.c3, (hb.cell (World.block_lt_of_cell? _ _ h.c4)).trans h.c4, (hb.cell (World.block_lt_of_cell? _ _ h.p0)).trans h.p0,
    (hb.cell (World.block_lt_of_cell? _ _ h.p1)).trans h.p1, (hb.cell (World.block_lt_of_cell? _ _ h.eT)).trans h.eT⟩

/-- The numbers of one call of unitsOfPart, at one cut. -/
structure Nums (ch ru we B K M T : Nat) : Prop where
  ok : CutOk ch ru we
  n : cnt ch ru ≤ 1048576
  fits : B + len ch ru we ≤ T
  t0 : 0 < T
  t1 : T ≤ 2305843009213693952
  k0 : 1 ≤ K
  km : K ≤ M
  m1 : M < 9223372036854775808

set_option maxRecDepth 100000 in
set_option maxHeartbeats 2000000 in
theorem partOf_any (bB bF bC bP bT : Nat) (p d : Int) (ch ru we B K M T j : Nat) (w : World) (h : Env w bB bF bC bP bT p d ch ru we B K M T) (hn : Nums ch ru we B K M T) (hj : j < cnt ch ru) :
    Calls Try.prog 40 #[.int .i64 j, .pointer (some ⟨bB, 0, none⟩), .pointer (some ⟨bF, 0, none⟩), .pointer (some ⟨bC, 0, none⟩), .pointer (some ⟨bP, 0, none⟩), .pointer (some ⟨bT, 0, none⟩)] w fun e w' => e = .returned (.int .i64 (partN ch ru we B M T j : Nat)) ∧ Below w.heap.size w w' := by
  have hmid := mid_le (we := we) hj hn.fits
  have hq := partN_le (M := M) (we := we) hj hn.fits
  have hu := fun w => unit_any p d ch ru we j w hn.ok hj
  have kf := wt_le ch ru we 0
  have kw := wt_le ch ru we j
  have hB := hn.fits
  have hjc : j < 1048576 := Nat.lt_of_lt_of_le hj hn.n
  obtain ⟨ok, n, fits, t0, t1, k0, km, m1⟩ := hn
  obtain ⟨eB, eF, c0, c1, c2, c3, c4, p0, p1, eT⟩ := h
  have ed : mid ch ru we B j = 2 * (B + j * wt ch ru we 0) + wt ch ru we j := rfl
  have eq : partN ch ru we B M T j = mid ch ru we B j * M / (2 * T) := rfl
  have hjf : j * wt ch ru we 0 ≤ 1048576 * 1099511627776 := Nat.mul_le_mul (by omega) kf
  have em := wrap_mul (a := j) (b := wt ch ru we 0) (by omega)
  generalize partN ch ru we B M T j = q at *
  generalize mid ch ru we B j = mi at *
  generalize wt ch ru we 0 = f at *
  generalize wt ch ru we j = wj at *
  generalize j * f = a1 at *
  have ewj := wrap_nat j (by omega)
  have ea : IntKind.u64.wrap ((B : Int) + (a1 : Int)) = ((B + a1 : Nat) : Int) := by rw [IntKind.wrap_u64]; omega
  obtain ⟨a2, ha2⟩ : ∃ a2, a2 = B + a1 := ⟨_, rfl⟩
  rw [← ha2] at ea ed
  have e2 : IntKind.u64.wrap (2 * (a2 : Int)) = ((2 * a2 : Nat) : Int) := by rw [IntKind.wrap_u64]; omega
  obtain ⟨a3, ha3⟩ : ∃ a3, a3 = 2 * a2 := ⟨_, rfl⟩
  rw [← ha3] at e2 ed
  have e3 : IntKind.u64.wrap ((a3 : Int) + (wj : Int)) = (mi : Int) := by rw [IntKind.wrap_u64]; omega
  have hmul := fun w => Try.bits_Mul64 mi M (by omega) (by omega) w
  obtain ⟨T2, hT2⟩ : ∃ T2, T2 = 2 * T := ⟨_, rfl⟩
  have eT2 : 2 * (T : Int) = (T2 : Int) := by omega
  rw [← hT2] at eq hmid
  have hlt : mi * M / 18446744073709551616 < T2 := by
    have h1 : mi * M ≤ T2 * 9223372036854775808 := Nat.mul_le_mul hmid (by omega)
    rw [Nat.div_lt_iff_lt_mul (by omega)]
    omega
  have hdiv := fun w => div64_any (mi * M / 18446744073709551616) (mi * M % 18446744073709551616) T2 w hlt (Nat.mod_lt _ (by omega)) (by omega)
  rw [show mi * M / 18446744073709551616 * 18446744073709551616 + mi * M % 18446744073709551616 = mi * M by omega, ← eq] at hdiv
  generalize mi * M / 18446744073709551616 = hi at hmul hdiv
  generalize mi * M % 18446744073709551616 = lo at hmul hdiv
  have hqb : q < 9223372036854775808 := by omega
  have hT2b : T2 ≤ 4611686018427387904 := by omega
  have f0 := cell_wd eB
  have f1 := cell_wd eF
  have f2 := cell_wd c0
  have f3 := cell_wd c1
  have f4 := cell_wd c2
  have f5 := cell_wd c3
  have f6 := cell_wd c4
  have f7 := cell_wd p1
  have f8 := cell_wd eT
  have hfield := unit_weight
  clear ha2 ha3 hT2 ed eq hmid hq hjf
  go_enter Try.func40, Try.ntmps40
  go_wp2
  refine wp_region_wd (by kernel_rfl) (by kernel_rfl) ?_
  iterate 10 quiet_step (fail)
  quiet_step (exact calls_wd (hu _))
  iterate 3 quiet_step (fail)
  refine wpQuiet_nil ?_
  rintro w2 ⟨p, rfl⟩
  go_wp2_with (first | (go_at_call 41; refine (hmul _).mono ?_; rintro e w' ⟨rfl, rfl⟩) | (go_at_call 42; refine (hdiv _).mono ?_; rintro e w' ⟨⟨r, rfl⟩, hb⟩))
  go_ret
  exact ⟨rfl, (below_wd _ _ _).trans (hb.mono (below_wd _ _ _).size)⟩

/-- The function value that the closures hold. -/
def partFn (bB bF bC bP bT : Nat) : Value := .func (.func 40) #[] #[.pointer (some ⟨bB, 0, none⟩), .pointer (some ⟨bF, 0, none⟩), .pointer (some ⟨bC, 0, none⟩), .pointer (some ⟨bP, 0, none⟩), .pointer (some ⟨bT, 0, none⟩)]

set_option maxRecDepth 100000 in
set_option maxHeartbeats 2000000 in
theorem from_any (bV bB bF bC bP bT : Nat) (p d : Int) (ch ru we B K M T j : Nat) (w : World) (h : Env w bB bF bC bP bT p d ch ru we B K M T) (hn : Nums ch ru we B K M T) (hj : j < cnt ch ru)
    (hv : w.cell? ⟨bV, 0, none⟩ = some (.func (.func 40) #[] #[.pointer (some ⟨bB, 0, none⟩), .pointer (some ⟨bF, 0, none⟩), .pointer (some ⟨bC, 0, none⟩), .pointer (some ⟨bP, 0, none⟩), .pointer (some ⟨bT, 0, none⟩)])) :
    Calls Try.prog 45 #[.int .i64 j, .pointer (some ⟨bV, 0, none⟩), .pointer (some ⟨bP, 0, none⟩)] w fun e w' => e = .returned (.bool (decide (K ≤ partN ch ru we B M T j + 1))) ∧ Below w.heap.size w w' := by
  have hp := fun n os => partOf_any bB bF bC bP bT p d ch ru we B K M T j (wd w n os) (h.below (below_wd w n os)) hn hj
  have hq := partN_le (M := M) (we := we) hj hn.fits
  have f0 := cell_wd hv
  have f1 := cell_wd h.p0
  obtain ⟨ok, n, fits, t0, t1, k0, km, m1⟩ := hn
  generalize partN ch ru we B M T j = q at *
  have eK : IntKind.i64.wrap ((K : Int) - 1) = (K : Int) - 1 := by rw [IntKind.wrap_i64]; omega
  have eD : decide (K ≤ q + 1) = decide ((K : Int) - 1 ≤ (q : Int)) := decide_eq_decide.2 ⟨fun h => by omega, fun h => by omega⟩
  rw [eD]
  clear eD
  go_enter Try.func45, Try.ntmps45
  go_wp2
  refine wp_region_wd (by kernel_rfl) (by kernel_rfl) ?_
  iterate 2 quiet_step (fail)
  quiet_step (exact calls_wd (hp _ _))
  iterate 5 quiet_step (fail)
  refine wpQuiet_nil ?_
  rintro w2 ⟨p, rfl⟩
  go_wp2
  go_ret
  exact ⟨rfl, below_wd _ _ _⟩

set_option maxRecDepth 100000 in
set_option maxHeartbeats 2000000 in
theorem to_any (bV bB bF bC bP bT : Nat) (p d : Int) (ch ru we B K M T j : Nat) (w : World) (h : Env w bB bF bC bP bT p d ch ru we B K M T) (hn : Nums ch ru we B K M T) (hj : j < cnt ch ru)
    (hv : w.cell? ⟨bV, 0, none⟩ = some (.func (.func 40) #[] #[.pointer (some ⟨bB, 0, none⟩), .pointer (some ⟨bF, 0, none⟩), .pointer (some ⟨bC, 0, none⟩), .pointer (some ⟨bP, 0, none⟩), .pointer (some ⟨bT, 0, none⟩)])) :
    Calls Try.prog 46 #[.int .i64 j, .pointer (some ⟨bV, 0, none⟩), .pointer (some ⟨bP, 0, none⟩)] w fun e w' => e = .returned (.bool (decide (K ≤ partN ch ru we B M T j))) ∧ Below w.heap.size w w' := by
  have hp := fun n os => partOf_any bB bF bC bP bT p d ch ru we B K M T j (wd w n os) (h.below (below_wd w n os)) hn hj
  have f0 := cell_wd hv
  have f1 := cell_wd h.p0
  generalize partN ch ru we B M T j = q at *
  go_enter Try.func46, Try.ntmps46
  go_wp2
  refine wp_region_wd (by kernel_rfl) (by kernel_rfl) ?_
  iterate 2 quiet_step (fail)
  quiet_step (exact calls_wd (hp _ _))
  iterate 4 quiet_step (fail)
  refine wpQuiet_nil ?_
  rintro w2 ⟨p, rfl⟩
  go_wp2
  go_ret
  exact ⟨rfl, below_wd _ _ _⟩

end Go.Proofs.Qxb6605954a
