/-
  unitsOfPart (36): first its first loop.
-/
import Derived.Test.Qxb6605954aFind
import Derived.Deep.RegionWith
import Derived.Deep.RegionHeld3
import Derived.Deep.RegionLaw
import Derived.Deep.AppendLies
import Derived.Deep.DrawnRows
import Derived.Deep.DeepCutAuto
namespace Go.Proofs.Qxb6605954a
open Go.RowKit

/-- The first loop: the line's length so far. -/
def TotAt (w : World) (C : Nat → Cu) (n : Nat) (K M : Int) (i : Value) (wr : World) : Prop :=
  ∃ k : Nat, k ≤ n ∧ i = .int .i64 k ∧ wr.cell? ⟨w.heap.size + 1, 0, none⟩ = some (.int .u64 (lineN C k : Nat)) ∧ wr.frozen? ⟨w.heap.size + 1, 0, none⟩ = false ∧ wr.cell? ⟨w.heap.size, 0, none⟩ = some (.int .i64 K) ∧ wr.cell? ⟨w.heap.size, 1, none⟩ = some (.int .i64 M) ∧ Below w.heap.size w wr ∧ w.heap.size + 1 < wr.heap.size

/-- The second loop: the spans so far. -/
def UAt (w wT : World) (C : Nat → Cu) (n K M T : Nat) (s i : Value) (wr : World) : Prop :=
  ∃ (k : Nat) (S : List Sp), k ≤ n ∧ i = .int .i64 k ∧ SpansOf C K M T k S ∧ wr.ownsRow (wT.heap.size + 1) 64 8 s S.length (spanCells S) ∧ wr.cell? ⟨wT.heap.size, 0, none⟩ = some (.int .u64 (lineN C k : Nat)) ∧ wr.frozen? ⟨wT.heap.size, 0, none⟩ = false ∧
    wr.cell? ⟨w.heap.size + 1, 0, none⟩ = some (.int .u64 T) ∧ wr.cell? ⟨w.heap.size, 0, none⟩ = some (.int .i64 K) ∧ wr.cell? ⟨w.heap.size, 1, none⟩ = some (.int .i64 M) ∧ Below w.heap.size w wr ∧ wT.heap.size < wr.heap.size

/-- Behind the 'if': the spans of one cut more. -/
def MidU (w wT wS w1 : World) (C : Nat → Cu) (K M T i : Nat) (x : Cu) (s : Value) (wc : World) : Prop :=
  ∃ S : List Sp, SpansOf C K M T (i + 1) S ∧ wc.ownsRow (wT.heap.size + 1) 64 8 s S.length (spanCells S) ∧ Env wc wT.heap.size w1.heap.size wS.heap.size w.heap.size (w.heap.size + 1) x.p x.d x.ch x.ru x.we (lineN C i) K M T ∧
    wc.frozen? ⟨wT.heap.size, 0, none⟩ = false ∧ Below w.heap.size w wc ∧ wT.heap.size < wc.heap.size

theorem Try.info64 : (Try.prog.info? 64).map (fun i => (i.zero, i.size, i.bytes)) = some (some (.agg #[.int .i64 0, .int .i64 0, .int .u64 0, .int .u64 0, .int .u64 0, .int .u64 0, .int .u64 0, .int .i64 0]), 8, 64) := by kernel_rfl

theorem cell_eight_new (w : World) (x0 x1 x2 x3 x4 x5 x6 x7 : Value) (t : TypeId) : ∀ j u, [x0, x1, x2, x3, x4, x5, x6, x7][j]? = some u → (w.alloc (.cells #[x0, x1, x2, x3, x4, x5, x6, x7] t)).cell? ((⟨w.heap.size, 0, none⟩ : Addr).add j) = some u := by
  intro j u hj
  match j, hj with
  | 0, hj => simp at hj; subst hj; simp [Addr.add]
  | 1, hj => simp at hj; subst hj; simp [Addr.add]
  | 2, hj => simp at hj; subst hj; simp [Addr.add]
  | 3, hj => simp at hj; subst hj; simp [Addr.add]
  | 4, hj => simp at hj; subst hj; simp [Addr.add]
  | 5, hj => simp at hj; subst hj; simp [Addr.add]
  | 6, hj => simp at hj; subst hj; simp [Addr.add]
  | 7, hj => simp at hj; subst hj; simp [Addr.add]

theorem span_one (p d f : Int) (ch ru we a b : Int) : ∀ u ∈ [Value.int .i64 p, .int .i64 d, .int .u64 ch, .int .u64 ru, .int .u64 we, .int .u64 a, .int .u64 b, .int .i64 f], u.oneCell' = true := by
  intro u hu
  simp at hu
  rcases hu with rfl | rfl | rfl | rfl | rfl | rfl | rfl | rfl <;> rfl

/-- How unitsOfPart ends. -/
def UnitsPost (w : World) (C : Nat → Cu) (n K M : Nat) (e : Ending) (w' : World) : Prop :=
  ∃ (S : List Sp) (sv : Value) (base : Nat), e = .returned sv ∧ SpansOf C K M (lineN C n) n S ∧ w.heap.size ≤ base ∧ w'.ownsRow base 64 8 sv S.length (spanCells S) ∧ Below w.heap.size w w'

theorem midU_step {w wT wS w1 w4 w5 w6 : World} {C : Nat → Cu} {K M T i a b2 : Nat} {x : Cu} {S : List Sp} {u8 s : Value} {ob : Obj} (hx : C i = x) (hS : SpansOf C K M T i S) (hFa : Found (fun j => decide (K ≤ partN x.ch x.ru x.we (lineN C i) M T j + 1)) (cnt x.ch x.ru) a)
    (hFb : Found (fun j => decide (K ≤ partN x.ch x.ru x.we (lineN C i) M T j)) (cnt x.ch x.ru) b2) (hab : a < b2) (env : Env w4 wT.heap.size w1.heap.size wS.heap.size w.heap.size (w.heap.size + 1) x.p x.d x.ch x.ru x.we (lineN C i) K M T) (hbz : w4.frozen? ⟨wT.heap.size, 0, none⟩ = false) (hbe : Below w.heap.size w w4) (hsz : wT.heap.size < w4.heap.size)
    (hwT : w.heap.size + 1 < wT.heap.size) (hS1 : wS.heap.size < w1.heap.size) (hnr : ∀ x, wS.heap.size ≤ x → some x ≠ u8.ownBlock) (hown4 : w4.ownsRow (wT.heap.size + 1) 64 8 u8 S.length (spanCells S)) (hb5 : Below w4.drew.heap.size w4.drew w5)
    (hown1 : w6.ownsRow (wT.heap.size + 1) 64 8 s (S.length + 1) (spanCells S ++ [.int .i64 x.p, .int .i64 x.d, .int .u64 x.ch, .int .u64 x.ru, .int .u64 x.we, .int .u64 a, .int .u64 b2, .int .i64 (total S : Nat)])) (hgrow : (w5.alloc ob).grownBy w6 u8.ownBlock) :
    MidU w wT wS w1 C K M T i x s w6 := by
  have hs5 : w4.heap.size ≤ w5.heap.size := hb5.size
  have hnr2 : ∀ y, y ≤ wT.heap.size ∨ wS.heap.size ≤ y → some y ≠ u8.ownBlock := fun y hy => by
    rcases hy with hy | hy
    · intro e
      have := (hown4.lt y e.symm).1
      omega
    · exact hnr y hy
  have hk : ∀ (p : Addr) v, (p.block ≤ wT.heap.size ∨ wS.heap.size ≤ p.block) → w4.cell? p = some v → w6.cell? p = some v := fun p v hp hc => by
    have hl := World.block_lt_of_cell? _ _ hc
    have h1 : w5.cell? p = some v := (hb5.cell (p := p) hl).trans hc
    exact (hgrow.cell_far p (by simp; omega) (hnr2 _ hp)).trans (Lib.cell?_alloc_some (W := w5) ob h1)
  refine ⟨S ++ [⟨x, a, b2, total S⟩], ⟨S, a, b2, hS, ?_, ?_, ?_⟩, ?_, ⟨hk _ _ (Or.inl (Nat.le_refl _)) env.eB, hk _ _ (Or.inr (Nat.le_of_lt hS1)) env.eF, hk _ _ (Or.inr (Nat.le_refl _)) env.c0, hk _ _ (Or.inr (Nat.le_refl _)) env.c1, hk _ _ (Or.inr (Nat.le_refl _)) env.c2, hk _ _ (Or.inr (Nat.le_refl _)) env.c3, hk _ _ (Or.inr (Nat.le_refl _)) env.c4, hk _ _ (Or.inl (by simp; omega)) env.p0, hk _ _ (Or.inl (by simp; omega)) env.p1, hk _ _ (Or.inl (by simp; omega)) env.eT⟩, ?_, ?_, ?_⟩
  · subst hx
    exact hFa
  · subst hx
    exact hFb
  · rw [if_pos hab, hx]
  · rw [spanCells_snoc, List.length_append]
    exact hown1
  · exact (hgrow.frozen_far ⟨wT.heap.size, 0, none⟩ (by simp; omega) (hnr2 _ (Or.inl (Nat.le_refl _)))).trans ((((Below.refl w5.heap.size w5).alloc (Nat.le_refl _) ob).frozen (p := ⟨wT.heap.size, 0, none⟩) (by simp; omega)).trans ((hb5.frozen (p := ⟨wT.heap.size, 0, none⟩) (by simpa using hsz)).trans hbz))
  · exact (((hbe.drew).trans (hb5.mono (by have := hbe.size; simp; omega))).alloc (by have := hbe.size; omega) ob).grown hgrow (by have := hbe.size; simp; omega) (fun j hj => by have := (hown4.lt j hj).1; omega)
  · have := hgrow.size
    simp at this
    omega

set_option maxRecDepth 100000 in
set_option maxHeartbeats 4000000 in
theorem units_any (g : Nat) (u : Option Addr) (n c : Nat) (C : Nat → Cu) (K M : Nat) (w : World) (hg : w.cell? ⟨g, 6, none⟩ = some (.slice u n c)) (hn : n ≤ 65536) (hC : CutsAt w u n C) (hF : Fits C n) (hT : 0 < n → 0 < lineN C n) (hK : 1 ≤ K) (hKM : K ≤ M) (hM : M < 9223372036854775808) :
    Calls Try.prog 36 #[.pointer (some ⟨g, 0, none⟩), .agg #[.int .i64 K, .int .i64 M]] w (UnitsPost w C n K M) := by
  have hgl := World.block_lt_of_cell? _ _ hg
  have hmf : ∀ (fn : Fn) (first cap : Array Value) (w : World), (Instr.makeFunc fn first cap).run Try.prog w = .ok (.func fn first cap) w := fun _ _ _ _ => rfl
  have d0 := fun ob1 ob2 => Lib.cell?_alloc_some (W := w.alloc ob1) ob2 (Lib.cell?_alloc_some (W := w) ob1 hg)
  go_enter Try.func36, Try.ntmps36
  go_wp2
  go_loopw [22] (TotAt w C n K M) (fun i _ => n - (intOf i).toNat)
  case atStart => exact ⟨0, Nat.zero_le _, rfl, by simp [lineN, sumN], by simp, by simp, by simp, ((Below.refl _ _).alloc (Nat.le_refl _) _).alloc (by simp) _, by simp⟩
  case round =>
    obtain ⟨k, hk, rfl, ht, hfz, h0, h1, hb, hsz⟩ := hrel
    by_cases hlt : k < n
    · obtain ⟨b, o, rfl, hbl, hA⟩ := (hC.below hb (Nat.le_refl _)).at hlt
      obtain ⟨wS, rfl⟩ : ∃ x, x = wr := ⟨_, rfl⟩
      have hl := hF.line
      have e1 : lineN C (k + 1) = lineN C k + (C k).len := rfl
      have hlk : lineN C k + (C k).len ≤ 2305843009213693952 := Nat.le_trans (sumN_mono (f := fun i => (C i).len) (show k + 1 ≤ n by omega)) hl
      have hlen := fun w => length_any (C k).p (C k).d (C k).ch (C k).ru (C k).we w (hF.ok k hlt) (Nat.le_trans (n_le_units (C := C) hlt) hF.units)
      have hle : len (C k).ch (C k).ru (C k).we = (C k).len := len_eq (hF.ok k hlt).c0 (hF.ok k hlt).r0
      rw [hle] at hlen
      generalize C k = x at hA e1 hlk hlen
      have E1 := show Hid _ from e1
      clear e1 hle hl
      generalize lineN C k = L at *
      generalize x.len = l at *
      obtain ⟨q0, q1, q2, q3, q4⟩ := hA
      have a0 := fun ob => Lib.cell?_alloc_some (W := wS) ob ht
      have es : IntKind.u64.wrap ((L : Int) + (l : Int)) = ((L + l : Nat) : Int) := by rw [IntKind.wrap_u64]; omega
      obtain ⟨s, hs⟩ : ∃ s, s = L + l := ⟨_, rfl⟩
      rw [← hs] at es E1
      clear hs
      have af : ∀ ob, (wS.alloc ob).frozen? ⟨w.heap.size + 1, 0, none⟩ = false := fun ob => (((Below.refl wS.heap.size wS).alloc (Nat.le_refl _) ob).frozen (p := ⟨w.heap.size + 1, 0, none⟩) hsz).trans hfz
      go_wp2
      go_region_with (go_at_call 38; refine (hlen _).mono ?_; rintro e w1 ⟨rfl, hb1⟩; have z0 := (hb1.cell (p := ⟨w.heap.size + 1, 0, none⟩) (by simp; omega)).trans (a0 _); have z1 := (hb1.frozen (p := ⟨w.heap.size + 1, 0, none⟩) (by simp; omega)).trans (af _))
      all_goals
        have hb2 := (((Below.refl wS.heap.size wS).alloc (Nat.le_refl _) _).drew).trans (hb1.mono (by simp))
        have z2 := (hb2.cell (p := ⟨w.heap.size, 0, none⟩) (by simp; omega)).trans h0
        have z3 := (hb2.cell (p := ⟨w.heap.size, 1, none⟩) (by simp; omega)).trans h1
        have hb3 := hb.trans (hb2.mono hb.size)
        have hs3 := hb2.size
        clear hb1 hb2
        go_wp2
        go_roundw
        case rel => exact ⟨k + 1, by omega, by go_num, by rw [E1.out]; exact World.cell?_setCell_same _ _ _ z0, by simpa using z1, (World.cell?_setCell_other _ _ _ _ (fun e => by injection e with e1; omega)).trans z2, (World.cell?_setCell_other _ _ _ _ (fun e => by injection e with e1; omega)).trans z3, hb3.setCell (by simp) _, by simp; omega⟩
        case measure => simp [intOf]; omega
    · obtain rfl : k = n := by omega
      obtain ⟨wT, rfl⟩ : ∃ x, x = wr := ⟨_, rfl⟩
      have hg1 := fun ob => Lib.cell?_alloc_some (W := wT) ob ((hb.cell (p := ⟨g, 6, none⟩) hgl).trans hg)
      have b1 := fun ob => Lib.cell?_alloc_some (W := wT) ob ht
      have b2 := fun ob => Lib.cell?_alloc_some (W := wT) ob h0
      have b3 := fun ob => Lib.cell?_alloc_some (W := wT) ob h1
      go_wp2
      go_loopw [8, 36] (UAt w wT C k K M (lineN C k)) (fun _ i _ => k - (intOf i).toNat)
      case atStart => exact ⟨0, [], Nat.zero_le _, rfl, rfl, World.ownsRow_nil _ _ _ _, by simp [lineN, sumN], by simp, b1 _, b2 _, b3 _, hb.trans (((Below.refl _ _).alloc (Nat.le_refl _) _).mono hb.size), by simp⟩
      case round =>
        clear hg1 b1 b2 b3 ht hfz h0 h1
        obtain ⟨i, S, hi, rfl, hS, hown, hbf, hbz, ht, h0, h1, hbe, hsz2⟩ := hrel
        by_cases hlt2 : i < k
        · obtain ⟨wS, rfl⟩ : ∃ x, x = wr := ⟨_, rfl⟩
          obtain ⟨b, o, rfl, hbl, hA⟩ := (hC.below hbe (Nat.le_refl _)).at hlt2
          obtain ⟨q0, q1, q2, q3, q4⟩ := hA
          have ok := hF.ok i hlt2
          have hun := fun w => unit_any (C i).p (C i).d (C i).ch (C i).ru (C i).we 0 w ok (cnt_pos _ _)
          have hfield := unit_weight
          have hcn := fun w => count_any (C i).p (C i).d (C i).ch (C i).ru (C i).we w ok
          generalize hx : C i = x at q0 q1 q2 q3 q4 ok hun hcn
          go_wp2_with fail
          refine (hun _).mono ?_
          rintro e w1 ⟨rfl, hb1⟩
          have hb1s : wS.heap.size < w1.heap.size := by have := hb1.size; simp at this; omega
          have hcut : CutAt w1 wS.heap.size 0 x := ⟨(hb1.cell (p := ⟨wS.heap.size, 0, none⟩) (by simp)).trans (by simp), (hb1.cell (p := ⟨wS.heap.size, 1, none⟩) (by simp)).trans (by simp), (hb1.cell (p := ⟨wS.heap.size, 2, none⟩) (by simp)).trans (by simp), (hb1.cell (p := ⟨wS.heap.size, 3, none⟩) (by simp)).trans (by simp), (hb1.cell (p := ⟨wS.heap.size, 4, none⟩) (by simp)).trans (by simp)⟩
          have hbS1 := ((Below.refl wS.heap.size wS).alloc (Nat.le_refl _) _).trans (hb1.mono (by simp))
          obtain ⟨c0, c1, c2, c3, c4⟩ := hcut
          have r0 := fun ob1 ob2 => Lib.cell?_alloc_some (W := w1.alloc ob1) ob2 (Lib.cell?_alloc_some (W := w1) ob1 c0)
          have r1 := fun ob1 ob2 => Lib.cell?_alloc_some (W := w1.alloc ob1) ob2 (Lib.cell?_alloc_some (W := w1) ob1 c1)
          have r2 := fun ob1 ob2 => Lib.cell?_alloc_some (W := w1.alloc ob1) ob2 (Lib.cell?_alloc_some (W := w1) ob1 c2)
          have r3 := fun ob1 ob2 => Lib.cell?_alloc_some (W := w1.alloc ob1) ob2 (Lib.cell?_alloc_some (W := w1) ob1 c3)
          have r4 := fun ob1 ob2 => Lib.cell?_alloc_some (W := w1.alloc ob1) ob2 (Lib.cell?_alloc_some (W := w1) ob1 c4)
          clear hb1
          have hN : cnt x.ch x.ru ≤ 1048576 := by rw [← hx]; exact Nat.le_trans (n_le_units (C := C) hlt2) hF.units
          have nums : Nums x.ch x.ru x.we (lineN C i) K M (lineN C k) := ⟨ok, hN, by
            rw [← hx, len_eq (hF.ok i hlt2).c0 (hF.ok i hlt2).r0]
            exact sumN_mono (f := fun i => (C i).len) (show i + 1 ≤ k by omega), hT (by omega), hF.line, hK, hKM, hM⟩
          go_wp2_with (go_at_call 43; refine (hcn _).mono ?_; rintro e w2 ⟨rfl, hb2⟩)
          have hb12 := (((Below.refl w1.heap.size w1).alloc (Nat.le_refl _) _).alloc (by simp) _).trans (hb2.mono (by simp; omega))
          have env : Env w2 wT.heap.size w1.heap.size wS.heap.size w.heap.size (w.heap.size + 1) x.p x.d x.ch x.ru x.we (lineN C i) K M (lineN C k) := by
            refine ⟨?_, ?_, ?_, ?_, ?_, ?_, ?_, ?_, ?_, ?_⟩
            · exact (hb12.cell (p := ⟨wT.heap.size, 0, none⟩) (by simp; omega)).trans ((hbS1.cell (p := ⟨wT.heap.size, 0, none⟩) (by simp; omega)).trans hbf)
            · exact (hb2.cell (p := ⟨w1.heap.size, 0, none⟩) (by simp; omega)).trans (by simp)
            · exact (hb12.cell (p := ⟨wS.heap.size, 0, none⟩) (by simp; omega)).trans c0
            · exact (hb12.cell (p := ⟨wS.heap.size, 1, none⟩) (by simp; omega)).trans c1
            · exact (hb12.cell (p := ⟨wS.heap.size, 2, none⟩) (by simp; omega)).trans c2
            · exact (hb12.cell (p := ⟨wS.heap.size, 3, none⟩) (by simp; omega)).trans c3
            · exact (hb12.cell (p := ⟨wS.heap.size, 4, none⟩) (by simp; omega)).trans c4
            · exact (hb12.cell (p := ⟨w.heap.size, 0, none⟩) (by simp; omega)).trans ((hbS1.cell (p := ⟨w.heap.size, 0, none⟩) (by simp; omega)).trans h0)
            · exact (hb12.cell (p := ⟨w.heap.size, 1, none⟩) (by simp; omega)).trans ((hbS1.cell (p := ⟨w.heap.size, 1, none⟩) (by simp; omega)).trans h1)
            · exact (hb12.cell (p := ⟨w.heap.size + 1, 0, none⟩) (by simp; omega)).trans ((hbS1.cell (p := ⟨w.heap.size + 1, 0, none⟩) (by simp; omega)).trans ht)
          have hv := (hb2.cell (p := ⟨w1.heap.size + 1, 0, none⟩) (by simp)).trans (c := some (.func (.func 40) #[] #[.pointer (some ⟨wT.heap.size, 0, none⟩), .pointer (some ⟨w1.heap.size, 0, none⟩), .pointer (some ⟨wS.heap.size, 0, none⟩), .pointer (some ⟨w.heap.size, 0, none⟩), .pointer (some ⟨w.heap.size + 1, 0, none⟩)])) (by simp)
          refine (findLo (w1.heap.size + 1) _ _ _ _ _ x.p x.d x.ch x.ru x.we (lineN C i) K M (lineN C k) w2 env nums hv).mono ?_
          rintro e w3 ⟨⟨a, rfl, hFa⟩, hb3⟩
          have env3 := env.below hb3
          have hv3 := (hb3.cell (World.block_lt_of_cell? _ _ hv)).trans hv
          have HFa := show Hid _ from hFa
          clear hFa
          go_wp2_with fail
          refine (findHi (w1.heap.size + 1) _ _ _ _ _ x.p x.d x.ch x.ru x.we (lineN C i) K M (lineN C k) w3 env3 nums hv3).mono ?_
          rintro e w4 ⟨⟨b2, rfl, hFb⟩, hb4⟩
          have env4 := env3.below hb4
          have hb34 := hb3.trans (hb4.mono hb3.size)
          have hbSW := (hbS1.trans (hb12.mono hbS1.size)).trans (hb34.mono (Nat.le_trans hbS1.size hb12.size))
          have hbz4 := (hbSW.frozen (p := ⟨wT.heap.size, 0, none⟩) (by simp; omega)).trans hbz
          have hgWS : wS.grownBy w4 none := ⟨hbSW.os, hbSW.tape, hbSW.output, hbSW.size, fun j hj _ => hbSW.block j hj⟩
          have hown4 := hown.kept hgWS (by cases u8.ownBlock <;> simp)
          have hnr : ∀ x, wS.heap.size ≤ x → some x ≠ u8.ownBlock := fun x hx e => by have := (hown.lt x e.symm).2; omega
          have HFb := show Hid _ from hFb
          have ha1 := HFa.out.1
          have hb1' := HFb.out.1
          have hlenx := fun w => length_any x.p x.d x.ch x.ru x.we w ok hN
          clear hFb hun hcn hown hbf hbz ht h0 h1 r0 r1 r2 r3 r4 c0 c1 c2 c3 c4 hbS1 hb2 hb12 env hv hb3 env3 hv3 hb4 hb34 hgWS q0 q1 q2 q3 q4
          have hbe4 := hbe.trans (hbSW.mono hbe.size)
          have hsz4 : wT.heap.size < w4.heap.size := Nat.lt_of_lt_of_le hsz2 hbSW.size
          go_upto_if 55 with fail
          go_cut [8] (MidU w wT wS w1 C K M (lineN C k) i x)
          case first =>
            by_cases hab : (a : Int) < (b2 : Int)
            · have hB := hS.bound
              have hU : unitsN C i ≤ 1048576 := Nat.le_trans (sumN_mono (f := fun i => (C i).n) (show i ≤ k by omega)) hF.units
              have h47 : Calls Try.prog 47 #[u8] w4.drew fun e w' => e = .returned (.int .i64 (total S : Nat)) ∧ Below w4.drew.heap.size w4.drew w' := by
                rcases hown4.2 with ⟨rfl, h0⟩ | ⟨g2, cap, cur, rfl, _⟩
                · have : S = [] := List.length_eq_zero_iff.1 h0
                  subst this
                  exact shareLen_none none 0 _
                · rcases Nat.eq_zero_or_pos S.length with h | hne
                  · have : S = [] := List.length_eq_zero_iff.1 h
                    subst this
                    exact shareLen_none _ cap _
                  obtain ⟨t, ht⟩ : ∃ t, S.getLast? = some t := by
                    cases hS2 : S.getLast? with
                    | none => rw [List.getLast?_eq_none_iff] at hS2; rw [hS2] at hne; cases hne
                    | some t => exact ⟨t, rfl⟩
                  have hl := hS.last ht
                  have hat := spanCells_at S (S.length - 1) t (by rw [← List.getLast?_eq_getElem?]; exact ht)
                  have hc := shareLen_some g2 0 S.length cap t.c.p t.c.d t.c.ch t.c.ru t.c.we t.a t.b t.f w4.drew hne (by omega) hl.2.1 (by omega) (by omega)
                    (by rw [Nat.zero_add]; exact (hown4.cellAt _ (by omega)).trans hat.1) (by rw [Nat.zero_add]; exact (hown4.cellAt _ (by omega)).trans hat.2.1) (by rw [Nat.zero_add]; exact (hown4.cellAt _ (by omega)).trans hat.2.2.1) (by rw [Nat.zero_add]; exact (hown4.cellAt _ (by omega)).trans hat.2.2.2.1) (by rw [Nat.zero_add]; exact (hown4.cellAt _ (by omega)).trans hat.2.2.2.2.1)
                    (by rw [Nat.zero_add]; exact (hown4.cellAt _ (by omega)).trans hat.2.2.2.2.2.1) (by rw [Nat.zero_add]; exact (hown4.cellAt _ (by omega)).trans hat.2.2.2.2.2.2.1) (by rw [Nat.zero_add]; exact (hown4.cellAt _ (by omega)).trans hat.2.2.2.2.2.2.2)
                  rw [hl.1] at hc
                  exact hc
              have ENV := show Hid _ from env4
              obtain ⟨m0, m1, m2, m3, m4, m5, m6, m7, m8, m9⟩ := env4
              have ewa := wrap_nat a (by omega)
              have ewb := wrap_nat b2 (by omega)
              obtain ⟨i0, hi0, hz0, hz1, hz2⟩ := info_parts Try.info64
              have hSn : S.length ≤ 65536 := by omega
              have hszS : wT.heap.size < wS.heap.size := hsz2
              have hsS4 : wS.heap.size < w4.heap.size := World.block_lt_of_cell? _ _ m2
              clear m0 m1 m7 m8 m9 hB hU
              go_wp2_with fail
              go_region_held3 (fun w' => w'.cell? ⟨wS.heap.size, 0, none⟩ = some (.int .i64 x.p) ∧ w'.cell? ⟨wS.heap.size, 1, none⟩ = some (.int .i64 x.d) ∧ w'.cell? ⟨wS.heap.size, 2, none⟩ = some (.int .u64 x.ch) ∧ w'.cell? ⟨wS.heap.size, 3, none⟩ = some (.int .u64 x.ru) ∧ w'.cell? ⟨wS.heap.size, 4, none⟩ = some (.int .u64 x.we))
                (first | go_keep | (refine ⟨(hgrow.cell_far ⟨wS.heap.size, 0, none⟩ (by simp; omega) (hnr _ (Nat.le_refl _))).trans ?_, (hgrow.cell_far ⟨wS.heap.size, 1, none⟩ (by simp; omega) (hnr _ (Nat.le_refl _))).trans ?_, (hgrow.cell_far ⟨wS.heap.size, 2, none⟩ (by simp; omega) (hnr _ (Nat.le_refl _))).trans ?_, (hgrow.cell_far ⟨wS.heap.size, 3, none⟩ (by simp; omega) (hnr _ (Nat.le_refl _))).trans ?_, (hgrow.cell_far ⟨wS.heap.size, 4, none⟩ (by simp; omega) (hnr _ (Nat.le_refl _))).trans ?_⟩ <;> go_keep) | (exact ⟨(hb5.cell (p := ⟨wS.heap.size, 0, none⟩) (by simp; omega)).trans m2, (hb5.cell (p := ⟨wS.heap.size, 1, none⟩) (by simp; omega)).trans m3, (hb5.cell (p := ⟨wS.heap.size, 2, none⟩) (by simp; omega)).trans m4, (hb5.cell (p := ⟨wS.heap.size, 3, none⟩) (by simp; omega)).trans m5, (hb5.cell (p := ⟨wS.heap.size, 4, none⟩) (by simp; omega)).trans m6⟩))
                (first | (go_at_call 47; refine h47.mono ?_; rintro e w5 ⟨rfl, hb5⟩; have hown5 := hown4.kept (show w4.grownBy w5 none from ⟨hb5.os, hb5.tape, hb5.output, hb5.size, fun j hj _ => hb5.block j hj⟩) (by cases u8.ownBlock <;> simp); have hs5 : w4.heap.size ≤ w5.heap.size := hb5.size) | (refine step_append_lies _ (by rfl) _ _ 50 (by rfl) (wT.heap.size + 1) 64 i0 _ 8 64 Try.underlying50 hi0 hz0 hz1 hz2 rfl (by decide) _ S.length (spanCells S) (by rfl) (by exact World.ownsRow.alloc hown5 _) ⟨w5.heap.size, 0, none⟩ 1 1 [.int .i64 x.p, .int .i64 x.d, .int .u64 x.ch, .int .u64 x.ru, .int .u64 x.we, .int .u64 a, .int .u64 b2, .int .i64 (total S : Nat)] (by rfl) rfl (by exact cell_eight_new _ _ _ _ _ _ _ _ _ _) (span_one _ _ _ _ _ _ _ _) (by decide) (by unfold maxLen; omega) (by omega) (by simp; omega) (w5.heap.size + 1) (by simp) ?_; intro g cap2 w6 hown1 hgrow hat hltg))
              have R := show Hid _ from midU_step hx hS HFa.out HFb.out (by omega) ENV.out hbz4 hbe4 hsz4 hsz hb1s hnr hown4 hb5 hown1 hgrow
              clear hown1 hgrow hat hltg hown5 hb5
              go_wp2_with fail
              go_meet
              case rel => exact R.out
            · go_wp2_with fail
              go_meet
              case rel => exact ⟨S, ⟨S, a, b2, hS, by rw [← hx] at HFa; exact HFa.out, by rw [← hx] at HFb; exact HFb.out, by rw [if_neg (by omega)]⟩, hown4, env4, hbz4, hbe4, hsz4⟩
          case rest =>
            obtain ⟨S', hS', hown', env', hfz', hbe', hsz'⟩ := hcut
            have e1 : lineN C (i + 1) = lineN C i + x.len := by rw [← hx]; rfl
            have hle := nums.fits
            rw [len_eq ok.c0 ok.r0] at hle hlenx
            have htl := nums.t1
            have ec := env'.eB
            obtain ⟨m0, m1, m2, m3, m4, m5, m6, m7, m8, m9⟩ := env'
            generalize x.len = l at *
            have E1 := show Hid _ from e1
            clear e1 hS hown4 env4 hbz4 hbe4 hsz4 HFa HFb ha1 hb1' nums hx
            generalize lineN C i = L at *
            obtain ⟨s, hs⟩ : ∃ s, s = L + l := ⟨_, rfl⟩
            have es : IntKind.u64.wrap ((L : Int) + (l : Int)) = (s : Int) := by rw [IntKind.wrap_u64]; omega
            rw [← hs] at E1
            clear hs
            go_wp2_with fail
            go_region_with (go_at_call 38; refine (hlenx _).mono ?_; rintro e w5 ⟨rfl, hb5⟩; have z0 := (hb5.cell (p := ⟨wT.heap.size, 0, none⟩) (by exact hsz')).trans ec; have z1 := (hb5.frozen (p := ⟨wT.heap.size, 0, none⟩) (by exact hsz')).trans hfz')
            all_goals
              have hb6 := ((Below.refl wc.heap.size wc).drew).trans hb5
              have hg6 : wc.grownBy w5 none := ⟨hb6.os, hb6.tape, hb6.output, hb6.size, fun j hj _ => hb6.block j hj⟩
              have hown6 := hown'.kept hg6 (by cases u8.ownBlock <;> simp)
              have z2 := (hb6.cell (p := ⟨w.heap.size, 0, none⟩) (by simp; omega)).trans m7
              have z3 := (hb6.cell (p := ⟨w.heap.size, 1, none⟩) (by simp; omega)).trans m8
              have z4 := (hb6.cell (p := ⟨w.heap.size + 1, 0, none⟩) (by simp; omega)).trans m9
              have hb7 := hbe'.trans (hb6.mono hbe'.size)
              have hs7 := hb6.size
              have R := show Hid _ from And.intro hown6 hS'
              clear hb5 hb6 hg6 hown6
              go_wp2
              refine ⟨⟨i + 1, S', by omega, by go_num, R.out.2, ownsRow_setCell_below R.out.1 (Nat.lt_succ_self _) _, by rw [E1.out]; exact World.cell?_setCell_same _ _ _ z0, by simpa using z1, (World.cell?_setCell_other _ _ _ _ (fun e => by injection e with e1; omega)).trans z4, (World.cell?_setCell_other _ _ _ _ (fun e => by injection e with e1; omega)).trans z2, (World.cell?_setCell_other _ _ _ _ (fun e => by injection e with e1; omega)).trans z3, hb7.setCell (by simp; omega) _, by simp; omega⟩, by simp [intOf]; omega⟩
        · obtain rfl : i = k := by omega
          have HS := show Hid _ from And.intro hS hown
          clear hS hown
          go_wp2_with fail
          go_ret
          exact ⟨S, _, wT.heap.size + 1, rfl, HS.out.1, by omega, HS.out.2, hbe⟩

end Go.Proofs.Qxb6605954a
