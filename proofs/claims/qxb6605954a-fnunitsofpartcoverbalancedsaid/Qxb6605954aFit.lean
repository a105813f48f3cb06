/-
  zzCutsFit (16).
-/
import Derived.Test.Qxb6605954aSpan
namespace Go.Proofs.Qxb6605954a
open Go.RowKit

/-- A cut's five fields. -/
structure Cu where
  p : Int
  d : Int
  ch : Nat
  ru : Nat
  we : Nat

instance : Inhabited Cu := ⟨⟨0, 0, 0, 0, 0⟩⟩

/-- The five cells of a cut. -/
structure CutAt (w : World) (b o : Nat) (c : Cu) : Prop where
  c0 : w.cell? ⟨b, o, none⟩ = some (.int .i64 c.p)
  c1 : w.cell? ⟨b, o + 1, none⟩ = some (.int .i64 c.d)
  c2 : w.cell? ⟨b, o + 2, none⟩ = some (.int .u64 c.ch)
  c3 : w.cell? ⟨b, o + 3, none⟩ = some (.int .u64 c.ru)
  c4 : w.cell? ⟨b, o + 4, none⟩ = some (.int .u64 c.we)

theorem CutAt.below {w w' : World} {B b o : Nat} {c : Cu} (h : CutAt w b o c) (hb : Below B w w') (hB : b < B) : CutAt w' b o c :=
  ⟨(hb.cell (p := ⟨b, o, none⟩) hB).trans h.c0, (hb.cell (p := ⟨b, o + 1, none⟩) hB).trans h.c1, (hb.cell (p := ⟨b, o + 2, none⟩) hB).trans h.c2, (hb.cell (p := ⟨b, o + 3, none⟩) hB).trans h.c3, (hb.cell (p := ⟨b, o + 4, none⟩) hB).trans h.c4⟩

/-- n cuts lie where the slice's address u leads. -/
def CutsAt (w : World) (u : Option Addr) (n : Nat) (C : Nat → Cu) : Prop :=
  n = 0 ∨ ∃ b o, u = some ⟨b, o, none⟩ ∧ b < w.heap.size ∧ ∀ i, i < n → CutAt w b (o + i * 5) (C i)

theorem CutsAt.below {w w' : World} {u : Option Addr} {n B : Nat} {C : Nat → Cu} (h : CutsAt w u n C) (hb : Below B w w') (hB : w.heap.size ≤ B) : CutsAt w' u n C := by
  rcases h with h | ⟨b, o, h1, h2, h3⟩
  · exact Or.inl h
  · exact Or.inr ⟨b, o, h1, Nat.lt_of_lt_of_le h2 hb.size, fun i hi => (h3 i hi).below hb (by omega)⟩

theorem CutsAt.at {w : World} {u : Option Addr} {n i : Nat} {C : Nat → Cu} (h : CutsAt w u n C) (hi : i < n) : ∃ b o, u = some ⟨b, o, none⟩ ∧ b < w.heap.size ∧ CutAt w b (o + i * 5) (C i) := by
  rcases h with h | ⟨b, o, h1, h2, h3⟩
  · omega
  · exact ⟨b, o, h1, h2, h3 i hi⟩

/-- A sum of the first n. -/
def sumN (f : Nat → Nat) : Nat → Nat
  | 0 => 0
  | n + 1 => sumN f n + f n

/-- The heaviest of the first n. -/
def maxN (f : Nat → Nat) : Nat → Nat
  | 0 => 0
  | n + 1 => max (maxN f n) (f n)

def Cu.ok (c : Cu) : Prop := CutOk c.ch c.ru c.we
def Cu.n (c : Cu) : Nat := cnt c.ch c.ru
def Cu.w (c : Cu) (j : Nat) : Nat := wt c.ch c.ru c.we j
def Cu.len (c : Cu) : Nat := sumN c.w c.n
def Cu.most (c : Cu) : Nat := maxN c.w c.n

/-- The first k cuts are such as zzCutsFit lets pass. -/
structure Fits (C : Nat → Cu) (k : Nat) : Prop where
  ok : ∀ i, i < k → (C i).ok
  units : sumN (fun i => (C i).n) k ≤ 1048576
  line : sumN (fun i => (C i).len) k ≤ 2305843009213693952

/-- What a Cut's words can hold. -/
def Cu.rng (c : Cu) : Prop := c.ch < 18446744073709551616 ∧ c.ru < 18446744073709551616 ∧ c.we < 18446744073709551616

def lineN (C : Nat → Cu) (k : Nat) : Nat := sumN (fun i => (C i).len) k
def unitsN (C : Nat → Cu) (k : Nat) : Nat := sumN (fun i => (C i).n) k
def mostN (C : Nat → Cu) (k : Nat) : Nat := maxN (fun i => (C i).most) k

def FitPost (w : World) (C : Nat → Cu) (n : Nat) (e : Ending) (w' : World) : Prop :=
  (∃ (l m : Nat) (ok : Bool), e = .returned (.tuple #[.int .u64 l, .int .u64 m, .bool ok]) ∧ (ok = true → Fits C n ∧ l = lineN C n ∧ m = mostN C n)) ∧ Below w.heap.size w w'

theorem FitPost.bad {w w' : World} {C : Nat → Cu} {n : Nat} (hb : Below w.heap.size w w') : FitPost w C n (.returned (.tuple #[.int .u64 0, .int .u64 0, .bool false])) w' :=
  ⟨⟨0, 0, false, rfl, fun h => by cases h⟩, hb⟩

/-- The outer loop. -/
def FitO (w : World) (C : Nat → Cu) (n : Nat) (l m u c : Value) (wr : World) : Prop :=
  ∃ k : Nat, k ≤ n ∧ l = .int .u64 (lineN C k : Nat) ∧ m = .int .u64 (mostN C k : Nat) ∧ u = .int .u64 (unitsN C k : Nat) ∧ c = .int .i64 k ∧ Fits C k ∧ mostN C k ≤ 1099511627776 ∧ Below w.heap.size w wr ∧ w.heap.size ≤ wr.heap.size

/-- The inner loop. -/
def FitI (w0 : World) (c : Cu) (L M : Nat) (l m j : Value) (wr : World) : Prop :=
  ∃ k : Nat, k ≤ c.n ∧ l = .int .u64 (L + sumN c.w k : Nat) ∧ m = .int .u64 (max M (maxN c.w k) : Nat) ∧ j = .int .u64 k ∧ L + sumN c.w k ≤ 2305843009213693952 ∧ max M (maxN c.w k) ≤ 1099511627776 ∧ Below w0.heap.size w0 wr

set_option maxRecDepth 100000 in
set_option maxHeartbeats 4000000 in
theorem cutsFit_any (u : Option Addr) (n c : Nat) (C : Nat → Cu) (w : World) (hn : n ≤ 65536) (hC : CutsAt w u n C) (hR : ∀ i, i < n → (C i).rng) :
    Calls Try.prog 16 #[.slice u n c] w (FitPost w C n) := by
  go_enter Try.func16, Try.ntmps16
  go_wp2
  go_loopw [5, 6, 7, 8] (FitO w C n) (fun _ _ _ i _ => n - (intOf i).toNat)
  case atStart => exact ⟨0, Nat.zero_le _, rfl, rfl, rfl, rfl, ⟨fun i hi => by omega, Nat.zero_le _, Nat.zero_le _⟩, Nat.zero_le _, Below.refl _ _, Nat.le_refl _⟩
  case round =>
    obtain ⟨k, hk, rfl, rfl, rfl, rfl, hF, hmo, hb, hsz⟩ := hrel
    by_cases hlt : k < n
    · obtain ⟨b, o, rfl, hbl, hA⟩ := (hC.below hb (Nat.le_refl _)).at hlt
      have hr := hR k hlt
      obtain ⟨wS, rfl⟩ : ∃ x, x = wr := ⟨_, rfl⟩
      have hu := hF.units
      change unitsN C k ≤ 1048576 at hu
      have hl := hF.line
      change lineN C k ≤ 2305843009213693952 at hl
      have e1 : lineN C (k + 1) = lineN C k + (C k).len := rfl
      have e2 : unitsN C (k + 1) = unitsN C k + (C k).n := rfl
      have e3 : mostN C (k + 1) = max (mostN C k) (C k).most := rfl
      have e4 : (C k).ok → unitsN C k + (C k).n ≤ 1048576 → lineN C k + (C k).len ≤ 2305843009213693952 → Fits C (k + 1) := fun h1 h2 h3 =>
        ⟨fun i hi => by rcases Nat.lt_succ_iff_lt_or_eq.1 hi with h | rfl; exact hF.ok i h; exact h1, h2, h3⟩
      generalize C k = x at hA hr e1 e2 e3 e4
      have E1 := show Hid _ from e1
      have E2 := show Hid _ from e2
      have E3 := show Hid _ from e3
      have E4 := show Hid _ from e4
      clear e1 e2 e3 e4
      have hB1 := hb.trans ((((Below.refl wS.heap.size wS).alloc (Nat.le_refl _) (.cells #[.int .i64 x.p, .int .i64 x.d, .int .u64 x.ch, .int .u64 x.ru, .int .u64 x.we] 48))).mono hb.size)
      obtain ⟨q0, q1, q2, q3, q4⟩ := hA
      obtain ⟨r0, r1, r2⟩ := hr
      generalize lineN C k = L at *
      generalize unitsN C k = U at *
      generalize mostN C k = Mo at *
      clear hF
      by_cases h1 : (x.ch : Int) < 1
      · go_wp2
        go_ret3
        exact FitPost.bad hB1
      by_cases h2 : (x.ru : Int) < 1
      · go_wp2
        go_ret3
        exact FitPost.bad hB1
      by_cases h3 : (9223372036854775808 : Int) < (x.ch : Int)
      · go_wp2
        go_ret3
        exact FitPost.bad hB1
      by_cases h4 : (9223372036854775808 : Int) < (x.ru : Int)
      · go_wp2
        go_ret3
        exact FitPost.bad hB1
      have ok : CutOk x.ch x.ru x.we := ⟨by omega, by omega, by omega, by omega, r2⟩
      have hcnt := fun w => unitCount_any x.p x.d x.ch x.ru x.we w ok
      have hwt := fun j w => unitWeight_any x.p x.d x.ch x.ru x.we j w ok
      have hN := cnt_le (ru := x.ru) ok.c0 ok.c1
      obtain ⟨N, hNe⟩ : ∃ N, N = cnt x.ch x.ru := ⟨_, rfl⟩
      rw [← hNe] at hcnt hwt hN
      have HNe := show Hid _ from hNe
      clear hNe
      by_cases h5 : 1048576 - (U : Int) < (N : Int)
      · go_wp2_with (go_at_call 21; refine (hcnt _).mono ?_; rintro e w1 ⟨rfl, hb1⟩)
        go_ret3
        exact FitPost.bad (hB1.trans (hb1.mono (by have := hb.size; simp; omega)))
      go_wp2_with (go_at_call 21; refine (hcnt _).mono ?_; rintro e w1 ⟨rfl, hb1⟩)
      have g0 := (hb1.cell (p := ⟨wS.heap.size, 0, none⟩) (by simp)).trans (c := some (.int .i64 x.p)) (by simp)
      have g1 := (hb1.cell (p := ⟨wS.heap.size, 1, none⟩) (by simp)).trans (c := some (.int .i64 x.d)) (by simp)
      have g2 := (hb1.cell (p := ⟨wS.heap.size, 2, none⟩) (by simp)).trans (c := some (.int .u64 x.ch)) (by simp)
      have g3 := (hb1.cell (p := ⟨wS.heap.size, 3, none⟩) (by simp)).trans (c := some (.int .u64 x.ru)) (by simp)
      have g4 := (hb1.cell (p := ⟨wS.heap.size, 4, none⟩) (by simp)).trans (c := some (.int .u64 x.we)) (by simp)
      have hB2 := hB1.trans (hb1.mono (by have := hb.size; simp; omega))
      have hs1 : wS.heap.size < w1.heap.size := by have := hb1.size; simp at this; omega
      clear hb1 q0 q1 q2 q3 q4 hB1
      go_loopw [5, 6, 11] (FitI w1 x L Mo) (fun _ _ i _ => N - (intOf i).toNat)
      case atStart => exact ⟨0, Nat.zero_le _, rfl, by rw [show maxN x.w 0 = 0 from rfl, Nat.max_eq_left (Nat.zero_le _)], rfl, hl, by rw [show maxN x.w 0 = 0 from rfl, Nat.max_eq_left (Nat.zero_le _)]; exact hmo, Below.refl _ _⟩
      case round =>
        obtain ⟨j, hj, rfl, rfl, rfl, hls, hms, hbi⟩ := hrel
        have hjN : j ≤ N := by rw [HNe.out]; exact hj
        clear hj
        have i0 := (hbi.cell (p := ⟨wS.heap.size, 0, none⟩) hs1).trans g0
        have i1 := (hbi.cell (p := ⟨wS.heap.size, 1, none⟩) hs1).trans g1
        have i2 := (hbi.cell (p := ⟨wS.heap.size, 2, none⟩) hs1).trans g2
        have i3 := (hbi.cell (p := ⟨wS.heap.size, 3, none⟩) hs1).trans g3
        have i4 := (hbi.cell (p := ⟨wS.heap.size, 4, none⟩) hs1).trans g4
        by_cases hjl : j < N
        · have s1 : sumN x.w (j + 1) = sumN x.w j + wt x.ch x.ru x.we j := rfl
          have s2 : maxN x.w (j + 1) = max (maxN x.w j) (wt x.ch x.ru x.we j) := rfl
          have hv := wt_le x.ch x.ru x.we j
          have hc := fun w => hwt j w hjl
          generalize wt x.ch x.ru x.we j = v at s1 s2 hv hc
          have HS := show Hid _ from And.intro s1 s2
          clear s1 s2
          obtain ⟨S, hS⟩ : ∃ S, S = L + sumN x.w j := ⟨_, rfl⟩
          obtain ⟨X, hX⟩ : ∃ X, X = max Mo (maxN x.w j) := ⟨_, rfl⟩
          rw [← hS] at hls
          rw [← hX] at hms
          rw [← hS, ← hX]
          have HX := show Hid _ from And.intro hS hX
          clear hS hX
          by_cases h6 : (2305843009213693952 : Int) < (S : Int) + (v : Int)
          · go_wp2_with (go_at_call 22; refine (hc _).mono ?_; rintro e w2 ⟨rfl, hb2⟩)
            go_ret3
            exact FitPost.bad ((hB2.trans (hbi.mono hB2.size)).trans (hb2.mono (Nat.le_trans hB2.size hbi.size)))
          · by_cases h7 : (X : Int) < (v : Int)
            · go_wp2_with (go_at_call 22; refine (hc _).mono ?_; rintro e w2 ⟨rfl, hb2⟩)
              go_roundw
              case rel => exact ⟨j + 1, by have := HNe.out; show j + 1 ≤ cnt x.ch x.ru; omega, by rw [HS.out.1, ← Nat.add_assoc, ← HX.out.1]; rfl, by rw [HS.out.2, ← Nat.max_assoc, ← HX.out.2, Nat.max_eq_right (by omega)], by go_num, by rw [HS.out.1, ← Nat.add_assoc, ← HX.out.1]; omega, by rw [HS.out.2, ← Nat.max_assoc, ← HX.out.2]; omega, hbi.trans (hb2.mono hbi.size)⟩
              case measure => simp [intOf]; omega
            · go_wp2_with (go_at_call 22; refine (hc _).mono ?_; rintro e w2 ⟨rfl, hb2⟩)
              go_roundw
              case rel => exact ⟨j + 1, by have := HNe.out; show j + 1 ≤ cnt x.ch x.ru; omega, by rw [HS.out.1, ← Nat.add_assoc, ← HX.out.1]; rfl, by rw [HS.out.2, ← Nat.max_assoc, ← HX.out.2, Nat.max_eq_left (by omega)], by go_num, by rw [HS.out.1, ← Nat.add_assoc, ← HX.out.1]; omega, by rw [HS.out.2, ← Nat.max_assoc, ← HX.out.2]; omega, hbi.trans (hb2.mono hbi.size)⟩
              case measure => simp [intOf]; omega
        · obtain rfl : j = N := by omega
          have hlen : sumN x.w j = x.len := by rw [HNe.out]; rfl
          have hmst : maxN x.w j = x.most := by rw [HNe.out]; rfl
          have hn' : j = x.n := HNe.out
          rw [hlen] at hls
          rw [hmst] at hms
          rw [hlen, hmst]
          have F := E4.out ok (by rw [← hn']; omega) hls
          have HF := show Hid _ from F
          have HN2 := show Hid _ from hn'
          clear hlen hmst hn' F
          go_wp2_with fail
          go_roundw
          case rel => exact ⟨k + 1, by omega, by rw [E1.out], by rw [E3.out], by rw [E2.out, ← HN2.out]; rfl, by go_num, HF.out, by rw [E3.out]; exact hms, hB2.trans (hbi.mono hB2.size), Nat.le_trans hB2.size hbi.size⟩
          case measure => simp [intOf]; omega
    · obtain rfl : k = n := by omega
      go_wp2_with fail
      go_ret3
      exact ⟨⟨_, _, _, rfl, fun _ => ⟨hF, rfl, rfl⟩⟩, hb⟩

end Go.Proofs.Qxb6605954a
