/-
  FnUnitsOfPartExact (5).
-/
import Derived.Test.Qxb6605954aBuilt
namespace Go.Proofs.Qxb6605954a
open Go.RowKit

/-- A product's two words. -/
theorem mul128_ex (x y : Nat) (hx : x < 18446744073709551616) (hy : y < 18446744073709551616) :
    ∃ h l : Nat, (∀ w, Calls Try.prog 20 #[.int .u64 x, .int .u64 y] w fun e w' => e = .returned (.tuple #[.int .u64 h, .int .u64 l]) ∧ w = w') ∧ h * 18446744073709551616 + l = x * y ∧ l < 18446744073709551616 :=
  ⟨x * y / 18446744073709551616, x * y % 18446744073709551616, fun w => mul128_any x y w hx hy, by omega, by omega⟩

/-- Two words compared. -/
theorem less_ex {mh ml lh ll P Q : Nat} (hm : mh * 18446744073709551616 + ml = P ∧ ml < 18446744073709551616) (hl : lh * 18446744073709551616 + ll = Q ∧ ll < 18446744073709551616) (b : Bool) (hb : P < Q ↔ b = true) (w : World) :
    Calls Try.prog 23 #[.int .u64 mh, .int .u64 ml, .int .u64 lh, .int .u64 ll] w fun e w' => e = .returned (.bool b) ∧ w = w' := by
  have h := less128_any mh ml lh ll w hm.2 hl.2
  rw [hm.1, hl.1, show decide (P < Q) = b by cases b <;> simp_all] at h
  exact h

/-- The law's outer loop. -/
def ExO (w5 : World) (C : Nat → Cu) (K M T n : Nat) (st nx tk ci : Value) (wr : World) : Prop :=
  ∃ (k : Nat) (S0 : List Sp), k ≤ n ∧ st = .int .u64 (lineN C k : Nat) ∧ nx = .int .i64 (S0.length : Nat) ∧ tk = .int .i64 (total S0 : Nat) ∧ ci = .int .i64 k ∧ SpansOf C K M T k S0 ∧ Below w5.heap.size w5 wr

/-- The law's inner loop. -/
def ExI (wI : World) (x : Cu) (L a b : Nat) (st fr tx se j : Value) (wr : World) : Prop :=
  ∃ i : Nat, i ≤ x.n ∧ st = .int .u64 (L + sumN x.w i : Nat) ∧ j = .int .u64 i ∧ ((¬ (a < b ∧ a < i) ∧ fr = .int .u64 0 ∧ tx = .int .u64 0 ∧ se = .bool false) ∨ (a < b ∧ a < i ∧ fr = .int .u64 a ∧ tx = .int .u64 (min b i : Nat) ∧ se = .bool true)) ∧ Below wI.heap.size wI wr

set_option maxRecDepth 100000 in
set_option maxHeartbeats 4000000 in
theorem exact_big (u : Option Addr) (n c : Nat) (K M : Int) (w : World) (hn : n ≤ maxLen) (h0 : ¬ ((n : Int) ≤ 65536 ∧ (n : Int) * 40 ≤ 1048576)) :
    Calls Try.prog 5 #[.slice u n c, .int .i64 K, .int .i64 M] w (Says w) := by
  have hbt := fun w => bytes15 u n c K M w hn
  by_cases hb : (n : Int) ≤ 1048576
  · rw [decide_eq_true (show n ≤ 1048576 by omega)] at hbt
    by_cases h65 : (65536 : Int) < (n : Int)
    · clear h0
      go_enter Try.func5, Try.ntmps5
      go_wp2_with (go_at_call 15; refine (hbt _).mono ?_; rintro e w1 ⟨rfl, rfl⟩)
      go_ret
      exact ⟨rfl, Below.refl _ _⟩
    · have h3 : (1048576 : Int) < 40 * (n : Int) := by omega
      clear h0
      go_enter Try.func5, Try.ntmps5
      go_wp2_with (go_at_call 15; refine (hbt _).mono ?_; rintro e w1 ⟨rfl, rfl⟩)
      go_ret
      exact ⟨rfl, Below.refl _ _⟩
  · rw [decide_eq_false (show ¬ n ≤ 1048576 by omega)] at hbt
    clear h0
    go_enter Try.func5, Try.ntmps5
    go_wp2_with (go_at_call 15; refine (hbt _).mono ?_; rintro e w1 ⟨rfl, rfl⟩)
    go_ret
    exact ⟨rfl, Below.refl _ _⟩

set_option maxRecDepth 100000 in
set_option maxHeartbeats 4000000 in
theorem exact_km (u : Option Addr) (n c : Nat) (K M : Int) (w : World) (hn : n ≤ maxLen) (h1 : (n : Int) ≤ 65536) (h2 : (n : Int) * 40 ≤ 1048576) (h : M < 1 ∨ K < 1 ∨ M < K) :
    Calls Try.prog 5 #[.slice u n c, .int .i64 K, .int .i64 M] w (Says w) := by
  have hbt := fun w => bytes15 u n c K M w hn
  rw [decide_eq_true (show n ≤ 1048576 by omega)] at hbt
  by_cases g1 : M < 1
  · clear h
    go_enter Try.func5, Try.ntmps5
    go_wp2_with (go_at_call 15; refine (hbt _).mono ?_; rintro e w1 ⟨rfl, rfl⟩)
    go_ret
    exact ⟨rfl, Below.refl _ _⟩
  by_cases g2 : K < 1
  · clear h
    go_enter Try.func5, Try.ntmps5
    go_wp2_with (go_at_call 15; refine (hbt _).mono ?_; rintro e w1 ⟨rfl, rfl⟩)
    go_ret
    exact ⟨rfl, Below.refl _ _⟩
  have g3 : M < K := by omega
  clear h
  go_enter Try.func5, Try.ntmps5
  go_wp2_with (go_at_call 15; refine (hbt _).mono ?_; rintro e w1 ⟨rfl, rfl⟩)
  go_ret
  exact ⟨rfl, Below.refl _ _⟩

set_option maxRecDepth 100000 in
set_option maxHeartbeats 4000000 in
theorem exact_main (u : Option Addr) (n c : Nat) (C : Nat → Cu) (K M : Int) (w : World) (hn : n ≤ maxLen) (hC : CutsAt w u n C) (hR : ∀ i, i < n → (C i).rng) (hM : M < 9223372036854775808) (h1 : (n : Int) ≤ 65536) (h2 : (n : Int) * 40 ≤ 1048576) (g1 : ¬ M < 1) (g2 : ¬ K < 1) (g3 : ¬ M < K) :
    Calls Try.prog 5 #[.slice u n c, .int .i64 K, .int .i64 M] w (Says w) := by
  have hbt := fun w => bytes15 u n c K M w hn
  rw [decide_eq_true (show n ≤ 1048576 by omega)] at hbt
  have hn6 : n ≤ 65536 := by omega
  have hfit := cutsFit_any u n c C w hn6 hC hR
  have hmk := make_cuts n hn6
  go_enter Try.func5, Try.ntmps5
  go_wp2_with (go_at_call 15; refine (hbt _).mono ?_; rintro e w1 ⟨rfl, rfl⟩)
  refine hfit.mono ?_
  rintro e w2 ⟨⟨l, m, ok, rfl, hok⟩, hb2⟩
  have HOK := show Hid _ from hok
  clear hok
  cases ok
  · go_wp2_with fail
    go_ret
    exact ⟨rfl, hb2⟩
  obtain ⟨hF, rfl, rfl⟩ := HOK.out rfl
  clear HOK hfit hbt
  by_cases hz : (0 : Int) < (n : Int) ∧ ((lineN C n : Nat) : Int) = 0
  · obtain ⟨z1, z2⟩ := hz
    have z3 : (((lineN C n : Nat) : Int) == 0) = true := by simpa using z2
    go_wp2_with fail
    go_ret
    exact ⟨rfl, hb2⟩
  have hT : 0 < n → 0 < lineN C n := fun h => by omega
  have hline := hF.line
  change lineN C n ≤ 2305843009213693952 at hline
  obtain ⟨T, hTe⟩ : ∃ T, T = lineN C n := ⟨_, rfl⟩
  rw [← hTe] at hz hT hline ⊢
  have HTe := show Hid _ from hTe
  clear hTe
  have z3 : (0 : Int) < (n : Int) → ((T : Int) == 0) = false := fun h => by
    simp
    omega
  obtain ⟨K', hK'⟩ : ∃ k : Nat, K = k := ⟨K.toNat, by omega⟩
  obtain ⟨M', hM'⟩ : ∃ k : Nat, M = k := ⟨M.toNat, by omega⟩
  have hKM : 1 ≤ K' ∧ K' ≤ M' ∧ M' < 9223372036854775808 := by omega
  subst hK' hM'
  have HKM := show Hid _ from hKM
  clear hKM g1 g2 g3 hM h1 h2
  go_upto_region 10 with fail
  go_cut [78] (Same w2)
  case first =>
    by_cases hn0 : (0 : Int) < (n : Int)
    · have z4 := z3 hn0
      go_wp2_with fail
      go_meet
      case rel => exact ⟨rfl, rfl⟩
    · go_wp2_with fail
      go_meet
      case rel => exact ⟨rfl, rfl⟩
  case rest =>
    obtain ⟨rfl, rfl⟩ := hcut
    clear z3 hz
    go_wp2_with fail
    go_loopw [11] (BuiltAt wc C n) (fun i _ => n - (intOf i).toNat)
    case atStart => exact builtAt_start _ _ _
    case round =>
      obtain ⟨k, hk, rfl, hB, hE, hfz, hb3, hs3⟩ := hrel
      by_cases hlt : k < n
      · as_aux_lemma =>
          obtain ⟨b, o, rfl, hbl, hA⟩ := (hC.below (hb2.trans (hb3.mono hb2.size)) (Nat.le_refl _)).at hlt
          generalize hx : C k = x at hA
          obtain ⟨q0, q1, q2, q3, q4⟩ := hA
          have f0 := cell_wd q0
          have f1 := cell_wd q1
          have f2 := cell_wd q2
          have f3 := cell_wd q3
          have f4 := cell_wd q4
          obtain ⟨v0, p0⟩ := hE (k * 5) (by omega)
          obtain ⟨v1, p1⟩ := hE (k * 5 + 1) (by omega)
          obtain ⟨v2, p2⟩ := hE (k * 5 + 2) (by omega)
          obtain ⟨v3, p3⟩ := hE (k * 5 + 3) (by omega)
          obtain ⟨v4, p4⟩ := hE (k * 5 + 4) (by omega)
          have r0 := cell_wd p0
          have r1 := cell_wd p1
          have r2 := cell_wd p2
          have r3 := cell_wd p3
          have r4 := cell_wd p4
          have fz := fun o n os => ((below_wd wr n os).frozen (p := ⟨wc.heap.size, o, none⟩) hs3).trans (hfz o)
          have hki : (k : Int) < (n : Int) := by omega
          go_wp2_with fail
          refine wp_region_wd_tail 29 (by kernel_rfl) (by kernel_rfl) ?_
          simp only [List.take_succ_cons, List.take_zero, List.drop_succ_cons, List.drop_zero]
          iterate 27 quiet_step (fail)
          quiet_step (exact calls_wd (makeCut_any x.p x.d x.ch x.ru x.we _))
          quiet_step (fail)
          refine wpQuiet_nil ?_
          rintro w4 ⟨p, rfl⟩
          go_wp2_with fail
          exact ⟨builtAt_step hlt hx (by go_num) hB hE hfz hb3 hs3 (below_wd _ _ _), by simp [intOf]; omega⟩
      · obtain rfl : k = n := by omega
        have hbW := hb2.trans (hb3.mono hb2.size)
        have hCu := builtAt_cuts hB hs3
        clear hB hE hfz hmk hR
        go_wp2_with fail
        refine (networks_any _ k k wr).mono ?_
        rintro e w4 ⟨rfl, hg4, hb4, hs4⟩
        have hsh := share_any wr.heap.size _ k k C K' M' w4 hg4 hn6 (hCu.below hb4 (Nat.le_refl _)) hF (by rw [← HTe.out]; exact hT) HKM.out.1 HKM.out.2.1 HKM.out.2.2
        clear hg4 hCu
        go_wp2_with fail
        refine hsh.mono ?_
        rintro e w5 ⟨S, us, cs, rfl, hS, hA, hb5⟩
        have hbW5 := (hbW.trans (hb4.mono hbW.size)).trans (hb5.mono (Nat.le_trans hbW.size hb4.size))
        rw [← HTe.out] at hS
        have HS := show Hid _ from hS
        have hCw := hC.below hbW5 (Nat.le_refl _)
        clear hS hsh hC hbW hb4 hb5 hs4
        obtain ⟨K1, hK1⟩ : ∃ k1, k1 = K' - 1 := ⟨_, rfl⟩
        obtain ⟨T2, hT2⟩ : ∃ t, t = 2 * T := ⟨_, rfl⟩
        obtain ⟨kk1, kk2, kk3⟩ := HKM.out
        have eKa : IntKind.i64.wrap ((K' : Int) - 1) = (K1 : Int) := by rw [IntKind.wrap_i64]; omega
        have eKb := wrap_nat K1 (by omega)
        have eKc := wrap_nat K' (by omega)
        have eM := wrap_nat M' (by omega)
        have e2T : 2 * (T : Int) = (T2 : Int) := by omega
        have eT2 := wrap_nat T2 (by omega)
        obtain ⟨lh, ll, hm1, hl1⟩ := mul128_ex K1 T2 (by omega) (by omega)
        obtain ⟨hh, hl, hm2, hl2⟩ := mul128_ex K' T2 (by omega) (by omega)
        rw [hK1, hT2] at hl1
        rw [hT2] at hl2
        have HN := show Hid _ from And.intro hl1 hl2
        clear hl1 hl2 hK1 hT2 kk1 kk2 kk3
        go_wp2_with fail
        refine (hm1 _).mono ?_
        rintro e w6 ⟨rfl, rfl⟩
        go_wp2_with fail
        refine (hm2 _).mono ?_
        rintro e w6 ⟨rfl, rfl⟩
        clear hm1 hm2 eKa eKb eKc e2T eT2
        go_wp2_with fail
        go_loopw [17, 18, 19, 20] (ExO w5 C K' M' T k) (fun _ _ _ i _ => k - (intOf i).toNat)
        case atStart => exact ⟨0, [], Nat.zero_le _, rfl, rfl, rfl, rfl, rfl, Below.refl _ _⟩
        case round =>
          obtain ⟨i, S0, hi, rfl, rfl, rfl, rfl, hS0, hbi⟩ := hrel
          by_cases hlt : i < k
          · obtain ⟨a, b2, hFa, hFb, hab, hS1, hget⟩ := HS.out.next hlt hS0
            obtain ⟨b, o, rfl, hbl, hA1⟩ := (hCw.below hbi (Nat.le_refl _)).at hlt
            obtain ⟨wS, rfl⟩ : ∃ x, x = wr := ⟨_, rfl⟩
            have ok := hF.ok i hlt
            have hN : cnt (C i).ch (C i).ru ≤ 1048576 := Nat.le_trans (n_le_units (C := C) hlt) hF.units
            have hti : total S0 + (C i).n ≤ 1048576 := by
              have h1 := hS0.bound.2
              have h2 : unitsN C i + (C i).n ≤ unitsN C k := sumN_mono (f := fun i => (C i).n) (show i + 1 ≤ k by omega)
              have h3 : unitsN C k ≤ 1048576 := hF.units
              omega
            have hSl : S0.length ≤ 65536 := by have := hS0.bound.1; omega
            have hT0 : 0 < T := hT (by omega)
            have htest := fun j hj => in_test ok hT0 hFa hFb (j := j) hj
            have e1 : lineN C (i + 1) = lineN C i + (C i).len := rfl
            have hle : lineN C i + (C i).len ≤ T := by rw [HTe.out]; exact sumN_mono (f := fun i => (C i).len) (show i + 1 ≤ k by omega)
            have ha1 := hFa.1
            have hb1 := hFb.1
            have H1 := show Hid _ from And.intro hS1 hget
            clear hS1 hget hFa hFb hS0
            generalize C i = x at hA1 ok hN hti htest e1 hle ha1 hb1 H1
            generalize lineN C i = L at htest e1 hle ⊢
            have HTEST := show Hid _ from htest
            have E1 := show Hid _ from And.intro e1 hle
            have HA1 := show Hid _ from And.intro ha1 (And.intro hb1 hti)
            clear htest e1 hle ha1 hb1 hti
            obtain ⟨q0, q1, q2, q3, q4⟩ := hA1
            have hcnt := fun w => unitCount_any x.p x.d x.ch x.ru x.we w ok
            have hwt := fun j w => unitWeight_any x.p x.d x.ch x.ru x.we j w ok
            obtain ⟨N, hNe⟩ : ∃ N, N = cnt x.ch x.ru := ⟨_, rfl⟩
            rw [← hNe] at hcnt hwt hN
            have HNe := show Hid _ from hNe
            clear hNe
            go_wp2_with (go_at_call 21; refine (hcnt _).mono ?_; rintro e w6 ⟨rfl, hb6⟩)
            have g0 := (hb6.cell (p := ⟨wS.heap.size, 0, none⟩) (by simp)).trans (c := some (.int .i64 x.p)) (by simp)
            have g1 := (hb6.cell (p := ⟨wS.heap.size, 1, none⟩) (by simp)).trans (c := some (.int .i64 x.d)) (by simp)
            have g2 := (hb6.cell (p := ⟨wS.heap.size, 2, none⟩) (by simp)).trans (c := some (.int .u64 x.ch)) (by simp)
            have g3 := (hb6.cell (p := ⟨wS.heap.size, 3, none⟩) (by simp)).trans (c := some (.int .u64 x.ru)) (by simp)
            have g4 := (hb6.cell (p := ⟨wS.heap.size, 4, none⟩) (by simp)).trans (c := some (.int .u64 x.we)) (by simp)
            have hB6 := (hbi.alloc hbi.size (.cells #[.int .i64 x.p, .int .i64 x.d, .int .u64 x.ch, .int .u64 x.ru, .int .u64 x.we] 48)).trans (hb6.mono (by have := hbi.size; simp; omega))
            have hs6 : wS.heap.size < w6.heap.size := by have := hb6.size; simp at this; omega
            clear hb6 q0 q1 q2 q3 q4 hcnt
            go_loopw [17, 23, 24, 25, 26] (ExI w6 x L a b2) (fun _ _ _ _ i _ => N - (intOf i).toNat)
            case atStart => exact ⟨0, Nat.zero_le _, rfl, rfl, Or.inl ⟨by omega, rfl, rfl, rfl⟩, Below.refl _ _⟩
            case round =>
              obtain ⟨j, hj, rfl, rfl, hd, hbj⟩ := hrel
              have hjN : j ≤ N := by rw [HNe.out]; exact hj
              clear hj
              have i0 := (hbj.cell (p := ⟨wS.heap.size, 0, none⟩) hs6).trans g0
              have i1 := (hbj.cell (p := ⟨wS.heap.size, 1, none⟩) hs6).trans g1
              have i2 := (hbj.cell (p := ⟨wS.heap.size, 2, none⟩) hs6).trans g2
              have i3 := (hbj.cell (p := ⟨wS.heap.size, 3, none⟩) hs6).trans g3
              have i4 := (hbj.cell (p := ⟨wS.heap.size, 4, none⟩) hs6).trans g4
              by_cases hjl : j < N
              · have hjx : j < x.n := by rw [HNe.out] at hjl; exact hjl
                have ht := HTEST.out j hjx
                have s1 : sumN x.w (j + 1) = sumN x.w j + wt x.ch x.ru x.we j := rfl
                have hs2 : sumN x.w (j + 1) ≤ x.len := sumN_mono hjx
                have hxw : x.w j = wt x.ch x.ru x.we j := rfl
                rw [hxw] at ht
                have hv := wt_le x.ch x.ru x.we j
                have hc := fun w => hwt j w hjl
                have hle := E1.out.2
                obtain ⟨kk1, kk2, kk3⟩ := HKM.out
                generalize wt x.ch x.ru x.we j = v at ht s1 hv hc
                obtain ⟨st, hst⟩ : ∃ st, st = L + sumN x.w j := ⟨_, rfl⟩
                rw [← hst] at ht ⊢
                have hst2 : L + sumN x.w (j + 1) = st + v := by rw [s1, ← Nat.add_assoc, ← hst]
                have hst3 : st + v ≤ 2305843009213693952 := by omega
                have HST := show Hid _ from hst2
                obtain ⟨mi, hmi⟩ : ∃ mi, mi = 2 * st + v := ⟨_, rfl⟩
                rw [← hmi] at ht
                obtain ⟨mh, ml, hmm, hml⟩ := mul128_ex mi M' (by omega) (by omega)
                obtain ⟨d1, d2⟩ := HN.out
                obtain ⟨s2, hs2'⟩ : ∃ s2, s2 = 2 * st := ⟨_, rfl⟩
                have em1 : IntKind.u64.wrap (2 * (st : Int)) = (s2 : Int) := by rw [IntKind.wrap_u64]; omega
                have em2 : IntKind.u64.wrap ((s2 : Int) + (v : Int)) = (mi : Int) := by rw [IntKind.wrap_u64]; omega
                have l1 := fun b hb w => less_ex hml d1 b hb w
                have l2 := fun b hb w => less_ex hml d2 b hb w
                have HL := show Hid _ from And.intro l1 (And.intro l2 ht)
                have es : IntKind.u64.wrap ((st : Int) + (v : Int)) = ((st + v : Nat) : Int) := by rw [IntKind.wrap_u64]; omega
                obtain ⟨s3, hs3'⟩ : ∃ s3, s3 = st + v := ⟨_, rfl⟩
                rw [← hs3'] at es HST
                clear l1 l2 hml d1 d2 ht hmi hst hst2 hst3 s1 hs2 hxw hle kk1 kk2 kk3 hs3' hs2' hv
                go_wp2_with fail
                refine (hc _).mono ?_
                rintro e w7 ⟨rfl, hb7⟩
                have hB7 := hbj.trans (hb7.mono hbj.size)
                clear i0 i1 i2 i3 i4 hc hb7
                go_wp2_with fail
                refine (hmm _).mono ?_
                rintro e w8 ⟨rfl, rfl⟩
                clear hmm em1 em2
                by_cases c1 : j < a
                · have l1 := HL.out.1 true ⟨fun _ => rfl, fun _ => Nat.lt_of_not_le fun h => by have := HL.out.2.2.1.1 h; omega⟩
                  rcases hd with ⟨h1, rfl, rfl, rfl⟩ | ⟨h1, h2, rfl, rfl, rfl⟩
                  · as_aux_lemma =>
                      clear h1
                      go_wp2_with (go_at_call 23; refine (l1 _).mono ?_; rintro e w9 ⟨rfl, rfl⟩)
                      go_roundw
                      case rel => exact ⟨j + 1, hjx, by rw [HST.out], by go_num, Or.inl ⟨by omega, rfl, rfl, rfl⟩, hB7⟩
                      case measure => simp [intOf]; omega
                  · omega
                · have l1 := HL.out.1 false ⟨fun h => by have := HL.out.2.2.1.2 (by omega); omega, fun h => by cases h⟩
                  by_cases c2 : j < b2
                  · have l2 := HL.out.2.1 true ⟨fun _ => rfl, fun _ => HL.out.2.2.2.2 c2⟩
                    rcases hd with ⟨h1, rfl, rfl, rfl⟩ | ⟨h1, h2, rfl, rfl, rfl⟩
                    · as_aux_lemma =>
                        obtain rfl : j = a := by omega
                        clear h1 c1
                        go_wp2_with fail
                        refine (l1 _).mono ?_
                        rintro e w9 ⟨rfl, rfl⟩
                        go_wp2_with fail
                        refine (l2 _).mono ?_
                        rintro e w9 ⟨rfl, rfl⟩
                        go_wp2_with fail
                        go_roundw
                        case rel => exact ⟨j + 1, hjx, by rw [HST.out], by go_num, Or.inr ⟨c2, by omega, rfl, by rw [Nat.min_eq_right (by omega)]; go_num, rfl⟩, hB7⟩
                        case measure => simp [intOf]; omega
                    · as_aux_lemma =>
                        rw [Nat.min_eq_right (show j ≤ b2 by omega)]
                        go_wp2_with fail
                        refine (l1 _).mono ?_
                        rintro e w9 ⟨rfl, rfl⟩
                        go_wp2_with fail
                        refine (l2 _).mono ?_
                        rintro e w9 ⟨rfl, rfl⟩
                        go_wp2_with fail
                        go_roundw
                        case rel => exact ⟨j + 1, hjx, by rw [HST.out], by go_num, Or.inr ⟨h1, by omega, rfl, by rw [Nat.min_eq_right (by omega)]; go_num, rfl⟩, hB7⟩
                        case measure => simp [intOf]; omega
                  · have l2 := HL.out.2.1 false ⟨fun h => by have := HL.out.2.2.2.1 h; omega, fun h => by cases h⟩
                    rcases hd with ⟨h1, rfl, rfl, rfl⟩ | ⟨h1, h2, rfl, rfl, rfl⟩
                    · as_aux_lemma =>
                        have h3 : ¬ (a < b2 ∧ a < j + 1) := by omega
                        have H3 := show Hid _ from h3
                        clear h1 h3
                        go_wp2_with fail
                        refine (l1 _).mono ?_
                        rintro e w9 ⟨rfl, rfl⟩
                        go_wp2_with fail
                        refine (l2 _).mono ?_
                        rintro e w9 ⟨rfl, rfl⟩
                        go_wp2_with fail
                        go_roundw
                        case rel => exact ⟨j + 1, hjx, by rw [HST.out], by go_num, Or.inl ⟨H3.out, rfl, rfl, rfl⟩, hB7⟩
                        case measure => simp [intOf]; omega
                    · as_aux_lemma =>
                        rw [Nat.min_eq_left (show b2 ≤ j by omega)]
                        go_wp2_with fail
                        refine (l1 _).mono ?_
                        rintro e w9 ⟨rfl, rfl⟩
                        go_wp2_with fail
                        refine (l2 _).mono ?_
                        rintro e w9 ⟨rfl, rfl⟩
                        go_wp2_with fail
                        go_roundw
                        case rel => exact ⟨j + 1, hjx, by rw [HST.out], by go_num, Or.inr ⟨h1, by omega, rfl, by rw [Nat.min_eq_left (by omega)], rfl⟩, hB7⟩
                        case measure => simp [intOf]; omega
              · obtain rfl : j = N := by omega
                have hlen : L + sumN x.w j = lineN C (i + 1) := by rw [E1.out.1, HNe.out]; rfl
                rw [hlen]
                have hbN : b2 ≤ j := by rw [HNe.out]; exact HA1.out.2.1
                have hB8 := hB6.trans (hbj.mono hB6.size)
                clear hlen
                have HE := show Hid _ from E1.out.1
                rcases hd with ⟨h1, rfl, rfl, rfl⟩ | ⟨h1, h2, rfl, rfl, rfl⟩
                · as_aux_lemma =>
                    have h3 : ¬ a < b2 := by omega
                    have hS1 := H1.out.1
                    rw [if_neg h3] at hS1
                    have HS1 := show Hid _ from hS1
                    clear h1 h3 hS1 H1 E1 HTEST hA
                    go_wp2_with fail
                    go_roundw
                    case rel => exact ⟨i + 1, S0, by omega, rfl, rfl, rfl, by go_num, HS1.out, hB8⟩
                    case measure => simp [intOf]; omega
                · as_aux_lemma =>
                    rw [Nat.min_eq_left hbN]
                    have hget := H1.out.2 h1
                    have hS1 := H1.out.1
                    rw [if_pos h1] at hS1
                    have HS1 := show Hid _ from hS1
                    have hSlen : (S0.length : Int) < (S.length : Int) := by
                      rcases Nat.lt_or_ge S0.length S.length with h | h
                      · omega
                      · rw [List.getElem?_eq_none h] at hget
                        cases hget
                    have hA2 := hA.below hB8
                    clear hS1 H1 E1 HTEST hA
                    rcases hA2 with h | ⟨bs, rfl, hbs, hcells⟩
                    · rw [h] at hget
                      simp at hget
                    obtain ⟨z0, z1, z2, z3, z4, z5, z6, z7⟩ := hcells _ _ hget
                    simp only at z0 z1 z2 z3 z4 z5 z6 z7
                    have hsp := fun w => spanFields_any x.p x.d x.ch x.ru x.we a b2 (total S0) w
                    obtain ⟨df, hdf⟩ : ∃ df, df = b2 - a := ⟨_, rfl⟩
                    have esub : (b2 : Int) - (a : Int) = (df : Int) := by omega
                    have ewd := wrap_nat df (by omega)
                    have htd : (total S0 : Int) + (df : Int) ≤ 1048576 := by have := HA1.out.2.2; have := HA1.out.2.1; omega
                    have htot : total (S0 ++ [⟨x, a, b2, total S0⟩]) = total S0 + df := by rw [total_append, hdf]; rfl
                    have HTOT := show Hid _ from htot
                    clear hcells hget hdf htot
                    go_wp2_with fail
                    refine (hsp _).mono ?_
                    rintro e w7 ⟨rfl, hb7⟩
                    have i0 := (hb7.cell (p := ⟨wS.heap.size, 0, none⟩) (Nat.lt_of_lt_of_le hs6 hbj.size)).trans i0
                    have i1 := (hb7.cell (p := ⟨wS.heap.size, 1, none⟩) (Nat.lt_of_lt_of_le hs6 hbj.size)).trans i1
                    have i2 := (hb7.cell (p := ⟨wS.heap.size, 2, none⟩) (Nat.lt_of_lt_of_le hs6 hbj.size)).trans i2
                    have i3 := (hb7.cell (p := ⟨wS.heap.size, 3, none⟩) (Nat.lt_of_lt_of_le hs6 hbj.size)).trans i3
                    have i4 := (hb7.cell (p := ⟨wS.heap.size, 4, none⟩) (Nat.lt_of_lt_of_le hs6 hbj.size)).trans i4
                    have hB9 := hB8.trans (hb7.mono hB8.size)
                    clear hsp z0 z1 z2 z3 z4 z5 z6 z7 hb7
                    go_wp2_with fail
                    go_roundw
                    case rel => exact ⟨i + 1, S0 ++ [(⟨x, a, b2, total S0⟩ : Sp)], by omega, rfl, by rw [List.length_append]; go_num, by rw [HTOT.out]; go_num, by go_num, HS1.out, hB9⟩
                    case measure => simp [intOf]; omega
          · as_aux_lemma =>
              obtain rfl : i = k := by omega
              have hSS := hS0.uniq HS.out
              subst hSS
              clear HS hS0 hA
              go_wp2_with fail
              go_ret
              exact ⟨rfl, hbW5.trans (hbi.mono hbW5.size)⟩

theorem exact_any (u : Option Addr) (n c : Nat) (C : Nat → Cu) (K M : Int) (w : World) (hn : n ≤ maxLen) (hC : CutsAt w u n C) (hR : ∀ i, i < n → (C i).rng) (hM : M < 9223372036854775808) :
    Calls Try.prog 5 #[.slice u n c, .int .i64 K, .int .i64 M] w (Says w) := by
  by_cases h0 : (n : Int) ≤ 65536 ∧ (n : Int) * 40 ≤ 1048576
  · by_cases h : M < 1 ∨ K < 1 ∨ M < K
    · exact exact_km u n c K M w hn h0.1 h0.2 h
    · exact exact_main u n c C K M w hn hC hR hM h0.1 h0.2 (by omega) (by omega) (by omega)
  · exact exact_big u n c K M w hn h0

end Go.Proofs.Qxb6605954a
