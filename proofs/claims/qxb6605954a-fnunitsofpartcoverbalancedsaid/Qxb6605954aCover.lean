/-
  FnUnitsOfPartCoverBalanced (6).
-/
import Derived.Test.Qxb6605954aCover0
namespace Go.Proofs.Qxb6605954a
open Go.RowKit

theorem Rep.pos_le {C : Nat → Cu} {M T n K q ci nx : Nat} (h : Rep C M T n K q ci nx) : pos C ci nx ≤ lineN C n := by
  rcases Nat.lt_or_ge ci n with hc | hc
  · exact Go.Proofs.Qxb6605954a.pos_le hc (h.nx_le hc)
  · have e : ci = n := by have := h.1; omega
    rw [e, h.2.1 e]
    exact Nat.le_refl _

set_option maxRecDepth 100000 in
set_option maxHeartbeats 8000000 in
theorem cover_main (u : Option Addr) (n c : Nat) (C : Nat → Cu) (M : Int) (w : World) (hn : n ≤ maxLen) (hC : CutsAt w u n C) (hR : ∀ i, i < n → (C i).rng) (h1 : (n : Int) ≤ 4096) (g1 : ¬ M < 1) (g2 : ¬ 65536 < M) :
    Calls Try.prog 6 #[.slice u n c, .int .i64 M] w (Says w) := by
  have hbt := fun w => bytes25 u n c M w hn
  rw [decide_eq_true (show n ≤ 1048576 by omega)] at hbt
  have hn6 : n ≤ 65536 := by omega
  have hfit := cutsFit_any u n c C w hn6 hC hR
  have hmk := make_cuts n hn6
  go_enter Try.func6, Try.ntmps6
  go_wp2_with (go_at_call 25; refine (hbt _).mono ?_; rintro e w1 ⟨rfl, rfl⟩)
  clear hbt
  go_loopw [5] (WOk w C n) (fun i _ => n - (intOf i).toNat)
  case atStart => exact ⟨0, Nat.zero_le _, rfl, fun j hj => absurd hj (Nat.not_lt_zero _), rfl⟩
  case round =>
    obtain ⟨k, hk, rfl, hW, rfl⟩ := hrel
    by_cases hlt : k < n
    · as_aux_lemma =>
        obtain ⟨b, o, rfl, hbl, hA⟩ := hC.at hlt
        clear hmk hfit
        generalize hx : C k = x at hA
        have hw' : 1 ≤ x.we → ∀ j, j < k + 1 → 1 ≤ (C j).we := fun h j hj => by
          rcases Nat.lt_succ_iff_lt_or_eq.1 hj with h2 | rfl
          · exact hW j h2
          · rw [hx]; exact h
        have HW := show Hid _ from hw'
        clear hW hw' hx
        obtain ⟨q0, q1, q2, q3, q4⟩ := hA
        by_cases hz : (x.we : Int) < 1
        · go_wp2_with fail
          go_ret
          exact ⟨rfl, Below.refl _ _⟩
        · go_wp2_with fail
          go_roundw
          case rel => exact ⟨k + 1, by omega, by go_num, HW.out (by omega), rfl⟩
          case measure => simp [intOf]; omega
    · obtain rfl : k = n := by omega
      go_wp2_with fail
      refine hfit.mono ?_
      rintro e w2 ⟨⟨l, m, ok, rfl, hok⟩, hb2⟩
      have HOK := show Hid _ from hok
      clear hok
      cases ok
      · as_aux_lemma =>
          clear hmk
          go_wp2_with fail
          go_ret
          exact ⟨rfl, hb2⟩
      obtain ⟨hF, rfl, rfl⟩ := HOK.out rfl
      clear HOK hfit
      have hT : 0 < k → 0 < lineN C k := fun h => line_pos hF.ok hW h
      have hline := hF.line
      change lineN C k ≤ 2305843009213693952 at hline
      obtain ⟨T, hTe⟩ : ∃ T, T = lineN C k := ⟨_, rfl⟩
      rw [← hTe] at hT hline ⊢
      have HTe := show Hid _ from hTe
      clear hTe
      obtain ⟨M', hM'⟩ : ∃ m : Nat, M = m := ⟨M.toNat, by omega⟩
      have hM1 : 1 ≤ M' := by omega
      have hM6 : M' ≤ 65536 := by omega
      subst hM'
      have HW := show Hid _ from hW
      have HT := show Hid _ from hT
      clear g1 g2 h1 hW hT
      go_wp2_with fail
      go_loopw [10] (BuiltAt w2 C k) (fun i _ => k - (intOf i).toNat)
      case atStart => exact builtAt_start _ _ _
      case round =>
        obtain ⟨i, hi, rfl, hB, hE, hfz, hb3, hs3⟩ := hrel
        by_cases hlt2 : i < k
        · as_aux_lemma =>
            obtain ⟨b, o, rfl, hbl, hA⟩ := (hC.below (hb2.trans (hb3.mono hb2.size)) (Nat.le_refl _)).at hlt2
            generalize hx : C i = x at hA
            obtain ⟨q0, q1, q2, q3, q4⟩ := hA
            have f0 := cell_wd q0
            have f1 := cell_wd q1
            have f2 := cell_wd q2
            have f3 := cell_wd q3
            have f4 := cell_wd q4
            obtain ⟨v0, p0⟩ := hE (i * 5) (by omega)
            obtain ⟨v1, p1⟩ := hE (i * 5 + 1) (by omega)
            obtain ⟨v2, p2⟩ := hE (i * 5 + 2) (by omega)
            obtain ⟨v3, p3⟩ := hE (i * 5 + 3) (by omega)
            obtain ⟨v4, p4⟩ := hE (i * 5 + 4) (by omega)
            have r0 := cell_wd p0
            have r1 := cell_wd p1
            have r2 := cell_wd p2
            have r3 := cell_wd p3
            have r4 := cell_wd p4
            have fz := fun o n os => ((below_wd wr n os).frozen (p := ⟨w2.heap.size, o, none⟩) hs3).trans (hfz o)
            have hki : (i : Int) < (k : Int) := by omega
            go_wp2_with fail
            refine wp_region_wd_tail 29 (by kernel_rfl) (by kernel_rfl) ?_
            simp only [List.take_succ_cons, List.take_zero, List.drop_succ_cons, List.drop_zero]
            iterate 27 quiet_step (fail)
            quiet_step (exact calls_wd (makeCut_any x.p x.d x.ch x.ru x.we _))
            quiet_step (fail)
            refine wpQuiet_nil ?_
            rintro w4 ⟨p, rfl⟩
            go_wp2_with fail
            exact ⟨builtAt_step hlt2 hx (by go_num) hB hE hfz hb3 hs3 (below_wd _ _ _), by simp [intOf]; omega⟩
        · obtain rfl : i = k := by omega
          obtain ⟨wN, rfl⟩ : ∃ x, x = wr := ⟨_, rfl⟩
          have hbW := hb2.trans (hb3.mono hb2.size)
          have hCu := builtAt_cuts hB hs3
          clear hB hE hfz hmk hR
          go_wp2_with fail
          refine (networks_any _ i i wN).mono ?_
          rintro e w4 ⟨rfl, hg4, hb4, hs4⟩
          have hCb := hCu.below hb4 (Nat.le_refl _)
          have hbW4 := hbW.trans (hb4.mono hbW.size)
          have hCw := hC.below hbW4 (Nat.le_refl _)
          clear hCu hbW hb4 hC hb2 hb3
          go_wp2_with fail
          go_loopw [12, 13, 14] (CvO w4 C M' T i) (fun _ _ k _ => M' + 1 - (intOf k).toNat)
          case atStart => exact ⟨0, 0, 1, Nat.le_refl _, by omega, rfl, rfl, rfl, Rep.start C M' T i, Below.refl _ _⟩
          case round =>
            obtain ⟨c0, x0, K, hK1, hKM, rfl, rfl, rfl, hRep, hbi⟩ := hrel
            have HRep := show Hid _ from hRep
            clear hRep
            by_cases hle : K ≤ M'
            · have hsh := share_any wN.heap.size _ i i C K M' wr ((hbi.cell (p := ⟨wN.heap.size, 6, none⟩) hs4).trans hg4) hn6 (hCb.below hbi (Nat.le_refl _)) hF (by rw [← HTe.out]; exact HT.out) hK1 hle (by omega)
              go_wp2_with fail
              refine hsh.mono ?_
              rintro e w5 ⟨S, us, cs, rfl, hS, hA, hb5⟩
              have hb45 := hbi.trans (hb5.mono hbi.size)
              rw [← HTe.out] at hS
              have HS := show Hid _ from hS
              have hSl : S.length ≤ 65536 := by have := hS.bound.1; omega
              have hSt : total S ≤ 1048576 := by have h1 := hS.bound.2; have h2 : unitsN C i ≤ 1048576 := hF.units; omega
              clear hS hsh hb5
              go_wp2_with fail
              go_loopw [12, 13, 16, 17, 18] (CvI w5 C M' T i K (pos C c0 x0) S) (fun _ _ _ _ j _ => S.length - (intOf j).toNat)
              case atStart => exact ⟨c0, x0, 0, 0, 0, Nat.zero_le _, rfl, rfl, rfl, rfl, rfl, Nat.zero_le _, rfl, HRep.out, ⟨by omega, Or.inl rfl⟩, Below.refl _ _⟩
              case round =>
                obtain ⟨c1, x1, v, j, q, hj, rfl, rfl, rfl, rfl, rfl, hq, hSq, hR1, hBal, hbj⟩ := hrel
                by_cases hjl : j < S.length
                · obtain ⟨q', a, b2, hq', hFa, hFb, hab, hget, hSq', hR2⟩ := Rep.find HS.out hjl (i - q) q (Nat.le_refl _) hq hSq hR1
                  rcases hCw with h0 | ⟨b, o, rfl, hbw, hcut⟩
                  · omega
                  rcases hA.below hbj with h | ⟨bs, rfl, hbs, hcells⟩
                  · rw [h] at hget
                    simp at hget
                  obtain ⟨z0, z1, z2, z3, z4, z5, z6, z7⟩ := hcells _ _ hget
                  simp only at z0 z1 z2 z3 z4 z5 z6 z7
                  have ok := hF.ok q' hq'
                  have htt := total_take hget
                  simp only at htt
                  have htl : total (S.take (j + 1)) ≤ total S := by
                    have := total_append (S.take (j + 1)) (S.drop (j + 1))
                    rw [List.take_append_drop] at this
                    omega
                  have HP := show Hid _ from And.intro hFa (And.intro hFb (And.intro hSq' (And.intro hR2 (And.intro hBal htt))))
                  have hsp := fun w => spanFields_any (C q').p (C q').d (C q').ch (C q').ru (C q').we a b2 (total (S.take j)) w
                  have hb2n : b2 ≤ cnt (C q').ch (C q').ru := hFb.1
                  have hN : cnt (C q').ch (C q').ru ≤ 1048576 := Nat.le_trans (n_le_units (C := C) hq') hF.units
                  clear hcells hget hFa hFb hSq hSq' hR1 hR2 hBal htt
                  go_wp2_with fail
                  refine (hsp _).mono ?_
                  rintro e w6 ⟨rfl, hb6⟩
                  have hb56 := hbj.trans (hb6.mono hbj.size)
                  clear hsp z0 z1 z2 z3 z4 z5 z6 z7 hb6
                  go_wp2_with fail
                  go_loopw [12, 13] (CvA w6 C M' T i K q' (pos C c1 x1)) (fun k _ _ => i - (intOf k).toNat)
                  case atStart => exact ⟨c1, x1, rfl, rfl, HP.out.2.2.2.1, rfl, Below.refl _ _⟩
                  case round =>
                    obtain ⟨c2, x2, rfl, rfl, hR3, hp, hb7⟩ := hrel
                    have hbAll := hb45.trans ((hb56.trans (hb7.mono hb56.size)).mono hb45.size)
                    by_cases hc2 : c2 < i
                    · by_cases hx2 : x2 = (C c2).n
                      · as_aux_lemma =>
                          obtain ⟨q0, q1, q2, q3, q4⟩ := (hcut c2 hc2).below hbAll hbw
                          have ok2 := hF.ok c2 hc2
                          have hR4 : Rep C M' T i K q' (c2 + 1) 0 := by rw [hx2] at hR3; exact hR3.adv hc2
                          have hp4 : pos C (c2 + 1) 0 = pos C c1 x1 := by rw [pos_adv, ← hx2]; exact hp
                          have HR4 : Hid (Rep C M' T i K q' (c2 + 1) 0 ∧ pos C (c2 + 1) 0 = pos C c1 x1) := And.intro hR4 hp4
                          have hcnt := fun w => unitCount_any (C c2).p (C c2).d (C c2).ch (C c2).ru (C c2).we w ok2
                          rw [show cnt (C c2).ch (C c2).ru = x2 from hx2.symm] at hcnt
                          generalize C c2 = y at q0 q1 q2 q3 q4 hcnt
                          have hci : (c2 : Int) < (i : Int) := by omega
                          clear hR4 hp4 hR3 hp hx2 ok2
                          go_wp2_with (go_at_call 21; refine (hcnt _).mono ?_; rintro e w7 ⟨rfl, hb8⟩)
                          go_roundw
                          case rel => exact ⟨c2 + 1, 0, by go_num, rfl, HR4.out.1, HR4.out.2, hb7.trans (hb8.mono hb7.size)⟩
                          case measure => simp [intOf]; omega
                      · obtain ⟨e1, e2⟩ := hR3.at hF.ok hq' HP.out.1 HP.out.2.1 hab (fun _ => hx2)
                        subst e1 e2
                        obtain ⟨q0, q1, q2, q3, q4⟩ := (hcut c2 hc2).below hbAll hbw
                        have hcnt := fun w => unitCount_any (C c2).p (C c2).d (C c2).ch (C c2).ru (C c2).we w ok
                        have hwt := fun j w => unitWeight_any (C c2).p (C c2).d (C c2).ch (C c2).ru (C c2).we j w ok
                        have HQ := show Hid _ from And.intro hR3 hp
                        have hci : (c2 : Int) < (i : Int) := by omega
                        obtain ⟨N, hNe⟩ : ∃ N, N = cnt (C c2).ch (C c2).ru := ⟨_, rfl⟩
                        have tne : ((x2 : Int) == (N : Int)) = false := by
                          have : x2 ≠ N := by rw [hNe]; exact hx2
                          simp
                          omega
                        rw [← hNe] at hcnt hwt hb2n hN
                        have HNe := show Hid _ from hNe
                        have hvb : v ≤ lineN C c2 + sumN (C c2).w x2 := by
                          have h1 := HP.out.2.2.2.2.1.1
                          have h2 : pos C c2 x2 = lineN C c2 + sumN (C c2).w x2 := rfl
                          omega
                        have hll : lineN C c2 + (C c2).len ≤ T := by rw [HTe.out]; exact sumN_mono (f := fun i => (C i).len) (show c2 + 1 ≤ i by omega)
                        generalize hx : C c2 = x at q0 q1 q2 q3 q4 hcnt hwt ok hvb hll HNe ⊢
                        have HX := show Hid _ from hx
                        have HB := show Hid _ from And.intro hvb hll
                        have HBT := show Hid _ from htl
                        clear hNe hx hR3 hp hx2 hvb hll htl
                        have n0 : ¬ (i : Int) ≤ (c2 : Int) := by omega
                        have n1 : ¬ (b2 : Int) ≤ (x2 : Int) := by omega
                        have n2 : ¬ (N : Int) < (b2 : Int) := by omega
                        have n3 : ¬ b2 ≤ x2 := by omega
                        have n4 : ¬ N < b2 := by omega
                        have n5 : decide (b2 ≤ x2) = false := decide_eq_false n3
                        have n6 : decide (N < b2) = false := decide_eq_false n4
                        go_wp2_with fail
                        refine (hcnt _).mono ?_
                        rintro e w7 ⟨rfl, hb8⟩
                        have hbb := World.block_lt_of_cell? _ _ q0
                        have q0 := (hb8.cell (p := ⟨b, o + c2 * 5, none⟩) hbb).trans q0
                        have q1 := (hb8.cell (p := ⟨b, o + c2 * 5 + 1, none⟩) hbb).trans q1
                        have q2 := (hb8.cell (p := ⟨b, o + c2 * 5 + 2, none⟩) hbb).trans q2
                        have q3 := (hb8.cell (p := ⟨b, o + c2 * 5 + 3, none⟩) hbb).trans q3
                        have q4 := (hb8.cell (p := ⟨b, o + c2 * 5 + 4, none⟩) hbb).trans q4
                        have hb78 := hb7.trans (hb8.mono hb7.size)
                        clear hb8 hb7 hbAll
                        go_wp2_with fail
                        refine (hcnt _).mono ?_
                        rintro e w8 ⟨rfl, hb9⟩
                        have g0 := (hb9.cell (p := ⟨w7.heap.size, 0, none⟩) (by simp)).trans (c := some (.int .i64 x.p)) (by simp)
                        have g1 := (hb9.cell (p := ⟨w7.heap.size, 1, none⟩) (by simp)).trans (c := some (.int .i64 x.d)) (by simp)
                        have g2 := (hb9.cell (p := ⟨w7.heap.size, 2, none⟩) (by simp)).trans (c := some (.int .u64 x.ch)) (by simp)
                        have g3 := (hb9.cell (p := ⟨w7.heap.size, 3, none⟩) (by simp)).trans (c := some (.int .u64 x.ru)) (by simp)
                        have g4 := (hb9.cell (p := ⟨w7.heap.size, 4, none⟩) (by simp)).trans (c := some (.int .u64 x.we)) (by simp)
                        have hb68 := (hb78.alloc hb78.size (.cells #[.int .i64 x.p, .int .i64 x.d, .int .u64 x.ch, .int .u64 x.ru, .int .u64 x.we] 48)).trans (hb9.mono (by have := hb78.size; simp; omega))
                        have hb58 := hb56.trans (hb68.mono hb56.size)
                        have hs8 : w7.heap.size < w8.heap.size := by have := hb9.size; simp at this; omega
                        clear hb9 hb78 q0 q1 q2 q3 q4 hcnt tne hb68
                        go_wp2_with fail
                        go_loopw [16, 28] (CvW w8 x v x2 b2) (fun _ t _ => b2 - (intOf t).toNat)
                        case atStart => exact ⟨v, x2, Nat.le_refl _, Nat.le_of_lt hab, rfl, rfl, rfl, Below.refl _ _⟩
                        case round =>
                          obtain ⟨v1, t, ht1, ht2, rfl, rfl, hv1, hb10⟩ := hrel
                          by_cases htl : t < b2
                          · as_aux_lemma =>
                              have i0 := (hb10.cell (p := ⟨w7.heap.size, 0, none⟩) hs8).trans g0
                              have i1 := (hb10.cell (p := ⟨w7.heap.size, 1, none⟩) hs8).trans g1
                              have i2 := (hb10.cell (p := ⟨w7.heap.size, 2, none⟩) hs8).trans g2
                              have i3 := (hb10.cell (p := ⟨w7.heap.size, 3, none⟩) hs8).trans g3
                              have i4 := (hb10.cell (p := ⟨w7.heap.size, 4, none⟩) hs8).trans g4
                              have hc := fun w => hwt t w (by omega)
                              have s1 : sumN x.w (t + 1) = sumN x.w t + wt x.ch x.ru x.we t := rfl
                              have s2 : sumN x.w (t + 1) ≤ x.len := sumN_mono (show t + 1 ≤ x.n by have := HNe.out; show t + 1 ≤ cnt x.ch x.ru; omega)
                              generalize wt x.ch x.ru x.we t = d at s1 hc
                              obtain ⟨v2, hv2⟩ : ∃ v2, v2 = v1 + d := ⟨_, rfl⟩
                              have hvv : v2 ≤ 2305843009213693952 := by have := HB.out.1; have := HB.out.2; omega
                              have es : IntKind.u64.wrap ((v1 : Int) + (d : Int)) = (v2 : Int) := by rw [IntKind.wrap_u64]; omega
                              have HV := show Hid _ from (show v2 + sumN x.w x2 = v + sumN x.w (t + 1) by omega)
                              clear s1 s2 hv2 hvv hv1 g0 g1 g2 g3 g4
                              go_wp2_with fail
                              refine (hc _).mono ?_
                              rintro e w9 ⟨rfl, hb11⟩
                              go_wp2_with fail
                              go_roundw
                              case rel => exact ⟨v2, t + 1, by omega, by omega, rfl, by go_num, HV.out, hb10.trans (hb11.mono hb10.size)⟩
                              case measure => simp [intOf]; omega
                          · as_aux_lemma =>
                              obtain rfl : t = b2 := by omega
                              obtain ⟨df, hdf⟩ : ∃ df, df = t - x2 := ⟨_, rfl⟩
                              have esub : (t : Int) - (x2 : Int) = (df : Int) := by omega
                              have ewd := wrap_nat df (by omega)
                              have htt := HP.out.2.2.2.2.2
                              have htd : (total (S.take j) : Int) + (df : Int) ≤ 1048576 := by have := HBT.out; omega
                              have HTT := show Hid _ from (show total (S.take (j + 1)) = total (S.take j) + df by omega)
                              have HV := show Hid _ from hv1
                              clear htt hdf hv1 g0 g1 g2 g3 g4
                              have hfin := hb58.trans (hb10.mono hb58.size)
                              go_wp2_with fail
                              go_roundw
                              case rel => exact ⟨c2, t, v1, j + 1, c2 + 1, hjl, rfl, rfl, rfl, by rw [HTT.out]; go_num, by go_num, hq', HP.out.2.2.1, HQ.out.1.take hq' HP.out.2.1, Bal.step (by rw [HQ.out.2]; exact HP.out.2.2.2.2.1) (hF.ok c2 hq') (HT.out (by omega)) hq' HP.out.1 HP.out.2.1 hab (by rw [HX.out]; exact HV.out), hfin⟩
                              case measure => simp [intOf]; omega
                    · exfalso
                      obtain ⟨e1, _⟩ := hR3.at hF.ok hq' HP.out.1 HP.out.2.1 hab (fun h => absurd h hc2)
                      omega
                · obtain rfl : j = S.length := by omega
                  rw [List.take_length] at hSq
                  have hR2 := Rep.through HS.out (i - q) q (Nat.le_refl _) hq hSq hR1
                  have HR : Hid (Rep C M' T i (K + 1) 0 c1 x1) := hR2.nextPart
                  have hb5r := hb45.trans (hbj.mono hb45.size)
                  have hvT : v ≤ T := by have := hR2.pos_le; have := hBal.1; rw [HTe.out]; omega
                  clear hSq hR1 hR2 hA HS
                  by_cases hv : (0 : Int) < (v : Int)
                  · as_aux_lemma =>
                      have hbal := hBal.end hK1 (by omega)
                      obtain ⟨ah, al, bl, m1, m2, hbl, m3⟩ := bal_calls (C := C) (n := i) hM6 hline hvT hbal
                      have eM := wrap_nat M' (by omega)
                      obtain ⟨sl, hsl⟩ : ∃ sl, sl = bl + T := ⟨_, rfl⟩
                      rw [← hsl] at m3
                      have es : IntKind.u64.wrap ((bl : Int) + (T : Int)) = (sl : Int) := by rw [IntKind.wrap_u64]; omega
                      have tlt : ¬ (sl : Int) < (bl : Int) := by omega
                      clear hbal hsl hbl hline hvT hBal
                      go_wp2_with fail
                      refine (m1 _).mono ?_
                      rintro e w6 ⟨rfl, rfl⟩
                      go_wp2_with fail
                      refine (m2 _).mono ?_
                      rintro e w6 ⟨rfl, rfl⟩
                      go_wp2_with fail
                      refine (m3 _).mono ?_
                      rintro e w6 ⟨rfl, rfl⟩
                      go_wp2_with fail
                      go_roundw
                      case rel => exact ⟨c1, x1, K + 1, by omega, by omega, rfl, rfl, by go_num, HR.out, hb5r⟩
                      case measure => simp [intOf]; omega
                  · as_aux_lemma =>
                      clear hBal hvT
                      go_wp2_with fail
                      go_roundw
                      case rel => exact ⟨c1, x1, K + 1, by omega, by omega, rfl, rfl, by go_num, HR.out, hb5r⟩
                      case measure => simp [intOf]; omega
            · have hKe : K = M' + 1 := by omega
              have HZ := show Hid _ from Rep.back (show Rep C M' T i (M' + 1) 0 c0 x0 from hKe ▸ HRep.out)
              have hKi : ¬ (K : Int) ≤ (M' : Int) := by omega
              clear hKe hle hKM
              clear HRep hCb hg4
              go_wp2_with fail
              go_loopw [12, 13] (CvZ w4 C M' T i) (fun k _ _ => i - (intOf k).toNat)
              case atStart => exact ⟨c0, x0, rfl, rfl, HZ.out, hbi⟩
              case round =>
                obtain ⟨c2, x2, rfl, rfl, hR3, hb7⟩ := hrel
                by_cases hc2 : c2 < i
                · as_aux_lemma =>
                    rcases hCw with h0 | ⟨b, o, rfl, hbw, hcut⟩
                    · omega
                    have hx2 : x2 = (C c2).n := by
                      have h := hR3
                      rw [HTe.out] at h
                      exact h.last hF.ok HW.out hM1 hc2
                    obtain ⟨q0, q1, q2, q3, q4⟩ := (hcut c2 hc2).below hb7 hbw
                    have ok2 := hF.ok c2 hc2
                    have hR4 : Rep C M' T i M' i (c2 + 1) 0 := by rw [hx2] at hR3; exact hR3.adv hc2
                    have HR4 : Hid (Rep C M' T i M' i (c2 + 1) 0) := hR4
                    have hcnt := fun w => unitCount_any (C c2).p (C c2).d (C c2).ch (C c2).ru (C c2).we w ok2
                    rw [show cnt (C c2).ch (C c2).ru = x2 from hx2.symm] at hcnt
                    generalize C c2 = y at q0 q1 q2 q3 q4 hcnt
                    have hci : (c2 : Int) < (i : Int) := by omega
                    clear hR4 hR3 hx2 ok2
                    go_wp2_with (go_at_call 21; refine (hcnt _).mono ?_; rintro e w7 ⟨rfl, hb8⟩)
                    go_roundw
                    case rel => exact ⟨c2 + 1, 0, by go_num, rfl, HR4.out, hb7.trans (hb8.mono hb7.size)⟩
                    case measure => simp [intOf]; omega
                · as_aux_lemma =>
                    obtain rfl : c2 = i := by have := hR3.1; omega
                    clear hCw
                    go_wp2_with fail
                    go_ret
                    exact ⟨rfl, hbW4.trans (hb7.mono hbW4.size)⟩

theorem cover_any (u : Option Addr) (n c : Nat) (C : Nat → Cu) (M : Int) (w : World) (hn : n ≤ maxLen) (hC : CutsAt w u n C) (hR : ∀ i, i < n → (C i).rng) :
    Calls Try.prog 6 #[.slice u n c, .int .i64 M] w (Says w) := by
  by_cases h0 : (n : Int) ≤ 4096 ∧ (n : Int) * 40 ≤ 1048576
  · by_cases h : M < 1 ∨ 65536 < M
    · exact cover_m u n c M w hn h0.1 h
    · exact cover_main u n c C M w hn hC hR h0.1 (by omega) (by omega)
  · exact cover_big u n c M w hn h0

end Go.Proofs.Qxb6605954a
