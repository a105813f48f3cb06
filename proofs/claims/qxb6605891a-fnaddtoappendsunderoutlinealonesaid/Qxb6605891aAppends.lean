/-
  THE APPENDS LAW's OWN WALK: entries that are not nil.
-/
import Derived.Test.Qxb6605891aAppends0
import Derived.Deep.DeepCutAuto
namespace Go.Proofs.Qxb6605891a
open Go.RowKit
attribute [local go_sem ↓] Go.wp_at_zero Go.wp_at_succ

/-- What holds at the head of the loop that fills the map. -/
def Bld (w2 : World) (bm n : Nat) (K : Nat → ByteArray) (Z : Nat → KVs) (i : Value) (wr : World) : Prop :=
  ∃ (k : Nat) (M : Groups), k ≤ n ∧ i = .int .i64 k ∧ GM wr (bm + 1) wr.heap.size bm (65536 + k) M ∧ HoldsE K Z k M ∧ Below w2.heap.size w2 wr ∧ bm < wr.heap.size

/-- .. of the loop that gathers one entry's values. -/
def Inn (wT : World) (zs : KVs) (sv j : Value) (wr : World) : Prop :=
  ∃ t : Nat, t ≤ zs.length ∧ j = .int .i64 t ∧ owns wr wT.heap.size sv (zs.take t) ∧ Below wT.heap.size wT wr

/-- What holds at the head of the loop that checks each entry. -/
def Chk4 (n : Nat) (K : Nat → ByteArray) (wS : World) (d i : Value) (wr : World) : Prop :=
  ∃ (k : Nat) (L : List ByteArray), k ≤ n ∧ i = .int .i64 k ∧ d = .int .i64 L.length ∧ Lasts K n k L ∧ Below wS.heap.size wS wr

/-- What the variable 'old' holds behind its 'if'. -/
def OldAt (zo : KVs) (w7 : World) (o : Value) (wc : World) : Prop := ∃ uo co, o = .slice uo zo.length co ∧ PairsAt w7 0 uo zo ∧ w7 = wc

theorem PairsAt.lower {w : World} {lo : Nat} {u : Option Addr} {zs : KVs} (h : PairsAt w lo u zs) : PairsAt w 0 u zs := by
  rcases h with h | ⟨g, o, h1, _, h3, h4⟩
  · exact Or.inl h
  · exact Or.inr ⟨g, o, h1, Nat.zero_le _, h3, h4⟩

set_option maxRecDepth 100000 in
set_option maxHeartbeats 4000000 in
theorem appends_some (ad : Addr) (n cap : Nat) (K : Nat → ByteArray) (Z : Nat → KVs) (s : ByteArray) (va vc : Int) (w : World) (hn : n ≤ maxLen) (hsz : s.size ≤ maxLen) {lo : Nat} (hs : Ents w lo ad n K Z) :
    Calls Try.prog 3 #[.slice (some ad) n cap, .string s, .agg #[.int .i64 va, .int .i64 vc]] w fun e w' => e = .returned (.bool true) ∧ Below w.heap.size w w' := by
  have hmn := fun (r : Option Nat) (w : World) => run_eql_map_nil (P := Try.prog) w 30 9 31 r Try.underlying30
  have hmn2 := fun (r : Option Nat) (w : World) => run_neq_map_nil (P := Try.prog) w 30 9 31 r Try.underlying30
  have hnl2 := fun (a : Option Addr) (n c : Nat) (w : World) => run_neq_slice_nil_any (P := Try.prog) w 22 28 a n c 0 0 Try.underlying22
  have hmm := @run_makeMap Try.prog
  have hsz' := hsz
  have hn' := hn
  unfold maxLen at hsz' hn'
  have hbx0 := Box_new w va vc
  have hs0 := hs.below ((Below.refl w.heap.size w).alloc (Nat.le_refl _) (.cells #[.int .i64 va, .int .i64 vc] 24))
  by_cases hbig : (n : Int) ≤ 4096 ∧ (s.size : Int) ≤ 1048576
  · obtain ⟨h12, h20⟩ := hbig
    go_enter Try.func3, Try.ntmps3
    go_wp2_with (go_at_call 5; refine (zzBytesE_some ad n cap K Z s va vc _ hn hsz hs0).mono ?_; rintro e w1 ⟨⟨x, rfl⟩, hb1⟩; cases x)
    · go_ret
      exact ⟨rfl, ((Below.refl _ _).alloc (Nat.le_refl _) _).trans (hb1.mono (by simp))⟩
    · go_ret
      exact ⟨rfl, ((Below.refl _ _).alloc (Nat.le_refl _) _).trans (hb1.mono (by simp))⟩
    · have hbx := hbx0.below hb1 (by simp)
      have hs1 := hs0.below hb1
      have hb2 := ((Below.refl w.heap.size w).alloc (Nat.le_refl _) _).trans (hb1.mono (show w.heap.size ≤ _ by simp))
      have hsz1 : w.heap.size < w1.heap.size := by have := hb1.size; simp at this; omega
      clear hb1 hbx0 hs0 hs
      go_loopw [7, 8] (fun t i wr => ∃ k : Nat, ∃ z : Int, k ≤ n ∧ i = .int .i64 k ∧ t = .int .i64 z ∧ 0 ≤ z ∧ z ≤ 1048576 ∧ (∀ i, i < k → (Z i).length ≤ 65536) ∧ Below w1.heap.size w1 wr) (fun _ i _ => n - (intOf i).toNat)
      case atStart => exact ⟨0, s.size + 40 * n, Nat.zero_le _, rfl, rfl, by omega, by omega, fun i hi => by omega, Below.refl _ _⟩
      case round =>
        obtain ⟨k, z, hk, rfl, rfl, hz0, hz1, hZs, hbr⟩ := hrel
        by_cases hlt : k < n
        · obtain ⟨hsp, hK, hZ, c0, u, c, c1, _⟩ := (hs1.below hbr) k hlt
          obtain ⟨b, off, sp⟩ := ad
          simp only at hsp c0 c1
          subst hsp
          unfold maxLen at hK hZ
          clear hs1
          by_cases hk1 : ((K k).size : Int) ≤ 1048576
          · by_cases hk2 : ((Z k).length : Int) ≤ 65536
            · go_wp2_with fail
              go_quiet (fail)
              go_wp2_with fail
              · go_ret
                exact ⟨rfl, hb2.trans ((below_drewN hbr _).mono (by omega))⟩
              · go_roundw
                case rel =>
                  refine ⟨k + 1, _, by omega, by go_num, rfl, by omega, by assumption, fun i hi => ?_, below_drewN hbr _⟩
                  by_cases h : i = k
                  · rw [h]; omega
                  · exact hZs i (by omega)
                case measure => simp [intOf]; omega
            · go_wp2_with fail
              go_ret
              exact ⟨rfl, hb2.trans (hbr.mono (by omega))⟩
          · go_wp2_with fail
            go_ret
            exact ⟨rfl, hb2.trans (hbr.mono (by omega))⟩
        · have hZn : ∀ i, i < n → (Z i).length ≤ 65536 := fun i hi => hZs i (by omega)
          clear hZs hz0 hz1
          go_wp2_with fail
          refine (cloneEntries_some ad n cap K Z wr (by omega) hZn (hs1.below hbr)).mono ?_
          rintro e w2 ⟨rfl, hen, hb3, hsz3⟩
          have hbx2 := (hbx.below hbr hsz1).below hb3 (Nat.lt_of_lt_of_le hsz1 hbr.size)
          have hbW := (hb2.trans (hbr.mono (Nat.le_of_lt hsz1))).trans (hb3.mono (Nat.le_of_lt (Nat.lt_of_lt_of_le hsz1 hbr.size)))
          obtain ⟨gE, hgE⟩ : ∃ g, g = wr.heap.size := ⟨_, rfl⟩
          rw [← hgE] at hen hsz3 ⊢
          have hwg : w.heap.size < gE := by rw [hgE]; exact Nat.lt_of_lt_of_le hsz1 hbr.size
          have HENT : Hid (Ents w2 (gE + 1) ⟨gE, 0, none⟩ n K Z) := hen
          clear hgE hb3 hbr hs1 hbx hb2 hsz1
          go_wp2_with fail
          go_loopw [10] (Bld w2 w2.heap.size n K Z) (fun i _ => n - (intOf i).toNat)
          case atStart => exact ⟨0, [], Nat.zero_le _, rfl, GM_made w2 _ _, holdsE_zero K Z, (Below.refl _ _).alloc (Nat.le_refl _) _, by simp⟩
          case round =>
            obtain ⟨k2, M, hk2, rfl, hgm, hM, hb4, hsz4⟩ := hrel
            by_cases hlt2 : k2 < n
            · have hZk := hZn k2 hlt2
              obtain ⟨_, hK, hZ, c0, u, c, c1, hpu⟩ := (hen.below hb4) k2 hlt2
              simp only [Nat.zero_add] at c0 c1
              have hgr : gE < wr.heap.size := Nat.lt_of_lt_of_le hsz3 hb4.size
              go_wp2_with fail
              obtain ⟨wT, rfl⟩ : ∃ x, x = wr := ⟨_, rfl⟩
              go_loopw [11, 12] (Inn wT (Z k2)) (fun _ j _ => (Z k2).length - (intOf j).toNat)
              case atStart => exact ⟨0, Nat.zero_le _, rfl, owns_nil _ _, Below.refl _ _⟩
              case round =>
                obtain ⟨t, ht, rfl, hos, hb5⟩ := hrel
                have e0 := (hb5.cell (p := ⟨gE, k2 * 2, none⟩) hgr).trans c0
                have e1 := (hb5.cell (p := ⟨gE, k2 * 2 + 1, none⟩) hgr).trans c1
                by_cases htl : t < (Z k2).length
                · obtain ⟨g', o', p, rfl, hg', q1, q2, hpk⟩ : ∃ (g' o' : Nat) (p : Int × Int), u = some ⟨g', o', none⟩ ∧ g' < wT.heap.size ∧ wr.cell? ⟨g', o' + t * 2, none⟩ = some (.int .i64 p.1) ∧ wr.cell? ⟨g', o' + t * 2 + 1, none⟩ = some (.int .i64 p.2) ∧ (Z k2)[t]? = some p := by
                    rcases hpu with h | ⟨g', o', h1, _, h3, h4⟩
                    · rw [h] at htl; simp at htl
                    · have hp := List.getElem?_eq_getElem htl
                      obtain ⟨a1, a2⟩ := h4 t _ hp
                      exact ⟨g', o', _, h1, h3, (hb5.cell (p := ⟨g', o' + t * 2, none⟩) h3).trans a1, (hb5.cell (p := ⟨g', o' + t * 2 + 1, none⟩) h3).trans a2, hp⟩
                  obtain ⟨pa, pc⟩ := p
                  simp only at q1 q2
                  have HP : Hid ((Z k2)[t]? = some (pa, pc)) := hpk
                  have htk : ((Z k2).take t).length = t := by simp; omega
                  have HT : Hid (((Z k2).take t).length = t) := htk
                  clear hpk htk
                  obtain ⟨i0, hi, hz0, hz1, hz2⟩ := info_parts Try.info33
                  have hti : (t : Int) < ((Z k2).length : Int) := by omega
                  have hki : (k2 : Int) < (n : Int) := by omega
                  have hT0 := hb5.size
                  have hnr : ∀ x, x < wT.heap.size → some x ≠ u11.ownBlock := fun x hx e => by have := (World.ownsRow.lt hos x e.symm).1; omega
                  go_wp2_with fail
                  go_region_held3 (fun w' => w'.cell? ⟨gE, k2 * 2 + 1, none⟩ = some (.slice (some ⟨g', o', none⟩) (Z k2).length c) ∧ w'.cell? ⟨g', o' + t * 2, none⟩ = some (.int .i64 pa) ∧ w'.cell? ⟨g', o' + t * 2 + 1, none⟩ = some (.int .i64 pc)) (first | go_keep | (refine ⟨(hgrow.cell_far ⟨gE, k2 * 2 + 1, none⟩ (by simp; omega) (hnr gE hgr)).trans ?_, (hgrow.cell_far ⟨g', o' + t * 2, none⟩ (by simp; omega) (hnr g' hg')).trans ?_, (hgrow.cell_far ⟨g', o' + t * 2 + 1, none⟩ (by simp; omega) (hnr g' hg')).trans ?_⟩ <;> go_keep)) (first | (go_at_call 7; refine (kept_lit _ _ _).mono ?_; rintro e w' ⟨rfl, rfl⟩) | (refine step_append_lies _ (by rfl) _ _ 31 (by rfl) wT.heap.size 33 i0 _ 2 32 Try.underlying31 hi hz0 hz1 hz2 rfl (by decide) _ ((Z k2).take t).length (kvCells ((Z k2).take t)) (by rfl) (by exact World.ownsRow.alloc (World.ownsRow.alloc hos _) _) ⟨wr.heap.size + 1, 0, none⟩ 1 1 [.iface 3 (.int .i64 pa), .iface 3 (.int .i64 pc)] (by rfl) rfl (by exact cell_two_next _ _ _ _ _) (kv_one pa pc) (by decide) (by rw [HT.out]; unfold maxLen; omega) (by rw [HT.out]; omega) (by simp; omega) (wr.heap.size + 2) (by simp) ?_; intro g cap2 w5 hown1 hgrow hat hltg))
                  have hos2 := owns_snoc hown1
                  have hb6 := (((hb5.drew).alloc (by simp; omega) _).alloc (by simp; omega) _).grown hgrow (by simp; omega) (fun k hk => (World.ownsRow.lt hos k hk).1)
                  have htk2 : (Z k2).take t ++ [(pa, pc)] = (Z k2).take (t + 1) := by rw [List.take_add_one, HP.out]; rfl
                  rw [htk2] at hos2
                  have HO : Hid (owns w5 wT.heap.size (.slice (some ⟨g, 0, none⟩) (((Z k2).take t).length + 1) cap2) ((Z k2).take (t + 1))) := hos2
                  clear hown1 hgrow hat hltg htk2 hos2
                  go_wp2_with fail
                  go_roundw
                  case rel => exact ⟨t + 1, by omega, by go_num, (by have h := HO.out; rw [HT.out] at h; exact h), hb6⟩
                  case measure => simp [intOf]; omega
                · have hosZ : owns wr wT.heap.size u11 (Z k2) := by rwa [List.take_of_length_le (by omega)] at hos
                  have HOS : Hid (owns wr wT.heap.size u11 (Z k2)) := hosZ
                  have hgm5 := hgm.below hb5
                  have hsz5 := hb5.size
                  clear hosZ hos
                  go_wp2_with (at_mapUpdate; refine wpList_store (row := none) (n' := 65536 + (k2 + 1)) (top' := wr.heap.size) (zs' := Z k2) _ rfl _ _ _ rfl rfl rfl rfl hgm5 hK (by unfold maxLen; omega) (by omega) hsz5 (Clear_none _ _ _) (by simp) (World.grownBy.refl _ _) (HOS.out.base (by omega)) (by omega) HOS.out.loc (fun g hg => (World.ownsRow.lt HOS.out g hg).2) ?_; intro w6 hgm6 hg6)
                  go_roundw
                  case rel => exact ⟨k2 + 1, _, by omega, by go_num, hgm6.mono hg6.size (Nat.le_refl _), holdsE_step hM, (hb4.trans (hb5.mono hb4.size)).grown hg6 (by omega) (fun k hk => by cases hk; exact Nat.le_refl _), by have := hg6.size; omega⟩
                  case measure => simp [intOf]; omega
            · have hk2n : k2 = n := by omega
              have HM : Hid (HoldsE K Z n M) := hk2n ▸ hM
              have hgmn : GM wr (w2.heap.size + 1) wr.heap.size w2.heap.size (65536 + n) M := hk2n ▸ hgm
              have hw2 : w.heap.size < w2.heap.size := by omega
              obtain ⟨b0, b1⟩ := hbx2.below hb4 hw2
              have hbWr := hbW.trans (hb4.mono (Nat.le_of_lt hw2))
              have henr := hen.below hb4
              clear hk2n hM hgm hbx2 hen
              have hwr : w.heap.size < wr.heap.size := by omega
              go_wp2_with (go_at_call 7; refine (kept_any _ _ _).mono ?_; rintro e w' ⟨rfl, rfl⟩)
              refine (zzaddTo_some _ (hgmn.alloc _) (by simp; omega) (by simp) (by omega) hsz va vc).mono ?_
              rintro e w7 ⟨rfl, hgm7, hb7⟩
              have hb8 := (((Below.refl w2.heap.size wr).alloc (by omega) (.cells #[.iface 3 (.int .i64 va), .iface 3 (.int .i64 vc)] 33))).trans hb7
              obtain ⟨d0, d1⟩ := (show Box wr w.heap.size va vc from ⟨b0, b1⟩).below hb8 hw2
              have hen7 := (show Ents w2 (gE + 1) ⟨gE, 0, none⟩ n K Z from HENT.out).below (hb4.trans hb8)
              have hbW7 := hbW.trans ((hb4.trans hb8).mono (Nat.le_of_lt hw2))
              have hw7 : w.heap.size < w7.heap.size := by have := hb8.size; omega
              have hE7 : gE < w7.heap.size := by have := hb8.size; omega
              obtain ⟨bm, hbm⟩ : ∃ x, x = w2.heap.size := ⟨_, rfl⟩
              rw [← hbm] at hgm7 ⊢
              obtain ⟨zo, hzo⟩ : ∃ z, z = lastZ K Z s n := ⟨_, rfl⟩
              have hget : get M s = zo := by rw [hzo]; exact HM.out.val s
              rw [hget] at hgm7
              have HZO : Hid (zo = lastZ K Z s n) := hzo
              have HGET : Hid (get M s = zo) := hget
              have HGN : Hid ((keys M).Nodup) := hgmn.nodup
              clear hb8 hb7 b0 b1 hbWr henr hzo hget hgmn hwr hb4 hsz4 hbm hw2 hsz3
              obtain ⟨la, hla⟩ : ∃ x, x = lastOf K s n := ⟨_, rfl⟩
              have HLA : Hid (la = lastOf K s n) := hla
              have hcon := lastEntry_some ⟨gE, 0, none⟩ n n K Z s w7 hn hen7
              rw [← hla] at hcon
              clear hla
              go_upto_if 146 with (go_at_call 9; refine hcon.mono ?_; rintro e w' ⟨rfl, rfl⟩)
              clear hcon
              go_cut [15] (OldAt zo w7)
              case first =>
                rcases lastOf_cases K Z s n with ⟨h1, h2, h3⟩ | ⟨i0, h1, h2, h3, h4, h5⟩
                · have hneg : la < 0 := by rw [HLA.out, h1]; omega
                  have hz0 : zo = [] := by rw [HZO.out, h2]
                  clear h1 h2 h3
                  go_wp2_with fail
                  go_meet
                  case rel => exact ⟨none, 0, by rw [hz0]; rfl, Or.inl hz0, rfl⟩
                · have hp0 : 0 ≤ la := by rw [HLA.out, h2]; omega
                  have hp1 : la < n := by rw [HLA.out, h2]; omega
                  have hi0 : la.toNat = i0 := by rw [HLA.out, h2]; simp
                  obtain ⟨_, _, _, c0, u, c, c1, hpu⟩ := hen7 i0 h1
                  simp only [Nat.zero_add] at c1
                  rw [← hi0] at c1
                  have hz0 : Z i0 = zo := by rw [HZO.out, h4]
                  rw [hi0, hz0] at c1
                  rw [← hi0] at c1
                  rw [hz0] at hpu
                  have HPU : Hid (PairsAt w7 (gE + 1) u zo) := hpu
                  clear h1 h2 h3 h4 h5 hi0 hz0 hpu c0
                  go_wp2_with fail
                  go_meet
                  case rel => exact ⟨u, c, rfl, HPU.out.lower, rfl⟩
              case rest =>
                obtain ⟨uo, co, rfl, hpo, rfl⟩ := hcut
                have hzl : zo.length ≤ 65536 := by
                  rcases lastOf_cases K Z s n with ⟨h1, h2, h3⟩ | ⟨i0, h1, h2, h3, h4, h5⟩
                  · rw [HZO.out, h2]; simp
                  · rw [HZO.out, h4]; exact hZn i0 h1
                obtain ⟨M', hM'⟩ : ∃ x, x = ups M s (zo ++ [(va, vc)]) := ⟨_, rfl⟩
                rw [← hM'] at hgm7
                have HM2 : Hid (M' = ups M s (zo ++ [(va, vc)])) := hM'
                have HZ : Hid (get M' s = zo ++ [(va, vc)]) := by show _ = _; rw [hM']; exact get_ups_same _ _ _
                clear hM'
                go_wp2_with (at_lookup; refine wpList_look_cap _ rfl _ _ rfl rfl rfl hgm7 hsz HZ.out (by simp) ?_; intro gg cc hrow hc1 hc2; simp only [List.length_append, List.length_cons, List.length_nil, Nat.zero_add] at hc1 ⊢)
                refine (sameKV_true (some ⟨gg, 0, none⟩) uo cc co zo w7 (by unfold maxLen; omega) (GotAt_of_row hrow) hpo).mono ?_
                rintro e w8 ⟨rfl, hb8⟩
                have hw8 : w.heap.size < w8.heap.size := Nat.lt_of_lt_of_le hw7 hb8.size
                obtain ⟨f0, f1⟩ := (show Box w7 w.heap.size va vc from ⟨d0, d1⟩).below hb8 hw7
                have hrow8 := hrow.below hb8 hrow.1
                have hnc : ¬ cc = zo.length := by omega
                have hci : (zo.length : Int) + 1 ≤ (cc : Int) := by omega
                have hcj : (zo.length : Int) ≤ (zo.length : Int) + 1 := by omega
                have hck : (zo.length : Int) ≤ ((zo.length + 1 : Nat) : Int) := by omega
                clear d0 d1 hrow
                go_wp2_with fail
                go_region_held3 (fun w' => w'.cell? ⟨w.heap.size, 0, none⟩ = some (.int .i64 va) ∧ w'.cell? ⟨w.heap.size, 1, none⟩ = some (.int .i64 vc)) (first | go_keep | (refine ⟨?_, ?_⟩ <;> (rw [hb9.cell (by simp; omega)]; go_keep))) (first | (go_at_call 10; refine (sameKV_true _ _ _ _ [(va, vc)] _ (by unfold maxLen; simp) (lo := 0) ((GotAt_of_row_end hrow8).below (((Below.refl _ w8).drew).alloc (Nat.le_refl _) _)) (PairsAt_lit _ 0 (Nat.zero_le _) va vc)).mono ?_; rintro e w9 ⟨rfl, hb9⟩))
                have hb10 := hb8.trans (((((Below.refl w8.heap.size w8).drew).alloc (Nat.le_refl _) _).trans (hb9.mono (by simp))).mono hb8.size)
                clear hb9 f0 f1 hrow8 hb8 hcj hck
                go_wp2_with fail
                go_loopw [17, 18] (Chk4 n K w7) (fun _ i _ => n - (intOf i).toNat)
                case atStart => exact ⟨0, [], Nat.zero_le _, rfl, rfl, lasts_zero K n, hb10⟩
                case round =>
                  clear hb10
                  obtain ⟨i, L, hi, rfl, rfl, hL, hb11⟩ := hrel
                  have hLs := hL.short
                  by_cases hin : i < n
                  · obtain ⟨_, hKi, hZi, c0, u, c, c1, hpu⟩ := (hen7.below hb11) i hin
                    simp only [Nat.zero_add] at c0 c1
                    have hcon := lastEntry_some ⟨gE, 0, none⟩ n n K Z (K i) wr hn (hen7.below hb11)
                    obtain ⟨hl1, hl2⟩ := lastOf_self (K := K) Z hin
                    by_cases hli : lastOf K (K i) n = (i : Int)
                    · obtain ⟨hlast, hzi⟩ := hl1 hli
                      rw [hli] at hcon
                      have HE : Hid (Last K n i) := hlast
                      by_cases hke : K i = s
                      · have hkb : ((K i).toList == s.toList) = true := by rw [hke]; simp
                        have HKE : Hid (K i = s) := hke
                        clear hke hlast hzi hli hl1 hl2
                        go_wp2_with (go_at_call 9; refine hcon.mono ?_; rintro e w' ⟨rfl, rfl⟩)
                        go_roundw
                        case rel => exact ⟨i + 1, L ++ [K i], by omega, by go_num, by simp, lasts_take hL hin HE.out, hb11⟩
                        case measure => simp [intOf]; omega
                      · have hkb : ((K i).toList == s.toList) = false := by
                          rw [beq_eq_false_iff_ne]
                          intro e
                          exact hke (str_eq (by rw [e]; simp))
                        have HZI : Hid (get M' (K i) = Z i) := by
                          show _ = _
                          rw [HM2.out, get_ups_other _ _ _ _ hke, HM.out.val, hzi]
                        have HHAS : Hid (has M' (K i) = true) := by
                          show _ = _
                          rw [has_iff, HM2.out, mem_keys_ups]
                          exact Or.inr ((HM.out.key _).2 ⟨i, hin, rfl⟩)
                        have hgm11 := hgm7.below hb11
                        clear hke hlast hzi hli hl1 hl2
                        go_wp2_with (first | (go_at_call 9; refine hcon.mono ?_; rintro e w' ⟨rfl, rfl⟩) | (at_lookup; refine wpList_look_ok _ rfl _ _ rfl rfl rfl hgm11 hKi HZI.out HHAS.out ?_; intro ug cg hgot) | (go_at_call 10; refine (sameKV_true ug u cg c (Z i) wr hZi hgot hpu).mono ?_; rintro e w12 ⟨rfl, hb12⟩))
                        go_roundw
                        case rel => exact ⟨i + 1, L ++ [K i], by omega, by go_num, by simp, lasts_take hL hin HE.out, hb11.trans (hb12.mono hb11.size)⟩
                        case measure => simp [intOf]; omega
                    · have hnl := hl2 hli
                      obtain ⟨la2, hla2⟩ : ∃ x, x = lastOf K (K i) n := ⟨_, rfl⟩
                      rw [← hla2] at hcon hli
                      have hlb : (la2 == (i : Int)) = false := by simpa using hli
                      clear hla2 hli hl1 hl2
                      go_wp2_with (go_at_call 9; refine hcon.mono ?_; rintro e w' ⟨rfl, rfl⟩)
                      go_roundw
                      case rel => exact ⟨i + 1, L, by omega, by go_num, rfl, lasts_skip hL hnl, hb11⟩
                      case measure => simp [intOf]; omega
                  · have hcnt := countE (by rwa [show i = n by omega] at hL) HM.out HGN.out s (zo ++ [(va, vc)])
                    rw [← HM2.out, ← HLA.out] at hcnt
                    have hgm11 := hgm7.below hb11
                    have hlM := hgm11.len
                    obtain ⟨v, hrunv, hov, _⟩ := hgm11.look hsz false
                    rw [HZ.out] at hov
                    obtain ⟨g2, c2, rfl, _⟩ := hov.slice (by simp)
                    simp only [Bool.false_eq_true, if_false, List.length_append, List.length_cons, List.length_nil, Nat.zero_add] at hrunv
                    clear hov
                    by_cases hneg : la < 0
                    · rw [if_pos hneg] at hcnt
                      have hcn : (M'.length : Int) = L.length + 1 := by rw [hcnt]; simp
                      clear hcnt
                      go_wp2_with fail
                      go_ret
                      exact ⟨rfl, hbW7.trans (hb11.mono (Nat.le_of_lt hw7))⟩
                    · rw [if_neg hneg] at hcnt
                      have hcn : (M'.length : Int) = L.length := by rw [hcnt]
                      clear hcnt
                      go_wp2_with fail
                      go_ret
                      exact ⟨rfl, hbW7.trans (hb11.mono (Nat.le_of_lt hw7))⟩
  · go_enter Try.func3, Try.ntmps3
    go_wp2_with (go_at_call 5; refine (zzBytesE_some ad n cap K Z s va vc _ hn hsz hs0).mono ?_; rintro e w1 ⟨⟨x, rfl⟩, hb1⟩; cases x)
    all_goals
      go_ret
      exact ⟨rfl, ((Below.refl _ _).alloc (Nat.le_refl _) _).trans (hb1.mono (by simp))⟩

end Go.Proofs.Qxb6605891a
