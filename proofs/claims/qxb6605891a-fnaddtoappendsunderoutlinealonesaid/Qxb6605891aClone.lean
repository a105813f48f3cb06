/-
  cloneEntries (6): a deep copy in new blocks.
-/
import Derived.Test.Qxb6605891aEnts
namespace Go.Proofs.Qxb6605891a
open Go.RowKit

theorem Try.info24 : (Try.prog.info? 24).map (fun i => (i.zero, i.size, i.bytes)) = some (some (.agg #[.int .i64 0, .int .i64 0]), 2, 16) := by kernel_rfl
theorem Try.info28 : (Try.prog.info? 28).map (fun i => (i.zero, i.size, i.bytes)) = some (some (.agg #[.string ByteArray.empty, .slice none 0 0]), 2, 40) := by kernel_rfl

/-- The first t pairs of zs lie in row h. -/
def PairsUp (w : World) (h t : Nat) (zs : KVs) : Prop :=
  ∀ (j : Nat) (p : Int × Int), j < t → zs[j]? = some p → w.cell? ⟨h, j * 2, none⟩ = some (.int .i64 p.1) ∧ w.cell? ⟨h, j * 2 + 1, none⟩ = some (.int .i64 p.2)

theorem room_set {w : World} {g n : Nat} (h : RoomAt w g n) (a : Addr) (v : Value) : RoomAt (w.setCell a v) g n := by
  intro j hj
  obtain ⟨⟨x, hx⟩, hf⟩ := h j hj
  exact ⟨cell?_setCell_some hx, by simpa using hf⟩

theorem cs_far {w : World} {g g' p q : Nat} {v : Value} (h : g ≠ g') : (w.setCell ⟨g, p, none⟩ v).cell? ⟨g', q, none⟩ = w.cell? ⟨g', q, none⟩ :=
  World.cell?_setCell_other _ _ _ _ (fun e => h (by injection e))

theorem pairs_set2 {wr : World} {h t l : Nat} {zs : KVs} {p : Int × Int} (ht : t < l) (hp : zs[t]? = some p) (hu : PairsUp wr h t zs) (hro : RoomAt wr h (l * 2)) :
    PairsUp ((wr.setCell ⟨h, t * 2, none⟩ (.int .i64 p.1)).setCell ⟨h, t * 2 + 1, none⟩ (.int .i64 p.2)) h (t + 1) zs ∧ RoomAt ((wr.setCell ⟨h, t * 2, none⟩ (.int .i64 p.1)).setCell ⟨h, t * 2 + 1, none⟩ (.int .i64 p.2)) h (l * 2) := by
  obtain ⟨⟨v0, r0⟩, _⟩ := hro (t * 2) (by omega)
  obtain ⟨⟨v1, r1⟩, _⟩ := hro (t * 2 + 1) (by omega)
  refine ⟨fun j q hj hq => ?_, room_set (room_set hro _ _) _ _⟩
  rcases Nat.lt_or_ge j t with h1 | h1
  · obtain ⟨e1, e2⟩ := hu j q h1 hq
    refine ⟨?_, ?_⟩
    · rw [cs_o, cs_o, e1] <;> omega
    · rw [cs_o, cs_o, e2] <;> omega
  · obtain rfl : j = t := by omega
    rw [hp] at hq
    cases hq
    refine ⟨?_, ?_⟩
    · rw [cs_o, cs_s r0]; omega
    · rw [cs_s (u := v1)]
      rw [cs_o, r1]; omega

theorem pairsAt_set {w : World} {g p lo : Nat} {v : Value} {u : Option Addr} {zs : KVs} (h : PairsAt w lo u zs) (hg : g < lo) : PairsAt (w.setCell ⟨g, p, none⟩ v) lo u zs := by
  rcases h with h | ⟨g', o, h1, h2, h3, h4⟩
  · exact Or.inl h
  · refine Or.inr ⟨g', o, h1, h2, by simpa using h3, fun j q hq => ?_⟩
    obtain ⟨e1, e2⟩ := h4 j q hq
    exact ⟨by rw [cs_far (by omega)]; exact e1, by rw [cs_far (by omega)]; exact e2⟩

theorem ents_set2 {wr : World} {g k n c : Nat} {K : Nat → ByteArray} {Z : Nat → KVs} {u : Option Addr} {v : Value} (hv : v = .slice u (Z k).length c) (hk : k < n) (hK : (K k).size ≤ maxLen) (hZ : (Z k).length ≤ maxLen) (hu : PairsAt wr (g + 1) u (Z k)) (hst : Ents wr (g + 1) ⟨g, 0, none⟩ k K Z) (hro : RoomAt wr g (n * 2)) :
    Ents ((wr.setCell ⟨g, k * 2, none⟩ (.string (K k))).setCell ⟨g, k * 2 + 1, none⟩ v) (g + 1) ⟨g, 0, none⟩ (k + 1) K Z ∧
    RoomAt ((wr.setCell ⟨g, k * 2, none⟩ (.string (K k))).setCell ⟨g, k * 2 + 1, none⟩ v) g (n * 2) := by
  subst hv
  obtain ⟨⟨v0, r0⟩, _⟩ := hro (k * 2) (by omega)
  obtain ⟨⟨v1, r1⟩, _⟩ := hro (k * 2 + 1) (by omega)
  refine ⟨fun i hi => ⟨rfl, ?_⟩, room_set (room_set hro _ _) _ _⟩
  rcases Nat.lt_or_ge i k with h | h
  · obtain ⟨_, h1, h2, h3, u', c', h4, h5⟩ := hst i h
    simp only [Nat.zero_add] at h3 h4
    refine ⟨h1, h2, ?_, u', c', ?_, pairsAt_set (pairsAt_set h5 (by omega)) (by omega)⟩
    · simp only [Nat.zero_add]
      rw [cs_o, cs_o, h3] <;> omega
    · simp only [Nat.zero_add]
      rw [cs_o, cs_o, h4] <;> omega
  · obtain rfl : i = k := by omega
    refine ⟨hK, hZ, ?_, u, c, ?_, pairsAt_set (pairsAt_set hu (by omega)) (by omega)⟩
    · simp only [Nat.zero_add]
      rw [cs_o, cs_s r0]; omega
    · simp only [Nat.zero_add]
      rw [cs_s (u := v1)]
      rw [cs_o, r1]; omega

/-- What holds at the head of the outer loop. -/
def Cl (w : World) (g n : Nat) (K : Nat → ByteArray) (Z : Nat → KVs) (i : Value) (wr : World) : Prop :=
  ∃ k : Nat, k ≤ n ∧ i = .int .i64 k ∧ Ents wr (g + 1) ⟨g, 0, none⟩ k K Z ∧ RoomAt wr g (n * 2) ∧ Below w.heap.size w wr ∧ g < wr.heap.size

/-- .. of the inner one. -/
def Cp (wM : World) (h : Nat) (zs : KVs) (j : Value) (wr : World) : Prop :=
  ∃ t : Nat, t ≤ zs.length ∧ j = .int .i64 t ∧ PairsUp wr h t zs ∧ RoomAt wr h (zs.length * 2) ∧ Below wM.heap.size wM wr ∧ h < wr.heap.size

theorem room_below {w w' : World} {B g n : Nat} (h : RoomAt w g n) (hb : Below B w w') (hg : g < B) : RoomAt w' g n := by
  intro j hj
  obtain ⟨⟨x, hx⟩, hf⟩ := h j hj
  exact ⟨⟨x, (hb.cell (p := ⟨g, j, none⟩) hg).trans hx⟩, (hb.frozen (p := ⟨g, j, none⟩) hg).trans hf⟩

set_option maxHeartbeats 1000000 in
theorem cloneEntries_some (ad : Addr) (n cap : Nat) (K : Nat → ByteArray) (Z : Nat → KVs) (w : World) (hn : n ≤ 4096) (hZs : ∀ i, i < n → (Z i).length ≤ 65536) {lo : Nat} (hs : Ents w lo ad n K Z) :
    Calls Try.prog 6 #[.slice (some ad) n cap] w fun e w' => e = .returned (.slice (some ⟨w.heap.size, 0, none⟩) n n) ∧ Ents w' (w.heap.size + 1) ⟨w.heap.size, 0, none⟩ n K Z ∧ Below w.heap.size w w' ∧ w.heap.size < w'.heap.size := by
  obtain ⟨i0, hi, hz0, hz1, hz2⟩ := info_parts Try.info28
  obtain ⟨j0, ji, jz0, jz1, jz2⟩ := info_parts Try.info24
  have hnil := fun (a : Option Addr) (n c : Nat) (w : World) => Lib.run_eql_slice_nil (P := Try.prog) w 22 28 a n c 0 0 Try.underlying22
  have hnl2 := fun (a : Option Addr) (n c : Nat) (w : World) => run_neq_slice_nil_any (P := Try.prog) w 26 24 a n c 0 0 Try.underlying26
  go_enter Try.func6, Try.ntmps6
  go_wp2_with (at_make; refine wpList_make_full _ rfl _ _ 22 rfl w.heap.size 28 i0 _ 2 Try.underlying22 hi hz0 hz1 _ _ _ _ n rfl rfl rfl rfl (by rw [hz2]; omega) (by unfold maxLen; omega) (Nat.le_refl _) ?_)
  intro w1 hown hgrow
  clear hi hz0 hz1 hz2 i0
  have hroom : RoomAt w1 w.heap.size (n * 2) := fun j hj => ⟨⟨_, (hown.cellAt j hj).trans (List.getElem?_eq_getElem (by rw [hown.1]; exact hj))⟩, hown.frozenAt j⟩
  have hbel : Below w.heap.size w w1 := (Below.refl _ _).grown hgrow (Nat.le_refl _) (by intro k hk; cases hk)
  have hsz : w.heap.size < w1.heap.size := (hown.lt _ rfl).2
  clear hown hgrow
  go_wp2
  go_loopw [4] (Cl w w.heap.size n K Z) (fun i _ => n - (intOf i).toNat)
  case atStart => exact ⟨0, Nat.zero_le _, rfl, fun i hi => by omega, hroom, hbel, hsz⟩
  case round =>
    clear hroom hbel hsz
    obtain ⟨k, hk, rfl, hen, hro, hbe, hsz1⟩ := hrel
    by_cases hlt : k < n
    · obtain ⟨hsp, hK, hZ, c0, u, c, c1, hpu⟩ := (hs.below hbe) k hlt
      have hZk := hZs k hlt
      obtain ⟨⟨v0, r0⟩, f0⟩ := hro (k * 2) (by omega)
      obtain ⟨⟨v1, r1⟩, f1⟩ := hro (k * 2 + 1) (by omega)
      obtain ⟨b, off, sp⟩ := ad
      simp only at hsp c0 c1
      subst hsp
      cases u with
      | none =>
        have hZ0 : Z k = [] := by
          rcases hpu with h | ⟨g, o, h, _⟩
          · exact h
          · cases h
        have R := ents_set2 (c := 0) (v := .slice none 0 0) (by rw [hZ0]; rfl) hlt hK hZ (Or.inl hZ0 : PairsAt wr (w.heap.size + 1) none (Z k)) hen hro
        have HR := show Hid _ from R
        clear R hZ0
        go_wp2_with fail
        go_roundw
        case rel => exact ⟨k + 1, by omega, by go_num, HR.out.1, HR.out.2, (hbe.setCell (Nat.le_refl _) _).setCell (Nat.le_refl _) _, by simpa using hsz1⟩
        case measure => simp [intOf]; omega
      | some ua =>
        go_wp2_with (at_make; refine wpList_make_full _ rfl _ _ 26 rfl wr.heap.size 24 j0 _ 2 Try.underlying26 ji jz0 jz1 _ _ _ _ (Z k).length rfl rfl rfl rfl (by rw [jz2]; omega) (by unfold maxLen; omega) (Nat.le_refl _) ?_)
        intro w2 hown hgrow
        have hroom : RoomAt w2 wr.heap.size ((Z k).length * 2) := fun j hj => ⟨⟨_, (hown.cellAt j hj).trans (List.getElem?_eq_getElem (by rw [hown.1]; exact hj))⟩, hown.frozenAt j⟩
        have hbel : Below wr.heap.size wr w2 := (Below.refl _ _).grown hgrow (Nat.le_refl _) (by intro k hk; cases hk)
        have hsz : wr.heap.size < w2.heap.size := (hown.lt _ rfl).2
        clear hown hgrow r0 f0 r1 f1
        have hbl : b < wr.heap.size := by simpa using World.block_lt_of_cell? wr _ c0
        go_wp2
        obtain ⟨wM, rfl⟩ : ∃ x, x = wr := ⟨_, rfl⟩
        go_loopw [6] (Cp wM wM.heap.size (Z k)) (fun j _ => (Z k).length - (intOf j).toNat)
        case atStart => exact ⟨0, Nat.zero_le _, rfl, fun j p hj _ => by omega, hroom, hbel, hsz⟩
        case round =>
          clear hroom hbel hsz
          obtain ⟨t, ht, rfl, hup, hro2, hb2, hsz2⟩ := hrel
          have e0 := (hb2.cell (p := ⟨b, off + k * 2, none⟩) hbl).trans c0
          have e1 := (hb2.cell (p := ⟨b, off + k * 2 + 1, none⟩) hbl).trans c1
          by_cases htl : t < (Z k).length
          · obtain ⟨g', o', p, rfl, q1, q2, hpk⟩ : ∃ (g' o' : Nat) (p : Int × Int), ua = ⟨g', o', none⟩ ∧ wr.cell? ⟨g', o' + t * 2, none⟩ = some (.int .i64 p.1) ∧ wr.cell? ⟨g', o' + t * 2 + 1, none⟩ = some (.int .i64 p.2) ∧ (Z k)[t]? = some p := by
              rcases hpu.below hb2 with h | ⟨g', o', h1, _, _, h4⟩
              · rw [h] at htl; simp at htl
              · cases h1
                have hp := List.getElem?_eq_getElem htl
                obtain ⟨a1, a2⟩ := h4 t _ hp
                exact ⟨g', o', _, rfl, a1, a2, hp⟩
            obtain ⟨⟨v0, r0⟩, f0⟩ := hro2 (t * 2) (by omega)
            obtain ⟨⟨v1, r1⟩, f1⟩ := hro2 (t * 2 + 1) (by omega)
            obtain ⟨pa, pc⟩ := p
            have R := pairs_set2 htl hpk hup hro2
            simp only at q1 q2 R
            have HR := show Hid _ from R
            clear R hpk
            go_wp2_with fail
            go_roundw
            case rel => exact ⟨t + 1, by omega, by go_num, HR.out.1, HR.out.2, (hb2.setCell (Nat.le_refl _) _).setCell (Nat.le_refl _) _, by simpa using hsz2⟩
            case measure => simp [intOf]; omega
          · have hpn : PairsAt wr (w.heap.size + 1) (some ⟨wM.heap.size, 0, none⟩) (Z k) := Or.inr ⟨wM.heap.size, 0, rfl, by omega, hsz2, fun j p hp => by
              have hj : j < t := by have := (List.getElem?_eq_some_iff.1 hp).1; omega
              simpa using hup j p hj hp⟩
            have hro3 := room_below hro hb2 hsz1
            have R := ents_set2 (c := (Z k).length) rfl hlt hK hZ hpn (hen.below hb2) hro3
            have HR := show Hid _ from R
            obtain ⟨⟨v0, r0⟩, f0⟩ := hro3 (k * 2) (by omega)
            obtain ⟨⟨v1, r1⟩, f1⟩ := hro3 (k * 2 + 1) (by omega)
            clear R hpn
            go_wp2_with fail
            go_roundw
            case rel => exact ⟨k + 1, by omega, by go_num, HR.out.1, HR.out.2, ((hbe.trans (hb2.mono hbe.size)).setCell (Nat.le_refl _) _).setCell (Nat.le_refl _) _, by simp; omega⟩
            case measure => simp [intOf]; omega
    · go_wp2
      go_ret
      exact ⟨rfl, by rwa [show n = k by omega], hbe, hsz1⟩

set_option maxHeartbeats 400000 in
theorem cloneEntries_nil (w : World) : Calls Try.prog 6 #[.slice none 0 0] w fun e w' => e = .returned (.slice none 0 0) ∧ w = w' := by
  have hnil := fun (a : Option Addr) (n c : Nat) (w : World) => Lib.run_eql_slice_nil (P := Try.prog) w 22 28 a n c 0 0 Try.underlying22
  go_enter Try.func6, Try.ntmps6
  go_wp2
  go_ret
  exact ⟨rfl, rfl⟩

end Go.Proofs.Qxb6605891a
