/-
  THE SCRIPT LAW's OWN WALK.
-/
import Derived.Test.Qxb6605891aAddTo
import Derived.Test.Qxb6605891aPlain
import Derived.Deep.RegionHeld3
import Derived.Deep.QuietTactic
import Derived.BigQuiet
import Derived.Deep.DrawnRows
namespace Go.Proofs.Qxb6605891a
open Go.RowKit
attribute [local go_sem ↓] Go.wp_at_zero Go.wp_at_succ

/-- A slice of no elements, whichever. -/
def RetS0 (e : Ending) : Prop := ∃ (a : Option Addr) (c : Nat), e = .returned (.slice a 0 c)

set_option maxHeartbeats 400000 in
theorem cloneAdds_zero (a : Option Addr) (cap : Nat) (w : World) :
    Calls Try.prog 12 #[.slice a 0 cap] w fun e w' => RetS0 e ∧ Below w.heap.size w w' := by
  obtain ⟨i0, hi, hz0, hz1, hz2⟩ := info_parts Try.info42
  have hnil := fun (a : Option Addr) (n c : Nat) (w : World) => Lib.run_eql_slice_nil (P := Try.prog) w 39 42 a n c 0 0 Try.underlying39
  cases a with
  | none =>
    go_enter Try.func12, Try.ntmps12
    go_wp2
    go_ret
    exact ⟨⟨_, _, rfl⟩, Below.refl _ _⟩
  | some a =>
    go_enter Try.func12, Try.ntmps12
    go_wp2_with (at_make; refine wpList_make_full _ rfl _ _ 39 rfl w.heap.size 42 i0 _ 3 Try.underlying39 hi hz0 hz1 _ _ _ _ 0 rfl rfl rfl rfl (by rw [hz2]; omega) (by unfold maxLen; omega) (Nat.le_refl _) ?_)
    intro w1 hown hgrow
    have hbel : Below w.heap.size w w1 := (Below.refl _ _).grown hgrow (Nat.le_refl _) (by intro k hk; cases hk)
    clear hown hgrow hi hz0 hz1 hz2 i0 hnil
    go_wp2
    go_loop [4] (fun i => i = .int .i64 0) (fun _ => 0)
    case atStart => rfl
    case round =>
      obtain rfl := hrel
      go_wp2
      go_ret
      exact ⟨⟨_, _, rfl⟩, hbel⟩

set_option maxRecDepth 100000 in
set_option maxHeartbeats 1000000 in
theorem script_zero (a : Option Addr) (cap : Nat) (w : World) :
    Calls Try.prog 4 #[.slice a 0 cap] w fun e w' => e = .returned (.bool true) ∧ Below w.heap.size w w' := by
  have hmn := fun (r : Option Nat) (w : World) => run_eql_map_nil (P := Try.prog) w 30 9 31 r Try.underlying30
  go_enter Try.func4, Try.ntmps4
  go_wp2_with (go_at_call 11; refine (zzBytes_zero _ _ _).mono ?_; rintro e w' ⟨⟨x, rfl⟩, rfl⟩; cases x)
  · go_ret
    exact ⟨rfl, Below.refl _ _⟩
  · go_loop [3, 4] (fun t i => i = .int .i64 0) (fun _ _ => 0)
    case atStart => rfl
    case round =>
      obtain rfl := hrel
      go_wp2_with (go_at_call 12; refine (cloneAdds_zero _ _ _).mono ?_; rintro e w1 ⟨⟨a1, c1, rfl⟩, hb1⟩)
      go_loop [5, 6] (fun m i => m = .map none ∧ i = .int .i64 0) (fun _ _ => 0)
      case atStart => exact ⟨rfl, rfl⟩
      case round =>
        obtain ⟨rfl, rfl⟩ := hrel
        go_wp2
        go_ret
        exact ⟨rfl, hb1⟩

/-- The map after k steps: nil at first, then one that holds what the steps have added. -/
def MapAt (K : Nat → ByteArray) (A C : Nat → Int) (g k : Nat) (m : Value) (wr : World) : Prop :=
  (k = 0 ∧ m = .map none) ∨ ∃ b base M, 0 < k ∧ m = .map (some b) ∧ GM wr base wr.heap.size b k M ∧ base ≤ wr.heap.size ∧ g < b ∧ Holds K A C k M

theorem MapAt.alloc {K : Nat → ByteArray} {A C : Nat → Int} {g k : Nat} {m : Value} {wr : World} (h : MapAt K A C g k m wr) (o : Obj) : MapAt K A C g k m (wr.alloc o) := by
  rcases h with h | ⟨b, base, M, h1, h2, h3, h4, h5, h6⟩
  · exact Or.inl h
  · exact Or.inr ⟨b, base, M, h1, h2, (h3.alloc o).mono (by simp) (Nat.le_refl _), by simp; omega, h5, h6⟩

theorem MapAt.drew {K : Nat → ByteArray} {A C : Nat → Int} {g k : Nat} {m : Value} {wr : World} (h : MapAt K A C g k m wr) : MapAt K A C g k m wr.drew := by
  rcases h with h | ⟨b, base, M, h1, h2, h3, h4, h5, h6⟩
  · exact Or.inl h
  · exact Or.inr ⟨b, base, M, h1, h2, h3.kept (row := none) ⟨rfl, rfl, rfl, Nat.le_refl _, fun _ _ _ => rfl⟩ (by simp) (by simp), h4, h5, h6⟩

/-- The ending is a map, of which p. -/
def RetM (e : Ending) (p : Value → Prop) : Prop := ∃ b : Nat, e = .returned (.map (some b)) ∧ p (.map (some b))

theorem zzaddTo_step (w : World) {K : Nat → ByteArray} {A C : Nat → Int} {g k : Nat} {m : Value} (h : MapAt K A C g k m w) (hg : g < w.heap.size) (hk : k ≤ 4096) (hs : (K k).size ≤ maxLen) :
    Calls Try.prog 8 #[m, .string (K k), kv (A k) (C k)] w fun e w' => RetM e (fun m' => MapAt K A C g (k + 1) m' w') ∧ Below (g + 1) w w' := by
  rcases h with ⟨rfl, rfl⟩ | ⟨b, base, M, h1, rfl, h3, h4, h5, h6⟩
  · refine (zzaddTo_nil w hs _ _).mono ?_
    rintro e w' ⟨rfl, hgm, hb⟩
    have hl := hgm.lt
    refine ⟨⟨_, rfl, Or.inr ⟨_, _, _, by omega, rfl, hgm, ?_, by omega, holds_one K A C⟩⟩, hb.mono (by omega)⟩
    omega
  · refine (zzaddTo_some w h3 h4 (Nat.le_refl _) (by omega) hs _ _).mono ?_
    rintro e w' ⟨rfl, hgm, hb⟩
    exact ⟨⟨_, rfl, Or.inr ⟨_, _, _, by omega, rfl, hgm, Nat.le_trans h4 hb.size, h5, holds_step h6⟩⟩, hb.mono (by omega)⟩

theorem StepsAt.below {w w' : World} {B g off n : Nat} {K : Nat → ByteArray} {A C : Nat → Int} (h : StepsAt w g off n K A C) (hb : Below B w w') (hg : g < B) : StepsAt w' g off n K A C := by
  intro i hi
  obtain ⟨h0, h1, h2, h3⟩ := h i hi
  exact ⟨(hb.cell (p := ⟨g, off + i * 3, none⟩) hg).trans h0, (hb.cell (p := ⟨g, off + i * 3 + 1, none⟩) hg).trans h1, (hb.cell (p := ⟨g, off + i * 3 + 2, none⟩) hg).trans h2, h3⟩

/-- What holds at the head of the loop that runs the script. -/
def Run (w : World) (g n : Nat) (K : Nat → ByteArray) (A C : Nat → Int) (m i : Value) (wr : World) : Prop :=
  ∃ k : Nat, k ≤ n ∧ i = .int .i64 k ∧ StepsAt wr g 0 n K A C ∧ Below w.heap.size w wr ∧ g < wr.heap.size ∧ w.heap.size ≤ g ∧ MapAt K A C g k m wr

theorem str_eq {a b : ByteArray} (h : (a.toList == b.toList) = true) : a = b := by
  have := eq_of_beq h
  rw [ByteArray.toList_eq, ByteArray.toList_eq] at this
  exact WideShapes.bytes_inj this

theorem str_ne {a b : ByteArray} (h : (a.toList == b.toList) = false) : a ≠ b := by
  rintro rfl
  simp at h

/-- .. of the loop that compares the pairs under one outline. -/
def Cmp (i : Nat) (K : Nat → ByteArray) (A C : Nat → Int) (wL : World) (k j : Value) (wr : World) : Prop :=
  ∃ t : Nat, t ≤ i + 1 ∧ j = .int .i64 t ∧ k = .int .i64 (vals K A C (K i) t).length ∧ Below wL.heap.size wL wr

/-- What holds at the head of the loop that checks the map, step by step. -/
def Chk (n : Nat) (K : Nat → ByteArray) (wS : World) (d i : Value) (wr : World) : Prop :=
  ∃ (k : Nat) (L : List ByteArray), k ≤ n ∧ i = .int .i64 k ∧ d = .int .i64 L.length ∧ Lasts K n k L ∧ Below wS.heap.size wS wr

/-- .. of the loop that looks for a later step with the same outline. -/
def Look (n k : Nat) (K : Nat → ByteArray) (wS : World) (l j : Value) (wr : World) : Prop :=
  ∃ t : Nat, k + 1 ≤ t ∧ t ≤ n ∧ l = .bool false ∧ j = .int .i64 t ∧ (∀ u, k < u → u < t → K u ≠ K k) ∧ Below wS.heap.size wS wr

set_option maxRecDepth 100000 in
set_option maxHeartbeats 1000000 in
theorem script_some (b off n cap : Nat) (K : Nat → ByteArray) (A C : Nat → Int) (w : World) (hn : n ≤ maxLen) (hn0 : 0 < n) (hb : b < w.heap.size) (hs : StepsAt w b off n K A C) :
    Calls Try.prog 4 #[.slice (some ⟨b, off, none⟩) n cap] w fun e w' => e = .returned (.bool true) ∧ Below w.heap.size w w' := by
  have hmn := fun (r : Option Nat) (w : World) => run_eql_map_nil (P := Try.prog) w 30 9 31 r Try.underlying30
  have hn' := hn
  unfold maxLen at hn'
  have hnz : ((n : Int) == 0) = false := by simp; omega
  by_cases h12 : (n : Int) ≤ 4096
  · go_enter Try.func4, Try.ntmps4
    go_wp2_with (go_at_call 11; refine (zzBytes_some b off n cap K A C w hn hs).mono ?_; rintro e w' ⟨⟨x, rfl⟩, rfl⟩; cases x)
    · go_ret
      exact ⟨rfl, Below.refl _ _⟩
    · go_loop [3, 4] (fun t i => ∃ k : Nat, ∃ z : Int, k ≤ n ∧ i = .int .i64 k ∧ t = .int .i64 z ∧ 0 ≤ z ∧ z ≤ 1048576) (fun _ i => n - (intOf i).toNat)
      case atStart => exact ⟨0, 32 * n, Nat.zero_le _, rfl, rfl, by omega, by omega⟩
      case round =>
        obtain ⟨k, z, hk, rfl, rfl, hz0, hz1⟩ := hrel
        by_cases hlt : k < n
        · obtain ⟨h0, h1, h2, h3⟩ := hs k hlt
          unfold maxLen at h3
          clear h1 h2
          go_wp2
          · go_ret
            exact ⟨rfl, Below.refl _ _⟩
          · go_ret
            exact ⟨rfl, Below.refl _ _⟩
          · go_round
            case rel => exact ⟨k + 1, z + (K k).size, by omega, by go_num, rfl, by omega, by assumption⟩
            case measure => simp [intOf]; omega
        · clear hz0 hz1
          go_wp2_with (go_at_call 12; refine (cloneAdds_some b off n cap K A C _ (by omega) hb hs).mono ?_; rintro e w1 ⟨rfl, hst1, hb1, hsz1⟩)
          go_loopw [5, 6] (Run w w.heap.size n K A C) (fun _ i _ => n - (intOf i).toNat)
          case atStart => exact ⟨0, Nat.zero_le _, rfl, hst1, hb1, hsz1, Nat.le_refl _, Or.inl ⟨rfl, rfl⟩⟩
          case round =>
            obtain ⟨k, hk, rfl, hst, hbe, hg, hgw, hm⟩ := hrel
            by_cases hlt : k < n
            · obtain ⟨h0, h1, h2, h3⟩ := hst k hlt
              simp only [Nat.zero_add] at h0 h1 h2
              go_wp2_with fail
              go_region_held3 (fun w' => w'.cell? ⟨w.heap.size, k * 3, none⟩ = some (.string (K k)) ∧ w'.cell? ⟨w.heap.size, k * 3 + 1, none⟩ = some (.int .i64 (A k)) ∧ w'.cell? ⟨w.heap.size, k * 3 + 2, none⟩ = some (.int .i64 (C k))) (first | go_keep | (refine ⟨?_, ?_, ?_⟩ <;> (rw [hb2.cell (by simp)]; go_keep))) (first | (go_at_call 7; refine (kept_any _ _ _).mono ?_; rintro e w' ⟨rfl, rfl⟩) | (go_at_call 8; refine (zzaddTo_step _ (hm.drew.alloc _) (by simp; omega) (by omega) h3).mono ?_; rintro e w2 ⟨⟨b2, rfl, hm2⟩, hb2⟩))
              have hb3 := (((Below.refl (w.heap.size + 1) wr).drew).alloc (by simp; omega) _).trans hb2
              clear hb2
              go_wp2
              go_roundw
              case rel => exact ⟨k + 1, by omega, by go_num, hst.below hb3 (by omega), hbe.trans (hb3.mono (by omega)), Nat.lt_of_lt_of_le hg hb3.size, hgw, hm2⟩
              case measure => simp [intOf]; omega
            · obtain ⟨bm, base, M, hk0, rfl, hgm, hbase, hgb, hM⟩ : ∃ b base M, 0 < k ∧ u5 = .map (some b) ∧ GM wr base wr.heap.size b k M ∧ base ≤ wr.heap.size ∧ w.heap.size < b ∧ Holds K A C k M := by
                rcases hm with ⟨h0, _⟩ | h
                · omega
                · exact h
              have hkn : k = n := by omega
              have HM : Hid (Holds K A C n M) := hkn ▸ hM
              have HG : GM wr base wr.heap.size bm n M := hkn ▸ hgm
              clear hM hgm hkn
              clear hst1 hb1 hsz1 w1 hs hm
              go_wp2
              obtain ⟨wS, rfl⟩ : ∃ x, x = wr := ⟨_, rfl⟩
              go_loopw [7, 8] (Chk n K wS) (fun _ i _ => n - (intOf i).toNat)
              case atStart => exact ⟨0, [], Nat.zero_le _, rfl, rfl, lasts_zero K n, Below.refl _ _⟩
              case round =>
                obtain ⟨i, L, hi, rfl, rfl, hL, hbS⟩ := hrel
                by_cases hin : i < n
                · obtain ⟨_, _, _, hK3⟩ := hst i hin
                  have hLs := hL.short
                  go_wp2_with fail
                  go_loopw [9, 10] (Look n i K wS) (fun _ j _ => n - (intOf j).toNat)
                  case atStart => exact ⟨i + 1, Nat.le_refl _, by omega, rfl, by go_num, fun u a b => by omega, hbS⟩
                  case round =>
                    obtain ⟨t, ht0, ht1, rfl, rfl, hne, hbT⟩ := hrel
                    by_cases htn : t < n
                    · obtain ⟨g0, _, _, _⟩ := (hst.below hbT hg) i hin
                      obtain ⟨g1, _, _, _⟩ := (hst.below hbT hg) t htn
                      simp only [Nat.zero_add] at g0 g1
                      go_wp2_with fail
                      go_quiet (fail)
                      go_wp2_with fail
                      · have he := str_eq (by assumption)
                        go_roundw
                        case rel => exact ⟨i + 1, L, by omega, by go_num, rfl, lasts_skip hL (fun h => h t ht0 htn he), below_drewN hbT _⟩
                        case measure => simp [intOf]; omega
                      · have he := str_ne (by assumption)
                        go_roundw
                        case rel => exact ⟨t + 1, by omega, by omega, rfl, by go_num, fun u a b => (by by_cases hu : u = t; exact hu ▸ he; exact hne u a (by omega)), below_drewN hbT _⟩
                        case measure => simp [intOf]; omega
                    · obtain ⟨g0, _, _, _⟩ := (hst.below hbT hg) i hin
                      simp only [Nat.zero_add] at g0
                      have hlast : Last K n i := fun u a b => hne u a (by omega)
                      have hz : get M (K i) = vals K A C (K i) (i + 1) := (HM.out.val _).trans (vals_last K A C (K i) (by omega) (fun u a b => hlast u a b))
                      have hzne : vals K A C (K i) (i + 1) ≠ [] := by rw [vals_hit rfl]; simp
                      have hlen := vals_le K A C (K i) (i + 1)
                      have HZ : Hid (get M (K i) = vals K A C (K i) (i + 1)) := hz
                      have HE : Hid (Last K n i) := hlast
                      have HN : Hid (vals K A C (K i) (i + 1) ≠ []) := hzne
                      have HGr := HG.below hbT
                      have hstL := hst.below hbT hg
                      clear hst hz hzne hlast hne
                      go_wp2_with (at_lookup; refine wpList_look_slice _ rfl _ _ rfl rfl rfl HGr hK3 HZ.out HN.out ?_; intro gg cc hrow)
                      obtain ⟨wL, rfl⟩ : ∃ x, x = wr := ⟨_, rfl⟩
                      have hgL : w.heap.size < wL.heap.size := Nat.lt_of_lt_of_le hg hbT.size
                      go_loopw [12, 13] (Cmp i K A C wL) (fun _ j _ => i + 1 - (intOf j).toNat)
                      case atStart => exact ⟨0, by omega, rfl, rfl, Below.refl _ _⟩
                      case round =>
                        obtain ⟨t5, ht5, rfl, rfl, hb5⟩ := hrel
                        by_cases hti : t5 < i + 1
                        · obtain ⟨c0, c1, c2, _⟩ := (hstL.below hb5 hgL) t5 (by omega)
                          obtain ⟨c3, _, _, _⟩ := (hstL.below hb5 hgL) i (by omega)
                          simp only [Nat.zero_add] at c0 c1 c2 c3
                          have hgr5 : w.heap.size < wr.heap.size := Nat.lt_of_lt_of_le hgL hb5.size
                          by_cases hke : K t5 = K i
                          · have hat := vals_at K A C (K i) hti hke
                            obtain ⟨r1, r2⟩ := (hrow.below hb5 hrow.1).2 _ _ hat
                            have hpos : (vals K A C (K i) t5).length < (vals K A C (K i) (i + 1)).length := (List.getElem?_eq_some_iff.1 hat).1
                            clear hat
                            go_wp2_with fail
                            go_quiet (fail)
                            go_wp2_with fail
                            refine (keptInts_any (A t5) (C t5) _).mono ?_
                            rintro e w9 ⟨rfl, rfl⟩
                            have d1 := fun o => Lib.cell?_alloc_some (W := wr.drewN nq) o (show (wr.drewN nq).cell? ⟨w.heap.size, t5 * 3 + 1, none⟩ = some _ from c1)
                            have d2 := fun o => Lib.cell?_alloc_some (W := wr.drewN nq) o (show (wr.drewN nq).cell? ⟨w.heap.size, t5 * 3 + 2, none⟩ = some _ from c2)
                            go_wp2_with fail
                            go_roundw
                            case rel => exact ⟨t5 + 1, by omega, by go_num, by rw [vals_hit hke]; simp, (below_drewN hb5 _).alloc (by have := hb5.size; simpa using this) _⟩
                            case measure => simp [intOf]; omega
                          · have hkb : ((K t5).toList == (K i).toList) = false := by
                              rw [beq_eq_false_iff_ne]
                              intro e
                              exact hke (str_eq (by rw [e]; simp))
                            go_wp2_with fail
                            go_quiet (fail)
                            go_wp2_with fail
                            go_roundw
                            case rel => exact ⟨t5 + 1, by omega, by go_num, by rw [vals_miss hke], below_drewN hb5 _⟩
                            case measure => simp [intOf]; omega
                        · obtain rfl : t5 = i + 1 := by omega
                          go_wp2_with fail
                          go_roundw
                          case rel =>
                            exact ⟨i + 1, L ++ [K i], by omega, by go_num, by simp, lasts_take hL hin HE.out, hbT.trans (hb5.mono hbT.size)⟩
                          case measure => simp [intOf]; omega
                · have HGr := HG.below hbS
                  have hlM := HGr.len
                  obtain rfl : i = n := by omega
                  have hlen : (M.length : Int) = L.length := by rw [lasts_length hL HM.out HGr.nodup]
                  go_wp2_with fail
                  go_ret
                  exact ⟨rfl, hbe.trans (hbS.mono (by omega))⟩
  · go_enter Try.func4, Try.ntmps4
    go_wp2_with (go_at_call 11; refine (zzBytes_some b off n cap K A C w hn hs).mono ?_; rintro e w' ⟨⟨x, rfl⟩, rfl⟩; cases x)
    all_goals (go_ret; exact ⟨rfl, Below.refl _ _⟩)

end Go.Proofs.Qxb6605891a
