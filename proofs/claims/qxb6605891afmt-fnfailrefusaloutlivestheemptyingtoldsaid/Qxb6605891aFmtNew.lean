/-
  ZZnewReleases (8).
-/
import Derived.Test.Qxb6605891aFmtOnce
import Derived.Deep.RegionHeld3
import Derived.Deep.RegionLaw
import Derived.Deep.AppendLies
import Derived.Deep.DrawnRows
namespace Go.Proofs.Qxb6605891aFmt
open Go.RowKit
attribute [local go_sem ↓] Go.wp_at_zero Go.wp_at_succ

/-- n strings lie where the address leads. -/
def StrsAt (w : World) (ad : Addr) (n : Nat) (S : Nat → ByteArray) : Prop :=
  ∀ i, i < n → ad.spot = none ∧ w.cell? ⟨ad.block, ad.off + i, none⟩ = some (.string (S i)) ∧ (S i).size ≤ maxLen

theorem StrsAt.below {w w' : World} {ad : Addr} {n B : Nat} {S : Nat → ByteArray} (h : StrsAt w ad n S) (hb : Below B w w') (hB : ad.block < B) : StrsAt w' ad n S :=
  fun i hi => ⟨(h i hi).1, (hb.cell (p := ⟨ad.block, ad.off + i, none⟩) hB).trans (h i hi).2.1, (h i hi).2.2⟩

theorem Tryf.info41 : (Tryf.prog.info? 41).map (fun i => (i.zero, i.size, i.bytes)) = some (some (.agg #[.string ByteArray.empty, .nilIface, .nilFunc]), 3, 40) := by kernel_rfl
theorem Tryf.info43 : (Tryf.prog.info? 43).map (fun i => (i.zero, i.size, i.bytes)) = some (some (.agg #[.string ByteArray.empty, .string ByteArray.empty, .nilIface, .nilIface]), 4, 64) := by kernel_rfl

/-- The cells of k held releases. -/
def heldCells (S : Nat → ByteArray) : Nat → List Value
  | 0 => []
  | k + 1 => heldCells S k ++ [.string (S k), .nilIface, .func (.func 13) #[] #[]]

/-- .. of k cached values. -/
def keptCells (S : Nat → ByteArray) : Nat → List Value
  | 0 => []
  | k + 1 => keptCells S k ++ [.string (S k), .string ByteArray.empty, .nilIface, .nilIface]

theorem heldCells_length (S : Nat → ByteArray) : ∀ k, (heldCells S k).length = k * 3
  | 0 => rfl
  | k + 1 => by simp [heldCells, heldCells_length S k]; omega
theorem keptCells_length (S : Nat → ByteArray) : ∀ k, (keptCells S k).length = k * 4
  | 0 => rfl
  | k + 1 => by simp [keptCells, keptCells_length S k]; omega

theorem heldCells_at (S : Nat → ByteArray) : ∀ k j, j < k → (heldCells S k)[j * 3]? = some (.string (S j)) ∧ (heldCells S k)[j * 3 + 1]? = some .nilIface ∧ (heldCells S k)[j * 3 + 2]? = some (.func (.func 13) #[] #[])
  | 0, j, h => by omega
  | k + 1, j, h => by
    have hl := heldCells_length S k
    simp only [heldCells]
    rcases Nat.lt_or_ge j k with h1 | h1
    · obtain ⟨a, b, c⟩ := heldCells_at S k j h1
      rw [List.getElem?_append_left (by omega), List.getElem?_append_left (by omega), List.getElem?_append_left (by omega)]
      exact ⟨a, b, c⟩
    · obtain rfl : j = k := by omega
      rw [List.getElem?_append_right (by omega), List.getElem?_append_right (by omega), List.getElem?_append_right (by omega), hl]
      simp

theorem cell_three_new (w : World) (x y z : Value) (t : TypeId) : ∀ j u, [x, y, z][j]? = some u → (w.alloc (.cells #[x, y, z] t)).cell? ((⟨w.heap.size, 0, none⟩ : Addr).add j) = some u := by
  intro j u hj
  match j, hj with
  | 0, hj => simp at hj; subst hj; simp [Addr.add]
  | 1, hj => simp at hj; subst hj; simp [Addr.add]
  | 2, hj => simp at hj; subst hj; simp [Addr.add]

theorem cell_four_new (w : World) (x y z v : Value) (t : TypeId) : ∀ j u, [x, y, z, v][j]? = some u → (w.alloc (.cells #[x, y, z, v] t)).cell? ((⟨w.heap.size, 0, none⟩ : Addr).add j) = some u := by
  intro j u hj
  match j, hj with
  | 0, hj => simp at hj; subst hj; simp [Addr.add]
  | 1, hj => simp at hj; subst hj; simp [Addr.add]
  | 2, hj => simp at hj; subst hj; simp [Addr.add]
  | 3, hj => simp at hj; subst hj; simp [Addr.add]

theorem held_one (s : ByteArray) : ∀ u ∈ [Value.string s, .nilIface, .func (.func 13) #[] #[]], u.oneCell' = true := by
  intro u hu
  simp at hu
  rcases hu with rfl | rfl | rfl <;> rfl

theorem kept_one (s : ByteArray) : ∀ u ∈ [Value.string s, .string ByteArray.empty, .nilIface, .nilIface], u.oneCell' = true := by
  intro u hu
  simp at hu
  rcases hu with rfl | rfl | rfl <;> rfl

/-- What holds at the head of the first loop. -/
def New1 (w : World) (S : Nat → ByteArray) (n : Nat) (i : Value) (wr : World) : Prop :=
  ∃ k sv, k ≤ n ∧ i = .int .i64 k ∧ wr.cell? ⟨w.heap.size, 0, none⟩ = some sv ∧ wr.ownsRow (w.heap.size + 1) 41 3 sv k (heldCells S k) ∧ wr.cell? ⟨w.heap.size, 1, none⟩ = some (.slice none 0 0) ∧ wr.cell? ⟨w.heap.size, 6, none⟩ = some .nilIface ∧ (∀ o, wr.frozen? ⟨w.heap.size, o, none⟩ = false) ∧ Below w.heap.size w wr ∧ w.heap.size < wr.heap.size

/-- One round of the first loop. -/
theorem new1_step {w wr W w5 : World} {S : Nat → ByteArray} {n k : Nat} {sv : Value} {g cap2 : Nat} {s : ByteArray} (hk : k < n) (hs : S k = s) (hown : wr.ownsRow (w.heap.size + 1) 41 3 sv k (heldCells S k)) (hc0 : wr.cell? ⟨w.heap.size, 0, none⟩ = some sv) (hc1 : wr.cell? ⟨w.heap.size, 1, none⟩ = some (.slice none 0 0)) (hc6 : wr.cell? ⟨w.heap.size, 6, none⟩ = some .nilIface)
    (hfz : ∀ o, wr.frozen? ⟨w.heap.size, o, none⟩ = false) (hb : Below w.heap.size w wr) (hsz : w.heap.size < wr.heap.size) (hW : Below wr.heap.size wr W) (hgrow : W.grownBy w5 sv.ownBlock)
    (hown1 : w5.ownsRow (w.heap.size + 1) 41 3 (.slice (some ⟨g, 0, none⟩) (k + 1) cap2) (k + 1) (heldCells S k ++ [.string s, .nilIface, .func (.func 13) #[] #[]])) :
    New1 w S n (.int .i64 ((k : Int) + 1)) (w5.setCell ⟨w.heap.size, 0, none⟩ (.slice (some ⟨g, 0, none⟩) (k + 1) cap2)) := by
  have hnr : some w.heap.size ≠ sv.ownBlock := fun e => by have := (hown.lt _ e.symm).1; omega
  have hWs : w.heap.size < W.heap.size := Nat.lt_of_lt_of_le hsz hW.size
  have cf : ∀ o, w5.cell? ⟨w.heap.size, o, none⟩ = wr.cell? ⟨w.heap.size, o, none⟩ := fun o => (hgrow.cell_far ⟨w.heap.size, o, none⟩ hWs hnr).trans (hW.cell (p := ⟨w.heap.size, o, none⟩) hsz)
  have ff : ∀ o, w5.frozen? ⟨w.heap.size, o, none⟩ = wr.frozen? ⟨w.heap.size, o, none⟩ := fun o => (hgrow.frozen_far ⟨w.heap.size, o, none⟩ hWs hnr).trans (hW.frozen (p := ⟨w.heap.size, o, none⟩) hsz)
  refine ⟨k + 1, .slice (some ⟨g, 0, none⟩) (k + 1) cap2, by omega, by go_num, cs_s ((cf 0).trans hc0), ?_, ?_, ?_, fun o => ?_, ?_, ?_⟩
  · have := ownsRow_setCell_below hown1 (a := ⟨w.heap.size, 0, none⟩) (Nat.lt_succ_self _) (.slice (some ⟨g, 0, none⟩) (k + 1) cap2)
    rw [← hs] at this
    exact this
  · rw [cs_o (by omega), cf 1]; exact hc1
  · rw [cs_o (by omega), cf 6]; exact hc6
  · rw [World.frozen?_setCell, ff o]; exact hfz o
  · exact ((hb.trans (hW.mono (Nat.le_of_lt hsz))).grown hgrow (Nat.le_of_lt hWs) (fun j hj => by have := (hown.lt j hj).1; omega)).setCell (Nat.le_refl _) _
  · have := hgrow.size
    simp
    omega

/-- What holds at the head of the second loop. -/
def New2 (w : World) (S1 S : Nat → ByteArray) (n1 n : Nat) (i : Value) (wr : World) : Prop :=
  ∃ k sv sh, k ≤ n ∧ i = .int .i64 k ∧ wr.cell? ⟨w.heap.size, 0, none⟩ = some sh ∧ wr.ownsRow (w.heap.size + 1) 41 3 sh n1 (heldCells S1 n1) ∧ wr.cell? ⟨w.heap.size, 1, none⟩ = some sv ∧ wr.ownsRow (w.heap.size + 1) 43 4 sv k (keptCells S k) ∧ wr.cell? ⟨w.heap.size, 6, none⟩ = some .nilIface ∧ (∀ o, wr.frozen? ⟨w.heap.size, o, none⟩ = false) ∧ Below w.heap.size w wr ∧ w.heap.size < wr.heap.size ∧ (sv.ownBlock = none ∨ sv.ownBlock ≠ sh.ownBlock)

/-- One round of the second loop. -/
theorem new2_step {w wr W w5 : World} {S1 S : Nat → ByteArray} {n1 n k : Nat} {sv sh : Value} {g cap2 H : Nat} {s : ByteArray} (hk : k < n) (hs : S k = s) (hown : wr.ownsRow (w.heap.size + 1) 43 4 sv k (keptCells S k)) (hownh : wr.ownsRow (w.heap.size + 1) 41 3 sh n1 (heldCells S1 n1)) (hc0 : wr.cell? ⟨w.heap.size, 0, none⟩ = some sh) (hc1 : wr.cell? ⟨w.heap.size, 1, none⟩ = some sv) (hc6 : wr.cell? ⟨w.heap.size, 6, none⟩ = some .nilIface)
    (hfz : ∀ o, wr.frozen? ⟨w.heap.size, o, none⟩ = false) (hb : Below w.heap.size w wr) (hsz : w.heap.size < wr.heap.size) (hap : sv.ownBlock = none ∨ sv.ownBlock ≠ sh.ownBlock) (hW : Below wr.heap.size wr W) (hgrow : W.grownBy w5 sv.ownBlock)
    (hown1 : w5.ownsRow (w.heap.size + 1) 43 4 (.slice (some ⟨g, 0, none⟩) (k + 1) cap2) (k + 1) (keptCells S k ++ [.string s, .string ByteArray.empty, .nilIface, .nilIface])) (hat : sv.ownBlock = some g ∨ g = H) (hH : wr.heap.size ≤ H) :
    New2 w S1 S n1 n (.int .i64 ((k : Int) + 1)) (w5.setCell ⟨w.heap.size, 1, none⟩ (.slice (some ⟨g, 0, none⟩) (k + 1) cap2)) := by
  have hnr : some w.heap.size ≠ sv.ownBlock := fun e => by have := (hown.lt _ e.symm).1; omega
  have hWs : w.heap.size < W.heap.size := Nat.lt_of_lt_of_le hsz hW.size
  have cf : ∀ o, w5.cell? ⟨w.heap.size, o, none⟩ = wr.cell? ⟨w.heap.size, o, none⟩ := fun o => (hgrow.cell_far ⟨w.heap.size, o, none⟩ hWs hnr).trans (hW.cell (p := ⟨w.heap.size, o, none⟩) hsz)
  have ff : ∀ o, w5.frozen? ⟨w.heap.size, o, none⟩ = wr.frozen? ⟨w.heap.size, o, none⟩ := fun o => (hgrow.frozen_far ⟨w.heap.size, o, none⟩ hWs hnr).trans (hW.frozen (p := ⟨w.heap.size, o, none⟩) hsz)
  have hgW : wr.grownBy W none := ⟨hW.os, hW.tape, hW.output, hW.size, fun j hj _ => hW.block j hj⟩
  have hh1 : W.ownsRow (w.heap.size + 1) 41 3 sh n1 (heldCells S1 n1) := hownh.kept hgW (by cases sh.ownBlock <;> simp)
  have hh2 : w5.ownsRow (w.heap.size + 1) 41 3 sh n1 (heldCells S1 n1) := hh1.kept hgrow (by
    cases hx : sh.ownBlock with
    | none => exact Or.inl rfl
    | some x =>
      refine Or.inr (fun e => ?_)
      rcases hap with h | h
      · rw [h] at e; cases e
      · exact h (e ▸ hx.symm))
  refine ⟨k + 1, .slice (some ⟨g, 0, none⟩) (k + 1) cap2, sh, by omega, by go_num, ?_, ownsRow_setCell_below hh2 (Nat.lt_succ_self _) _, cs_s ((cf 1).trans hc1), ?_, ?_, fun o => ?_, ?_, ?_, ?_⟩
  · rw [cs_o (by omega), cf 0]; exact hc0
  · have := ownsRow_setCell_below hown1 (a := ⟨w.heap.size, 1, none⟩) (Nat.lt_succ_self _) (.slice (some ⟨g, 0, none⟩) (k + 1) cap2)
    rw [← hs] at this
    exact this
  · rw [cs_o (by omega), cf 6]; exact hc6
  · rw [World.frozen?_setCell, ff o]; exact hfz o
  · exact ((hb.trans (hW.mono (Nat.le_of_lt hsz))).grown hgrow (Nat.le_of_lt hWs) (fun j hj => by have := (hown.lt j hj).1; omega)).setCell (Nat.le_refl _) _
  · have := hgrow.size
    simp
    omega
  · right
    show some g ≠ sh.ownBlock
    rcases hat with h | h
    · rcases hap with h' | h'
      · rw [h'] at h; cases h
      · rw [← h]; exact h'
    · intro e
      have := (hownh.lt g e.symm).2
      omega

theorem held_of_owns {w : World} {base n : Nat} {S : Nat → ByteArray} {sh : Value} (h : w.ownsRow base 41 3 sh n (heldCells S n)) : ∃ u c, sh = .slice u n c ∧ n ≤ c ∧ HeldAt w u n ∧ ∀ b o, u = some ⟨b, o, none⟩ → base ≤ b := by
  have hown := h
  rcases h.2 with ⟨rfl, rfl⟩ | ⟨g, cap, cur, rfl, h1, h2, h3, _⟩
  · exact ⟨none, 0, rfl, Nat.le_refl _, Or.inl rfl, by simp⟩
  · refine ⟨some ⟨g, 0, none⟩, cap, rfl, h3, Or.inr ⟨g, 0, rfl, (hown.lt g rfl).2, fun j hj => ?_⟩, fun b o e => ?_⟩
    · obtain ⟨e0, e1, e2⟩ := heldCells_at S n j hj
      simp only [Nat.zero_add]
      exact ⟨S j, (hown.cellAt (j * 3) (by omega)).trans e0, (hown.cellAt (j * 3 + 1) (by omega)).trans e1, (hown.cellAt (j * 3 + 2) (by omega)).trans e2⟩
    · simp at e
      omega

theorem kept_of_owns {w : World} {base n : Nat} {xs : List Value} {sv : Value} (h : w.ownsRow base 43 4 sv n xs) : ∃ v d, sv = .slice v n d := by
  rcases h.2 with ⟨rfl, rfl⟩ | ⟨g, cap, cur, rfl, _⟩
  · exact ⟨_, _, rfl⟩
  · exact ⟨_, _, rfl⟩

/-- A new Releases: how it ends. -/
theorem new_end {w wr : World} {S1 S2 : Nat → ByteArray} {n1 n2 : Nat} {sv sh R : Value} (hc0 : wr.cell? ⟨w.heap.size, 0, none⟩ = some sh) (hown : wr.ownsRow (w.heap.size + 1) 41 3 sh n1 (heldCells S1 n1)) (hc1 : wr.cell? ⟨w.heap.size, 1, none⟩ = some sv) (hown2 : wr.ownsRow (w.heap.size + 1) 43 4 sv n2 (keptCells S2 n2)) (hc6 : wr.cell? ⟨w.heap.size, 6, none⟩ = some R) (hfz : ∀ o, wr.frozen? ⟨w.heap.size, o, none⟩ = false) :
    ∃ u c v d, n1 ≤ c ∧ RelAt wr w.heap.size u n1 c v n2 d R := by
  obtain ⟨u, c, rfl, hc, hh, hap⟩ := held_of_owns hown
  obtain ⟨v, d, rfl⟩ := kept_of_owns hown2
  exact ⟨u, c, v, d, hc, hc0, hc1, hc6, hfz 0, hfz 1, hh, fun b o e => by have := hap b o e; omega⟩

/-- The ending: a new Releases in block g. -/
def RetR (e : Ending) (w' : World) (g n1 n2 : Nat) (R : Value) : Prop := e = .returned (.pointer (some ⟨g, 0, none⟩)) ∧ ∃ u c v d, n1 ≤ c ∧ RelAt w' g u n1 c v n2 d R

set_option maxHeartbeats 1000000 in
theorem new_any (a : Addr) (ad1 ad2 : Option Addr) (n1 c1 n2 c2 : Nat) (S1 S2 : Nat → ByteArray) (r : Bool) (w : World) (hE : w.cell? ⟨0, 0, none⟩ = some (.iface 58 (.pointer (some a))))
    (hn1 : n1 ≤ 65536) (hn2 : n2 ≤ 65536) (h1 : n1 = 0 ∨ ∃ x, ad1 = some x ∧ x.block < w.heap.size ∧ StrsAt w x n1 S1) (h2 : n2 = 0 ∨ ∃ x, ad2 = some x ∧ x.block < w.heap.size ∧ StrsAt w x n2 S2) :
    Calls Tryf.prog 8 #[.slice ad1 n1 c1, .slice ad2 n2 c2, .bool r] w fun e w' => RetR e w' w.heap.size n1 n2 (refE a r) ∧ Below w.heap.size w w' ∧ w.heap.size < w'.heap.size := by
  go_enter Tryf.func8, Tryf.ntmps8
  go_wp2
  go_loopw [8] (New1 w S1 n1) (fun i _ => n1 - (intOf i).toNat)
  case atStart => exact ⟨0, _, Nat.zero_le _, rfl, by simp, World.ownsRow_nil _ _ _ _, by simp, by simp, by simp, (Below.refl _ _).alloc (Nat.le_refl _) _, by simp⟩
  case round =>
    obtain ⟨k, sv, hk, rfl, hc0, hown, hc1', hc6, hfz, hb, hsz⟩ := hrel
    by_cases hlt : k < n1
    · obtain ⟨b, off, s, rfl, hbl, e0⟩ : ∃ (b off : Nat) (s : ByteArray), ad1 = some ⟨b, off, none⟩ ∧ b < w.heap.size ∧ wr.cell? ⟨b, off + k, none⟩ = some (.string s) ∧ S1 k = s := by
        rcases h1 with h | ⟨⟨b, off, sp⟩, rfl, hx, hS⟩
        · omega
        · obtain ⟨q1, q2, q3⟩ := (hS.below hb hx) k hlt
          simp only at q1 q2
          subst q1
          exact ⟨b, off, _, rfl, hx, q2, rfl⟩
      obtain ⟨e0, hs⟩ := e0
      have HS : Hid (S1 k = s) := hs
      have f0 := hfz 0
      obtain ⟨i0, hi, hz0, hz1, hz2⟩ := info_parts Tryf.info41
      have hki : (k : Int) < (n1 : Int) := by omega
      have hbs := hb.size
      have hnr : ∀ x, x ≤ w.heap.size → some x ≠ sv.ownBlock := fun x hx e => by have := (hown.lt x e.symm).1; omega
      have fa : ∀ ob, (wr.alloc ob).frozen? ⟨w.heap.size, 0, none⟩ = false := fun ob => (((Below.refl (w.heap.size + 1) wr).alloc (by omega) ob).frozen (p := ⟨w.heap.size, 0, none⟩) (Nat.lt_succ_self _)).trans f0
      clear hs
      go_wp2_with fail
      go_region_law (first | (refine step_append_lies _ (by rfl) _ _ 31 (by rfl) (w.heap.size + 1) 41 i0 _ 3 40 Tryf.underlying31 hi hz0 hz1 hz2 rfl (by decide) _ k (heldCells S1 k) (by rfl) (by exact World.ownsRow.alloc hown _) ⟨wr.heap.size, 0, none⟩ 1 1 [.string s, .nilIface, .func (.func 13) #[] #[]] (by rfl) rfl (by exact cell_three_new _ _ _ _ _) (held_one s) (by decide) (by unfold maxLen; omega) (by omega) (by simp; omega) (wr.heap.size + 1) (by simp) ?_; intro g cap2 w5 hown1 hgrow hat hltg; have q0 := (hgrow.cell_far ⟨w.heap.size, 0, none⟩ (by simp; omega) (hnr _ (Nat.le_refl _))).trans (by exact Lib.cell?_alloc_some _ hc0); have q1 := (hgrow.frozen_far ⟨w.heap.size, 0, none⟩ (by simp; omega) (hnr _ (Nat.le_refl _))).trans (by exact fa _)))
      all_goals
        have R := new1_step hlt HS.out hown hc0 hc1' hc6 hfz hb hsz (((Below.refl wr.heap.size wr).drew).alloc (Nat.le_refl _) _) hgrow hown1
        have HR := show Hid _ from R
        clear R hown1 hgrow hat hltg
        go_wp2_with fail
        go_roundw
        case rel => exact HR.out
        case measure => simp [intOf]; omega
    · obtain rfl : k = n1 := by omega
      go_wp2_with fail
      go_loopw [9] (New2 w S1 S2 k n2) (fun i _ => n2 - (intOf i).toNat)
      case atStart => exact ⟨0, _, sv, Nat.zero_le _, rfl, hc0, hown, hc1', World.ownsRow_nil _ _ _ _, hc6, hfz, hb, hsz, Or.inl rfl⟩
      case round =>
        clear hc0 hown hc1' hc6 hfz hb hsz
        obtain ⟨k2, sv2, sh, hk2, rfl, hc0, hownh, hc1', hown, hc6, hfz, hb, hsz, hap⟩ := hrel
        by_cases hlt2 : k2 < n2
        · obtain ⟨b, off, s, rfl, hbl, e0⟩ : ∃ (b off : Nat) (s : ByteArray), ad2 = some ⟨b, off, none⟩ ∧ b < w.heap.size ∧ wr.cell? ⟨b, off + k2, none⟩ = some (.string s) ∧ S2 k2 = s := by
            rcases h2 with h | ⟨⟨b, off, sp⟩, rfl, hx, hS⟩
            · omega
            · obtain ⟨q1, q2, q3⟩ := (hS.below hb hx) k2 hlt2
              simp only at q1 q2
              subst q1
              exact ⟨b, off, _, rfl, hx, q2, rfl⟩
          obtain ⟨e0, hs⟩ := e0
          have HS : Hid (S2 k2 = s) := hs
          have f0 := hfz 1
          obtain ⟨i0, hi, hz0, hz1, hz2⟩ := info_parts Tryf.info43
          have hki : (k2 : Int) < (n2 : Int) := by omega
          have hbs := hb.size
          have hnr : ∀ x, x ≤ w.heap.size → some x ≠ sv2.ownBlock := fun x hx e => by have := (hown.lt x e.symm).1; omega
          have fa : ∀ ob, (wr.alloc ob).frozen? ⟨w.heap.size, 1, none⟩ = false := fun ob => (((Below.refl (w.heap.size + 1) wr).alloc (by omega) ob).frozen (p := ⟨w.heap.size, 1, none⟩) (Nat.lt_succ_self _)).trans f0
          clear hs
          go_wp2_with fail
          go_region_law (first | (refine step_append_lies _ (by rfl) _ _ 32 (by rfl) (w.heap.size + 1) 43 i0 _ 4 64 Tryf.underlying32 hi hz0 hz1 hz2 rfl (by decide) _ k2 (keptCells S2 k2) (by rfl) (by exact World.ownsRow.alloc hown _) ⟨wr.heap.size, 0, none⟩ 1 1 [.string s, .string ByteArray.empty, .nilIface, .nilIface] (by rfl) rfl (by exact cell_four_new _ _ _ _ _ _) (kept_one s) (by decide) (by unfold maxLen; omega) (by omega) (by simp; omega) (wr.heap.size + 1) (by simp) ?_; intro g cap2 w5 hown1 hgrow hat hltg; have q0 := (hgrow.cell_far ⟨w.heap.size, 1, none⟩ (by simp; omega) (hnr _ (Nat.le_refl _))).trans (by exact Lib.cell?_alloc_some _ hc1'); have q1 := (hgrow.frozen_far ⟨w.heap.size, 1, none⟩ (by simp; omega) (hnr _ (Nat.le_refl _))).trans (by exact fa _)))
          all_goals
            have R := new2_step hlt2 HS.out hown hownh hc0 hc1' hc6 hfz hb hsz hap (((Below.refl wr.heap.size wr).drew).alloc (Nat.le_refl _) _) hgrow hown1 hat (Nat.le_succ _)
            have HR := show Hid _ from R
            clear R hown1 hgrow hat hltg
            go_wp2_with fail
            go_roundw
            case rel => exact HR.out
            case measure => simp [intOf]; omega
        · obtain rfl : k2 = n2 := by omega
          have hz0 : 0 < w.heap.size := by simpa using World.block_lt_of_cell? w _ hE
          have hE1 := (hb.cell (p := ⟨0, 0, none⟩) hz0).trans hE
          have f6 := hfz 6
          cases r
          · go_wp2_with fail
            go_ret
            exact ⟨⟨rfl, new_end hc0 hownh hc1' hown hc6 hfz⟩, hb, hsz⟩
          · go_wp2_with fail
            go_ret
            exact ⟨⟨rfl, new_end (by rw [cs_o (by omega)]; exact hc0) (ownsRow_setCell_below hownh (Nat.lt_succ_self _) _) (by rw [cs_o (by omega)]; exact hc1') (ownsRow_setCell_below hown (Nat.lt_succ_self _) _) (cs_s hc6) (fun o => by rw [World.frozen?_setCell]; exact hfz o)⟩, hb.setCell (Nat.le_refl _) _, by simpa using hsz⟩

end Go.Proofs.Qxb6605891aFmt
