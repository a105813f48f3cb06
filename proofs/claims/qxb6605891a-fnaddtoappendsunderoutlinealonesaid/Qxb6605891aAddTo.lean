/-
  'addTo' AND 'ZZaddTo': what one call does to the map.
-/
import Derived.Test.Qxb6605891aGroups
namespace Go.Proofs.Qxb6605891a
open Go.RowKit

section
variable (w : World) {ops : Array Oper} {rest : List Oper} {o : Oper} {a : Act} {Q : Exit → Act → World → Prop}

theorem wpList_look (hg : o.guard = none) (m x : Operand) (hop : o.op = Op.lookup 30 m x false) {base top b n : Nat} {M : Groups} {s : ByteArray} (hm : a.eval m = .map (some b)) (hx : a.eval x = .string s) (h : GM w base top b n M) (hs : s.size ≤ maxLen)
    (hK : ∀ v, owns w base v (get M s) → (get M s).length ≤ n → Clear w b s v.ownBlock → v.ownBlock ≠ some b → (∀ g, v.ownBlock = some g → g < top) → wpList Try.prog ops Q rest (a.put o.dst v) w) :
    wpList Try.prog ops Q (o :: rest) a w := by
  refine wpList_plain hg fun K' hK' => ?_
  obtain ⟨v, hrun, h1, h2, h3, h4, h5⟩ := h.look hs false
  unfold Oper.wp
  simp [execOp, hop, hm, hx, hrun, Result.andThen]
  exact hK' _ _ (hK v h1 h2 h3 h4 h5)

theorem wpList_store (hg : o.guard = none) (m x v : Operand) (hop : o.op = Op.mapUpdate 30 m x v) {w0 : World} {base top top' b n n' : Nat} {M : Groups} {s : ByteArray} {v' : Value} {zs' : KVs} {row : Option Nat} (hm : a.eval m = .map (some b)) (hx : a.eval x = .string s) (hv : a.eval v = v')
    (h : GM w0 base top b n M) (hs : s.size ≤ maxLen) (hn : n < maxLen) (hnn : n + 1 ≤ n') (htt : top ≤ top') (hcl : Clear w0 b s row) (hrb : row ≠ some b) (hgr : w0.grownBy w row) (hown' : owns w base v' zs') (hl' : zs'.length ≤ n')
    (hloc : v'.ownBlock = row ∨ v'.ownBlock = none ∨ ∃ g, v'.ownBlock = some g ∧ top ≤ g) (htop : ∀ g, v'.ownBlock = some g → g < top')
    (hK : ∀ w2, GM w2 base top' b n' (ups M s zs') → w.grownBy w2 (some b) → wpList Try.prog ops Q rest (a.put o.dst undef) w2) :
    wpList Try.prog ops Q (o :: rest) a w := by
  refine wpList_plain hg fun K' hK' => ?_
  obtain ⟨w2, hrun, r1, r2⟩ := h.store hs hn hnn htt hcl hrb hgr hown' hl' hloc htop
  unfold Oper.wp
  simp [execOp, hop, hm, hx, hv, hrun, Result.andThen]
  exact hK' _ _ (hK w2 r1 r2)
end

/-- The pairs zs lie in the row g. -/
def RowAt (w : World) (g : Nat) (zs : KVs) : Prop :=
  g < w.heap.size ∧ ∀ (q : Nat) (p : Int × Int), zs[q]? = some p → w.cell? ⟨g, q * 2, none⟩ = some (.iface 3 (.int .i64 p.1)) ∧ w.cell? ⟨g, q * 2 + 1, none⟩ = some (.iface 3 (.int .i64 p.2))

theorem owns.slice {w : World} {base : Nat} {v : Value} {zs : KVs} (h : owns w base v zs) (hne : zs ≠ []) : ∃ g cap, v = .slice (some ⟨g, 0, none⟩) zs.length cap ∧ RowAt w g zs := by
  have hown : w.ownsRow base 33 2 v zs.length (kvCells zs) := h
  rcases h.2 with ⟨_, h0⟩ | ⟨g, cap, cur, rfl, _⟩
  · exact absurd (List.length_eq_zero_iff.1 h0) hne
  · refine ⟨g, cap, rfl, (hown.lt g rfl).2, fun q p hp => ?_⟩
    have hq : q < zs.length := (List.getElem?_eq_some_iff.1 hp).1
    obtain ⟨e1, e2⟩ := kvCells_at zs q p hp
    exact ⟨(hown.cellAt (q * 2) (by omega)).trans e1, (hown.cellAt (q * 2 + 1) (by omega)).trans e2⟩

theorem owns.slice' {w : World} {base : Nat} {v : Value} {zs : KVs} (h : owns w base v zs) (hne : zs ≠ []) : ∃ g cap, v = .slice (some ⟨g, 0, none⟩) zs.length cap ∧ zs.length ≤ cap ∧ cap ≤ maxLen ∧ RowAt w g zs := by
  obtain ⟨g, cap, hv, hr⟩ := h.slice hne
  refine ⟨g, cap, hv, ?_, ?_, hr⟩
  · rcases h.2 with ⟨_, h0⟩ | ⟨g', cap', cur, e, _, _, h1, _⟩
    · exact absurd (List.length_eq_zero_iff.1 h0) hne
    · rw [hv] at e
      injection e with _ _ e
      omega
  · rcases h.2 with ⟨_, h0⟩ | ⟨g', cap', cur, e, _, _, _, h1, _⟩
    · exact absurd (List.length_eq_zero_iff.1 h0) hne
    · rw [hv] at e
      injection e with _ _ e
      omega

theorem RowAt.below {w w' : World} {B g : Nat} {zs : KVs} (h : RowAt w g zs) (hb : Below B w w') (hg : g < B) : RowAt w' g zs := by
  refine ⟨Nat.lt_of_lt_of_le h.1 hb.size, fun q p hp => ?_⟩
  obtain ⟨e1, e2⟩ := h.2 q p hp
  exact ⟨(hb.cell (p := ⟨g, q * 2, none⟩) hg).trans e1, (hb.cell (p := ⟨g, q * 2 + 1, none⟩) hg).trans e2⟩

theorem GM.below {w w' : World} {base top b n : Nat} {M : Groups} (h : GM w base top b n M) (hb : Below w.heap.size w w') : GM w' base top b n M :=
  h.kept (row := none) ⟨hb.os, hb.tape, hb.output, hb.size, fun k hk _ => hb.block k hk⟩ (by simp) (by simp)

theorem wpList_look_slice (w : World) {ops : Array Oper} {rest : List Oper} {o : Oper} {a : Act} {Q : Exit → Act → World → Prop} (hg : o.guard = none) (m x : Operand) (hop : o.op = Op.lookup 30 m x false) {base top b n : Nat} {M : Groups} {s : ByteArray} {zs : KVs} (hm : a.eval m = .map (some b)) (hx : a.eval x = .string s) (h : GM w base top b n M) (hs : s.size ≤ maxLen) (hz : get M s = zs) (hne : zs ≠ [])
    (hK : ∀ g cap, RowAt w g zs → wpList Try.prog ops Q rest (a.put o.dst (.slice (some ⟨g, 0, none⟩) zs.length cap)) w) :
    wpList Try.prog ops Q (o :: rest) a w := by
  refine wpList_look w hg m x hop hm hx h hs ?_
  intro v hov _ _ _ _
  rw [hz] at hov
  obtain ⟨g, cap, hv, hrow⟩ := hov.slice hne
  rw [hv]
  exact hK g cap hrow

theorem Try.info33 : (Try.prog.info? 33).map (fun i => (i.zero, i.size, i.bytes)) = some (some (.agg #[.nilIface, .nilIface]), 2, 32) := by kernel_rfl

theorem cell_two_new' (w : World) (x y : Value) (t : TypeId) : ∀ j u, [x, y][j]? = some u → (w.alloc (.cells #[x, y] t)).cell? ((⟨w.heap.size, 0, none⟩ : Addr).add j) = some u := by
  intro j u hj
  match j, hj with
  | 0, hj => simp at hj; subst hj; simp [Addr.add]
  | 1, hj => simp at hj; subst hj; simp [Addr.add]

theorem cell_two_next (w : World) (o : Obj) (x y : Value) (t : TypeId) : ∀ j u, [x, y][j]? = some u → ((w.alloc o).alloc (.cells #[x, y] t)).cell? ((⟨w.heap.size + 1, 0, none⟩ : Addr).add j) = some u := by
  have h := cell_two_new' (w.alloc o) x y t
  rw [show (w.alloc o).heap.size = w.heap.size + 1 by simp] at h
  exact h

theorem kv_one (a c : Int) : ∀ u ∈ [Value.iface 3 (.int .i64 a), .iface 3 (.int .i64 c)], u.oneCell' = true := by
  intro u hu
  simp at hu
  rcases hu with rfl | rfl <;> rfl

theorem owns_snoc {w1 : World} {base : Nat} {v' : Value} {zs : KVs} {a c : Int} (h : w1.ownsRow base 33 2 v' (zs.length + 1) (kvCells zs ++ [.iface 3 (.int .i64 a), .iface 3 (.int .i64 c)])) : owns w1 base v' (zs ++ [(a, c)]) := by
  unfold owns
  rw [kvCells_append]
  simpa [kvCells] using h

theorem loc_new {w : World} {o o' : Obj} {v v' : Value} {top : Nat} (ht : top ≤ w.heap.size) (h : v'.ownBlock = v.ownBlock ∨ v'.ownBlock = some ((w.alloc o).alloc o').heap.size) : v'.ownBlock = v.ownBlock ∨ v'.ownBlock = none ∨ ∃ g, v'.ownBlock = some g ∧ top ≤ g := by
  rcases h with h | h
  · exact Or.inl h
  · exact Or.inr (Or.inr ⟨_, h, by simp; omega⟩)

/-- The end of the walk, outside the walk. -/
theorem addTo_end {w w1 w2 : World} {o : Obj} {base top b n : Nat} {M : Groups} {v : Value} {zs : KVs} (h : GM w base top b n M) (hov : owns (w.alloc o) base v zs) (hg : (w.alloc o).grownBy w1 v.ownBlock) (hg2 : w1.grownBy w2 (some b)) : Below b w w2 := by
  have hlt := h.lt
  refine (((Below.refl b w).alloc (by omega) o).grown hg (by simp; omega) ?_).grown hg2 ?_ (fun k hk => by cases hk; exact Nat.le_refl _)
  · intro k hk
    have := (World.ownsRow.lt hov k hk).1
    omega
  · have := hg.size
    simp at this
    omega

set_option maxHeartbeats 400000 in
theorem addTo_some (w : World) {base top b n : Nat} {M : Groups} (h : GM w base top b n M) (hbase : base ≤ w.heap.size) (htop : top ≤ w.heap.size) (hn : n ≤ 1048576) {s : ByteArray} (hs : s.size ≤ maxLen) (a c : Int) :
    Calls Try.prog 14 #[.map (some b), .string s, kv a c] w fun e w' => e = .returned (.map (some b)) ∧ GM w' base w'.heap.size b (n + 1) (ups M s (get M s ++ [(a, c)])) ∧ Below b w w' := by
  obtain ⟨i0, hi, hz0, hz1, hz2⟩ := info_parts Try.info33
  have hnil := fun (r : Option Nat) (w : World) => run_eql_map_nil (P := Try.prog) w 30 9 31 r Try.underlying30
  unfold kv
  go_enter Try.func14, Try.ntmps14
  go_wp2_with (first | (at_lookup; refine wpList_look _ rfl _ _ rfl rfl rfl (h.alloc _) hs ?_; intro v hov hlv hcl hvb hvt) | (at_builtin; refine wpList_append_own_at _ rfl _ _ 31 rfl base 33 i0 _ 2 32 Try.underlying31 hi hz0 hz1 hz2 rfl (by decide) _ _ _ rfl (World.ownsRow.alloc hov _) ⟨w.heap.size + 1, 0, none⟩ 1 1 [.iface 3 (.int .i64 a), .iface 3 (.int .i64 c)] rfl rfl (cell_two_next _ _ _ _ _) (kv_one a c) (by unfold maxLen; omega) (by omega) (by simp; omega) ?_; intro v' w1 hown' hgrow hnil2 hloc; clear hnil2) | (at_mapUpdate; refine wpList_store (row := v.ownBlock) (n' := n + 1) (top' := w1.heap.size) _ rfl _ _ _ rfl rfl rfl rfl (h.alloc _) hs (by unfold maxLen; omega) (Nat.le_refl _) (by have := hgrow.size; simp at this; omega) hcl hvb ((World.grownBy_alloc _ _ _).trans hgrow) (owns_snoc hown') (by simp; omega) (loc_new htop hloc) (fun g hg => (World.ownsRow.lt hown' g hg).2) ?_; intro w2 hgm hg2))
  go_ret
  exact ⟨rfl, hgm.mono hg2.size (Nat.le_refl _), addTo_end h hov ((World.grownBy_alloc _ _ _).trans hgrow) hg2⟩

theorem loc_new3 {w : World} {o o' o'' : Obj} {v v' : Value} (h : v'.ownBlock = v.ownBlock ∨ v'.ownBlock = some (((w.alloc o).alloc o').alloc o'').heap.size) : v'.ownBlock = v.ownBlock ∨ v'.ownBlock = none ∨ ∃ g, v'.ownBlock = some g ∧ w.heap.size + 2 ≤ g := by
  rcases h with h | h
  · exact Or.inl h
  · exact Or.inr (Or.inr ⟨_, h, by simp⟩)

theorem GM_made2 (w : World) (o : Obj) : GM ((w.alloc o).alloc (.map #[] 0)) (w.heap.size + 2) (w.heap.size + 2) (w.heap.size + 1) 0 [] := by
  have h := GM_made (w.alloc o) (w.heap.size + 2) 0
  rw [show (w.alloc o).heap.size = w.heap.size + 1 by simp] at h
  exact h

theorem cell_two_third (w : World) (o o' : Obj) (x y : Value) (t : TypeId) : ∀ j u, [x, y][j]? = some u → (((w.alloc o).alloc o').alloc (.cells #[x, y] t)).cell? ((⟨w.heap.size + 2, 0, none⟩ : Addr).add j) = some u := by
  have h := cell_two_new' ((w.alloc o).alloc o') x y t
  rw [show ((w.alloc o).alloc o').heap.size = w.heap.size + 2 by simp] at h
  exact h

theorem addTo_end2 {w w1 w2 : World} {o o' o'' : Obj} {v : Value} {zs : KVs} (hov : owns ((w.alloc o).alloc o') (w.heap.size + 2) v zs) (hg : (((w.alloc o).alloc o').alloc o'').grownBy w1 v.ownBlock) (hg2 : w1.grownBy w2 (some (w.heap.size + 1))) : Below w.heap.size w w2 := by
  refine ((((Below.refl _ w).alloc (Nat.le_refl _) o).alloc (by simp) o').alloc (by simp; omega) o'').grown hg (by simp; omega) ?_ |>.grown hg2 ?_ (fun k hk => by cases hk; omega)
  · intro k hk
    have := (World.ownsRow.lt hov k hk).1
    omega
  · have := hg.size
    simp at this
    omega

set_option maxHeartbeats 400000 in
/-- The map is nil: a new one is made. -/
theorem addTo_nil (w : World) {s : ByteArray} (hs : s.size ≤ maxLen) (a c : Int) :
    Calls Try.prog 14 #[.map none, .string s, kv a c] w fun e w' => e = .returned (.map (some (w.heap.size + 1))) ∧ GM w' (w.heap.size + 2) w'.heap.size (w.heap.size + 1) 1 [(s, [(a, c)])] ∧ Below w.heap.size w w' := by
  obtain ⟨i0, hi, hz0, hz1, hz2⟩ := info_parts Try.info33
  have hnil := fun (r : Option Nat) (w : World) => run_eql_map_nil (P := Try.prog) w 30 9 31 r Try.underlying30
  have hmm := @run_makeMap Try.prog
  unfold kv
  go_enter Try.func14, Try.ntmps14
  go_wp2_with (first | (at_lookup; refine wpList_look _ rfl _ _ rfl rfl rfl (GM_made2 w _) hs ?_; intro v hov hlv hcl hvb hvt) | (at_builtin; refine wpList_append_own_at _ rfl _ _ 31 rfl (w.heap.size + 2) 33 i0 _ 2 32 Try.underlying31 hi hz0 hz1 hz2 rfl (by decide) _ _ _ rfl (World.ownsRow.alloc hov _) ⟨w.heap.size + 2, 0, none⟩ 1 1 [.iface 3 (.int .i64 a), .iface 3 (.int .i64 c)] rfl rfl (cell_two_third _ _ _ _ _ _) (kv_one a c) (by unfold maxLen; simp [get]) (by simp [get]) (by simp) ?_; intro v' w1 hown' hgrow hnil2 hloc; clear hnil2) | (at_mapUpdate; refine wpList_store (row := v.ownBlock) (n' := 1) (top' := w1.heap.size) _ rfl _ _ _ rfl rfl rfl rfl (GM_made2 w _) hs (by unfold maxLen; omega) (Nat.le_refl _) (by have := hgrow.size; simp at this; omega) hcl hvb ((World.grownBy_alloc _ _ _).trans hgrow) (owns_snoc hown') (by simp [get]) (loc_new3 hloc) (fun g hg => (World.ownsRow.lt hown' g hg).2) ?_; intro w2 hgm hg2))
  go_ret
  exact ⟨rfl, hgm.mono hg2.size (Nat.le_refl _), addTo_end2 hov hgrow hg2⟩

set_option maxHeartbeats 400000 in
theorem zzaddTo_some (w : World) {base top b n : Nat} {M : Groups} (h : GM w base top b n M) (hbase : base ≤ w.heap.size) (htop : top ≤ w.heap.size) (hn : n ≤ 1048576) {s : ByteArray} (hs : s.size ≤ maxLen) (a c : Int) :
    Calls Try.prog 8 #[.map (some b), .string s, kv a c] w fun e w' => e = .returned (.map (some b)) ∧ GM w' base w'.heap.size b (n + 1) (ups M s (get M s ++ [(a, c)])) ∧ Below b w w' := by
  have hlt := h.lt
  unfold kv
  go_enter Try.func8, Try.ntmps8
  go_wp2_with fail
  refine (addTo_some _ (h.alloc _) (by simp; omega) (by simp; omega) hn hs a c).mono ?_
  rintro e w1 ⟨rfl, hgm, hb1⟩
  go_wp2
  go_ret
  exact ⟨rfl, hgm, ((Below.refl b w).alloc (by omega) _).trans hb1⟩

set_option maxHeartbeats 400000 in
theorem zzaddTo_nil (w : World) {s : ByteArray} (hs : s.size ≤ maxLen) (a c : Int) :
    Calls Try.prog 8 #[.map none, .string s, kv a c] w fun e w' => e = .returned (.map (some (w.heap.size + 2))) ∧ GM w' (w.heap.size + 3) w'.heap.size (w.heap.size + 2) 1 [(s, [(a, c)])] ∧ Below w.heap.size w w' := by
  unfold kv
  go_enter Try.func8, Try.ntmps8
  go_wp2_with fail
  refine (addTo_nil _ hs a c).mono ?_
  rintro e w1 ⟨rfl, hgm, hb1⟩
  simp only [World.size_alloc] at hgm hb1 ⊢
  go_wp2
  go_ret
  exact ⟨rfl, hgm, ((Below.refl _ w).alloc (Nat.le_refl _) _).trans (hb1.mono (by omega))⟩

end Go.Proofs.Qxb6605891a
