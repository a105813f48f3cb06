/-
  THE APPENDS LAW's OWN WALK: what its two halves share; entries that are nil.
-/
import Derived.Test.Qxb6605891aClone
import Derived.Test.Qxb6605891aPlainE
import Derived.Deep.RegionHeld3
import Derived.Deep.AppendLies
import Derived.Deep.DrawnRows
namespace Go.Proofs.Qxb6605891a
open Go.RowKit
attribute [local go_sem ↓] Go.wp_at_zero Go.wp_at_succ

/-- The ending is a map that holds just M. -/
def RetG (e : Ending) (w' : World) (B n : Nat) (M : Groups) : Prop := ∃ b base, e = .returned (.map (some b)) ∧ GM w' base w'.heap.size b n M ∧ B ≤ b ∧ base ≤ w'.heap.size

theorem zzaddTo_new (w : World) {s : ByteArray} (hs : s.size ≤ maxLen) (a c : Int) :
    Calls Try.prog 8 #[.map none, .string s, kv a c] w fun e w' => RetG e w' w.heap.size 1 [(s, [(a, c)])] ∧ Below w.heap.size w w' := by
  refine (zzaddTo_nil w hs a c).mono ?_
  rintro e w' ⟨rfl, hgm, hb⟩
  have hl := hgm.lt
  exact ⟨⟨_, _, rfl, hgm, by omega, by omega⟩, hb⟩

theorem kept_lit (a c : Int) (w : World) :
    Calls Try.prog 7 #[.int .i64 a, .int .i64 c] w fun e w' => e = .returned (.agg #[.iface 3 (.int .i64 a), .iface 3 (.int .i64 c)]) ∧ w' = w.alloc (.cells #[.iface 3 (.int .i64 a), .iface 3 (.int .i64 c)] 33) := kept_any a c w

theorem owns.base {w : World} {base base' : Nat} {v : Value} {zs : KVs} (h : owns w base v zs) (hb : base' ≤ base) : owns w base' v zs := by
  refine ⟨h.1, ?_⟩
  rcases h.2 with h2 | ⟨g, cap, cur, h1, h2, h3⟩
  · exact Or.inl h2
  · exact Or.inr ⟨g, cap, cur, h1, Nat.le_trans hb h2, h3⟩

theorem owns.loc {w : World} {base : Nat} {v : Value} {zs : KVs} (h : owns w base v zs) : v.ownBlock = none ∨ v.ownBlock = none ∨ ∃ g, v.ownBlock = some g ∧ base ≤ g := by
  cases hv : v.ownBlock with
  | none => exact Or.inl rfl
  | some g => exact Or.inr (Or.inr ⟨g, rfl, (World.ownsRow.lt h g hv).1⟩)

/-- The two cells of the law's own copy of v. -/
def Box (w : World) (g : Nat) (va vc : Int) : Prop := w.cell? ⟨g, 0, none⟩ = some (.int .i64 va) ∧ w.cell? ⟨g, 1, none⟩ = some (.int .i64 vc)

theorem Box.below {w w' : World} {B g : Nat} {va vc : Int} (h : Box w g va vc) (hb : Below B w w') (hg : g < B) : Box w' g va vc :=
  ⟨(hb.cell (p := ⟨g, 0, none⟩) hg).trans h.1, (hb.cell (p := ⟨g, 1, none⟩) hg).trans h.2⟩

theorem Box_new (w : World) (va vc : Int) : Box (w.alloc (.cells #[.int .i64 va, .int .i64 vc] 24)) w.heap.size va vc := by
  constructor <;> simp

theorem GotAt_of_row {w : World} {g : Nat} {zs ys : KVs} (h : RowAt w g (zs ++ ys)) : GotAt w (some ⟨g, 0, none⟩) zs := by
  refine Or.inr ⟨g, 0, rfl, h.1, fun j p hp => ?_⟩
  have hj := (List.getElem?_eq_some_iff.1 hp).1
  have := h.2 j p (by rw [List.getElem?_append_left hj]; exact hp)
  simpa using this

theorem GotAt_of_row_end {w : World} {g : Nat} {zs : KVs} {p : Int × Int} (h : RowAt w g (zs ++ [p])) : GotAt w (some ⟨g, zs.length * 2, none⟩) [p] := by
  refine Or.inr ⟨g, zs.length * 2, rfl, h.1, fun j q hq => ?_⟩
  have hj : j = 0 := by have := (List.getElem?_eq_some_iff.1 hq).1; simpa using this
  subst hj
  simp at hq
  subst hq
  simpa using h.2 zs.length p (by simp)

theorem PairsAt_lit (w : World) (lo : Nat) (hlo : lo ≤ w.heap.size) (va vc : Int) : PairsAt (w.alloc (.cells #[.int .i64 va, .int .i64 vc] 24)) lo (some ⟨w.heap.size, 0, none⟩) [(va, vc)] := by
  refine Or.inr ⟨w.heap.size, 0, rfl, hlo, by simp, fun j q hq => ?_⟩
  have hj : j = 0 := by have := (List.getElem?_eq_some_iff.1 hq).1; simpa using this
  subst hj
  simp at hq
  subst hq
  constructor <;> simp

theorem wpList_look_cap (w : World) {ops : Array Oper} {rest : List Oper} {o : Oper} {a : Act} {Q : Exit → Act → World → Prop} (hg : o.guard = none) (m x : Operand) (hop : o.op = Op.lookup 30 m x false) {base top b n : Nat} {M : Groups} {s : ByteArray} {zs : KVs} (hm : a.eval m = .map (some b)) (hx : a.eval x = .string s) (h : GM w base top b n M) (hs : s.size ≤ maxLen) (hz : get M s = zs) (hne : zs ≠ [])
    (hK : ∀ g cap, RowAt w g zs → zs.length ≤ cap → cap ≤ maxLen → wpList Try.prog ops Q rest (a.put o.dst (.slice (some ⟨g, 0, none⟩) zs.length cap)) w) :
    wpList Try.prog ops Q (o :: rest) a w := by
  refine wpList_look w hg m x hop hm hx h hs ?_
  intro v hov _ _ _ _
  rw [hz] at hov
  obtain ⟨g, cap, hv, h1, h2, hrow⟩ := hov.slice' hne
  rw [hv]
  exact hK g cap hrow h1 h2

theorem owns.got {w : World} {base : Nat} {v : Value} {zs : KVs} (h : owns w base v zs) : ∃ u c, v = .slice u zs.length c ∧ GotAt w u zs := by
  by_cases hne : zs = []
  · subst hne
    rcases h.2 with ⟨h1, _⟩ | ⟨g, cap, cur, h1, _⟩
    · exact ⟨_, _, h1, Or.inl rfl⟩
    · exact ⟨_, _, h1, Or.inl rfl⟩
  · obtain ⟨g, cap, hv, hrow⟩ := h.slice hne
    exact ⟨_, _, hv, GotAt_of_row (ys := []) (by simpa using hrow)⟩

theorem wpList_look_ok (w : World) {ops : Array Oper} {rest : List Oper} {o : Oper} {a : Act} {Q : Exit → Act → World → Prop} (hg : o.guard = none) (m x : Operand) (hop : o.op = Op.lookup 30 m x true) {base top b n : Nat} {M : Groups} {s : ByteArray} {zs : KVs} (hm : a.eval m = .map (some b)) (hx : a.eval x = .string s) (h : GM w base top b n M) (hs : s.size ≤ maxLen) (hz : get M s = zs) (hh : has M s = true)
    (hK : ∀ u c, GotAt w u zs → wpList Try.prog ops Q rest (a.put o.dst (.tuple #[.slice u zs.length c, .bool true])) w) :
    wpList Try.prog ops Q (o :: rest) a w := by
  refine wpList_plain hg fun K' hK' => ?_
  obtain ⟨v, hrun, h1, h2, h3, h4, h5⟩ := h.look hs true
  rw [hz] at h1
  obtain ⟨u, c, rfl, hgot⟩ := h1.got
  rw [hh] at hrun
  unfold Oper.wp
  simp [execOp, hop, hm, hx, hrun, Result.andThen]
  exact hK' _ _ (hK u c hgot)

set_option maxRecDepth 100000 in
set_option maxHeartbeats 2000000 in
theorem appends_nil (s : ByteArray) (va vc : Int) (w : World) (hsz : s.size ≤ maxLen) :
    Calls Try.prog 3 #[.slice none 0 0, .string s, .agg #[.int .i64 va, .int .i64 vc]] w fun e w' => e = .returned (.bool true) ∧ Below w.heap.size w w' := by
  have hmn := fun (r : Option Nat) (w : World) => run_eql_map_nil (P := Try.prog) w 30 9 31 r Try.underlying30
  have hmn2 := fun (r : Option Nat) (w : World) => run_neq_map_nil (P := Try.prog) w 30 9 31 r Try.underlying30
  have hnl2 := fun (a : Option Addr) (n c : Nat) (w : World) => run_neq_slice_nil_any (P := Try.prog) w 22 28 a n c 0 0 Try.underlying22
  have hsz' := hsz
  unfold maxLen at hsz'
  have hbx0 := Box_new w va vc
  go_enter Try.func3, Try.ntmps3
  go_wp2_with (go_at_call 5; refine (zzBytesE_nil s va vc _ hsz).mono ?_; rintro e w1 ⟨⟨x, rfl⟩, hb1⟩; cases x)
  · go_ret
    exact ⟨rfl, ((Below.refl _ _).alloc (Nat.le_refl _) _).trans (hb1.mono (by simp))⟩
  · go_ret
    exact ⟨rfl, ((Below.refl _ _).alloc (Nat.le_refl _) _).trans (hb1.mono (by simp))⟩
  · have hbx := hbx0.below hb1 (by simp)
    obtain ⟨b0, b1⟩ := hbx
    have hb2 := ((Below.refl w.heap.size w).alloc (Nat.le_refl _) _).trans (hb1.mono (show w.heap.size ≤ _ by simp))
    have hs1 : w.heap.size < w1.heap.size := by have := hb1.size; simp at this; omega
    clear hb1 hbx0
    go_loop [7, 8] (fun t i => i = .int .i64 0) (fun _ _ => 0)
    case atStart => rfl
    case round =>
      obtain rfl := hrel
      go_wp2_with (first | (go_at_call 6; refine (cloneEntries_nil _).mono ?_; rintro e w2 ⟨rfl, rfl⟩) | (go_at_call 7; refine (kept_any _ _ _).mono ?_; rintro e w2 ⟨rfl, rfl⟩))
      refine (zzaddTo_new _ hsz va vc).mono ?_
      rintro e w3 ⟨⟨bm, base, rfl, hgm, hbm, hbs⟩, hb3⟩
      have hs3 : w.heap.size < w3.heap.size := by have := hb3.size; simp at this; omega
      obtain ⟨d0, d1⟩ := (show Box (w1.alloc _) w.heap.size va vc from ⟨Lib.cell?_alloc_some _ b0, Lib.cell?_alloc_some _ b1⟩).below hb3 (by simp; omega)
      have hb4 := (hb2.alloc hb2.size _).trans (hb3.mono (show w.heap.size ≤ _ by simp; omega))
      clear hb3 b0 b1
      have hgz : get [(s, [(va, vc)])] s = [(va, vc)] := by simp [get]
      have HZ : Hid (get [(s, [(va, vc)])] s = [(va, vc)]) := hgz
      clear hgz
      have hlM := hgm.len
      go_wp2_with (first | (go_at_call 9; refine (lastEntry_nil _ _).mono ?_; rintro e w2 ⟨rfl, rfl⟩) | (at_lookup; refine wpList_look_cap _ rfl _ _ rfl rfl rfl hgm hsz HZ.out (by simp) ?_; intro gg cc hrow hc1 hc2; simp only [List.length_cons, List.length_nil, Nat.zero_add] at hc1 ⊢))
      refine (sameKV_true (some ⟨gg, 0, none⟩) none cc 0 [] w3 (by simp) (lo := 0) (Or.inl rfl) (Or.inl rfl)).mono ?_
      rintro e w5 ⟨rfl, hb5⟩
      have hs5 : w.heap.size < w5.heap.size := Nat.lt_of_lt_of_le hs3 hb5.size
      obtain ⟨f0, f1⟩ := (show Box w3 w.heap.size va vc from ⟨d0, d1⟩).below hb5 hs3
      have hrow5 := hrow.below hb5 hrow.1
      have hgm5 := hgm.below hb5
      have hb6 := hb4.trans (hb5.mono (Nat.le_of_lt hs3))
      have hlM5 := hgm5.len
      clear d0 d1 hlM hrow
      go_wp2_with fail
      go_region_held3 (fun w' => w'.cell? ⟨w.heap.size, 0, none⟩ = some (.int .i64 va) ∧ w'.cell? ⟨w.heap.size, 1, none⟩ = some (.int .i64 vc)) (first | go_keep | (refine ⟨?_, ?_⟩ <;> (rw [hb7.cell (by simp; omega)]; go_keep))) (first | (go_at_call 10; refine (sameKV_true _ _ _ _ [(va, vc)] _ (by unfold maxLen; simp) (lo := 0) ((GotAt_of_row_end (zs := []) hrow5).below (((Below.refl _ w5).drew).alloc (Nat.le_refl _) _)) (PairsAt_lit _ 0 (Nat.zero_le _) va vc)).mono ?_; rintro e w6 ⟨rfl, hb7⟩))
      have hb8 := (((Below.refl w5.heap.size w5).drew).alloc (Nat.le_refl _) _).trans (hb7.mono (by simp))
      have hgm8 := hgm5.below hb8
      have hlM8 := hgm8.len
      have hb9 := hb6.trans (hb8.mono (Nat.le_of_lt hs5))
      clear hb7 hlM5
      go_wp2_with fail
      go_loop [17, 18] (fun d i => d = .int .i64 0 ∧ i = .int .i64 0) (fun _ _ => 0)
      case atStart => exact ⟨rfl, rfl⟩
      case round =>
        obtain ⟨rfl, rfl⟩ := hrel
        go_wp2_with fail
        go_ret
        exact ⟨rfl, hb9⟩

end Go.Proofs.Qxb6605891a
