/-
  THE ROW 'Rows.FnAddToAppendsUnderOutlineAloneSaid', PROVED.
-/
import Derived.Test.Qxb6605891aAppends
import Derived.ProofKit
import Derived.OpenShut
import Derived.ChangeOld
import Derived.Below
import Derived.Deep.Slices
import Derived.Lib.SmallJoins
namespace Go.Proofs.Qxb6605891a
open Go.ChangeShapes Go.WideShapes Go.ChangeAt Go.RowKit Go.Joins
open Go.ChangeMaps (open_string shut_string)

theorem Try.own : ownKnob Try.prog.godebug = none := by kernel_rfl
theorem Try.laidOut : laidOutB Try.prog = true := by kernel_rfl
theorem Try.cells26 : Try.prog.cellsOf 26 = 1 := by kernel_rfl
theorem Try.cells28 : Try.prog.cellsOf 28 = 2 := by kernel_rfl

/-- One pair, as its two cells. -/
theorem open_pair {H : Type} {enc : TypeId × Value → H} {w : World} {base : Nat} {spare : Nat → Bool} {held : Bool} {fuel : Nat} {cs : List Value} {x : DataW H × List MemPlace} (h : DataW.trod enc Try.prog w base spare held fuel 24 cs = some x) :
    ∃ p q : Int, cs = [.int .i64 p, .int .i64 q] := by
  obtain ⟨y0, y1, n, _, hl, h0, h1⟩ := trod_struct2 Try.underlying24 h
  rw [Try.cells24] at hl
  match cs, hl with
  | [c0, c1], _ =>
    simp only [Try.cells3] at h0 h1
    obtain ⟨p, ep, _, _⟩ := DataW.trod_int Try.underlying3 h0
    obtain ⟨q, eq, _, _⟩ := DataW.trod_int Try.underlying3 h1
    simp at ep eq
    exact ⟨p, q, by rw [ep, eq]⟩

/-- A slice of pairs. -/
theorem open_pairs {H : Type} {enc : TypeId × Value → H} {w : World} {fuel : Nat} {v : Value} {x : DataW H × List MemPlace} (h : DataW.trod enc Try.prog w 0 (fun _ => true) true fuel 26 [v] = some x) :
    ∃ (u : Option Addr) (c : Nat) (zs : KVs), v = .slice u zs.length c ∧ zs.length ≤ maxLen ∧ PairsAt w 0 u zs := by
  rcases Deep.open_slice Try.underlying26 h with ⟨hcs, _⟩ | ⟨a', len', cap', m, n, D, Pl, hcs, _, hl, hm, hmm, _, hx⟩
  · simp at hcs
    exact ⟨none, 0, [], hcs, by simp, Or.inl rfl⟩
  · simp at hcs
    subst hcs
    simp only [if_true] at hmm
    rw [Try.cells24] at hx
    have one : ∀ i, i < len' → ∃ z : Int × Int, w.cell? (a'.add (i * 2)) = some (.int .i64 z.1) ∧ w.cell? (a'.add (i * 2 + 1)) = some (.int .i64 z.2) := by
      intro i hi
      obtain ⟨cs', h1, h2⟩ := hx i (by omega)
      obtain ⟨p, q, rfl⟩ := open_pair h2
      obtain ⟨_, _, hc⟩ := World.cells?_some h1
      have c0 := hc 0 (by omega)
      have c1 := hc 1 (by omega)
      rw [Deep.add_add] at c0 c1
      exact ⟨(p, q), by simpa using c0, by simpa using c1⟩
    obtain ⟨F, hF⟩ := Deep.choose_lt one
    refine ⟨some a', cap', (List.range len').map F, by simp, by simp; omega, ?_⟩
    by_cases h0 : len' = 0
    · left
      simp [h0]
    · right
      obtain ⟨b, off, spot⟩ := a'
      have hspot : spot = none := by simpa [Addr.add] using World.cell?_spot (hF 0 (by omega)).1
      subst hspot
      refine ⟨b, off, rfl, Nat.zero_le _, ?_, fun j p hp => ?_⟩
      · have := World.block_lt_of_cell? w _ (hF 0 (by omega)).1
        simpa [Addr.add] using this
      · obtain ⟨hj, hpj⟩ := List.getElem?_eq_some_iff.1 hp
        simp at hj
        have hpF : p = F j := by rw [← hpj]; simp
        subst hpF
        obtain ⟨c0, c1⟩ := hF j hj
        rw [add_plain] at c0 c1
        exact ⟨c0, by rw [Nat.add_assoc]; exact c1⟩

/-- One entry, as its two cells. -/
theorem open_entry {H : Type} {enc : TypeId × Value → H} {w : World} {fuel : Nat} {cs : List Value} {x : DataW H × List MemPlace} (h : DataW.trod enc Try.prog w 0 (fun _ => true) true fuel 28 cs = some x) :
    ∃ (s : ByteArray) (zs : KVs) (u : Option Addr) (c : Nat), cs = [.string s, .slice u zs.length c] ∧ s.size ≤ maxLen ∧ zs.length ≤ maxLen ∧ PairsAt w 0 u zs := by
  obtain ⟨y0, y1, n, _, hl, h0, h1⟩ := trod_struct2 Try.underlying28 h
  rw [Try.cells28] at hl
  match cs, hl with
  | [c0, c1], _ =>
    simp only [Try.cells9, Try.cells26] at h0 h1
    obtain ⟨s, e0, _, hs⟩ := DataW.trod_string Try.underlying9 h0
    simp at e0
    obtain ⟨u, c, zs, e1, hz, hp⟩ := open_pairs (v := c1) (by simpa using h1)
    exact ⟨s, zs, u, c, by rw [e0, e1], hs, hz, hp⟩

theorem open_entries {H : Type} {enc : TypeId × Value → H} {w : World} {fuel : Nat} {a : Option Addr} {len cap : Nat} {x : DataW H × List MemPlace} (h : DataW.trod enc Try.prog w 0 (fun _ => true) true fuel 22 [.slice a len cap] = some x) :
    (a = none ∧ len = 0 ∧ cap = 0) ∨ ∃ ad K Z, a = some ad ∧ len ≤ maxLen ∧ Ents w 0 ad len K Z := by
  rcases Deep.open_slice Try.underlying22 h with ⟨hcs, _⟩ | ⟨a', len', cap', m, n, D, Pl, hcs, _, hl, hm, hmm, _, hx⟩
  · simp at hcs
    exact Or.inl hcs
  · simp at hcs
    obtain ⟨rfl, rfl, rfl⟩ := hcs
    right
    simp only [if_true] at hmm
    rw [Try.cells28] at hx
    have one : ∀ i, i < len → ∃ z : ByteArray × KVs, z.1.size ≤ maxLen ∧ z.2.length ≤ maxLen ∧ w.cell? (a'.add (i * 2)) = some (.string z.1) ∧ ∃ u c, w.cell? (a'.add (i * 2 + 1)) = some (.slice u z.2.length c) ∧ PairsAt w 0 u z.2 := by
      intro i hi
      obtain ⟨cs', h1, h2⟩ := hx i (by omega)
      obtain ⟨s, zs, u, c, rfl, hs, hz, hp⟩ := open_entry h2
      obtain ⟨_, _, hc⟩ := World.cells?_some h1
      have c0 := hc 0 (by omega)
      have c1 := hc 1 (by omega)
      rw [Deep.add_add] at c0 c1
      exact ⟨(s, zs), hs, hz, by simpa using c0, u, c, by simpa using c1, hp⟩
    obtain ⟨F, hF⟩ := Deep.choose_lt one
    refine ⟨a', fun i => (F i).1, fun i => (F i).2, rfl, by omega, fun i hi => ?_⟩
    obtain ⟨b, off, spot⟩ := a'
    have hspot : spot = none := by simpa [Addr.add] using World.cell?_spot (hF 0 (by omega)).2.2.1
    subst hspot
    obtain ⟨h1, h2, c0, u, c, c1, hp⟩ := hF i hi
    rw [add_plain] at c0 c1
    exact ⟨rfl, h1, h2, c0, u, c, by rw [Nat.add_assoc]; exact c1, hp⟩

set_option maxRecDepth 100000 in
theorem appends_lifted (os : Os) (started : os.Started) (H : Type) (enc : TypeId × Value → H) :
    ReturnsInHanded {} Try.checked os 3 .any (Rows.fnAddToAppendsUnderOutlineAloneSpec.pre6 enc Try.prog Try.f3 Rows.fnAddToAppendsUnderOutlineAloneRow.domain false) (Rows.fnAddToAppendsUnderOutlineAloneSpec.post enc Try.prog Try.f3 false true false false) := by
  refine returnsInHanded_of_change (C := Try.checked) Try.own started (by kernel_rfl) Try.func3
    (ChangeSpec.witness6 (enc := enc) (C := Try.checked) false ⟨#[], #[.slice none 0 0, .string ByteArray.empty, .agg #[.int .i64 0, .int .i64 0]], []⟩ 8 (by kernel_rfl) (by kernel_rfl) (by kernel_rfl) (by kernel_rfl)) ?_
  intro W base args ds gs before hval0 hW hcnd _
  have hval : ∀ (j : Nat) t v, Try.f3.params[j]? = some t → args[j]? = some v → Value.okWide Try.prog W .any base t v := hval0
  have hW' := hW
  obtain ⟨p, q, hA0, hV, rfl, hfz, hnd⟩ := hW
  have hA : DataW.TrodAll enc Try.prog W 0 (fun _ => true) true Try.f3.params.toList args.toList ds p := hA0
  rw [Try.params3] at hA hval
  obtain ⟨v0, vs0, d0, ds0, p0, q0, hargs, rfl, rfl, h0, r0⟩ := trodAll_cons hA
  obtain ⟨v1, vs1, d1, ds1, p1, q1, rfl, rfl, rfl, h1, r1⟩ := trodAll_cons r0
  obtain ⟨v2, vs2, d2, ds2, p2, q2, rfl, rfl, rfl, h2, r2⟩ := trodAll_cons r1
  obtain ⟨rfl, rfl, rfl⟩ := trodAll_nil r2
  obtain rfl : args = #[v0, v1, v2] := by cases args; simp_all
  obtain ⟨rfl, rfl⟩ := trodVars_none hV
  obtain ⟨a0, len0, cap0, rfl⟩ := okWide_slice Try.underlying22 (hval 0 22 v0 rfl rfl)
  have k0 := h0
  have k1 := h1
  have k2 := h2
  have lt0 : ∀ x ∈ p0, x.block < W.heap.size := by obtain ⟨m, hm⟩ := k0; exact DataW.trod_lt m _ _ _ hm
  have lt1 : ∀ x ∈ p1, x.block < W.heap.size := by obtain ⟨m, hm⟩ := k1; exact DataW.trod_lt m _ _ _ hm
  have lt2 : ∀ x ∈ p2, x.block < W.heap.size := by obtain ⟨m, hm⟩ := k2; exact DataW.trod_lt m _ _ _ hm
  have w0 : Calls Try.prog 3 #[.slice a0 len0 cap0, v1, v2] W fun e w' => e = .returned (.bool true) ∧ Below W.heap.size W w' := by
    obtain ⟨fuel, hf⟩ := h0
    simp only [Value.cells] at hf
    obtain ⟨s, rfl, _, _, hs⟩ := open_string Try.underlying9 (hval 1 9 v1 rfl rfl) h1
    obtain ⟨c0, c1, y0, y1, m, rfl, _, _, hy0, hy1⟩ := open_agg2 Try.underlying24 (by kernel_rfl) Try.cells24 (hval 2 24 v2 rfl rfl) h2
    obtain ⟨va, e0, _, _⟩ := DataW.trod_int Try.underlying3 hy0
    obtain ⟨vc, e1, _, _⟩ := DataW.trod_int Try.underlying3 hy1
    simp at e0 e1
    subst e0 e1
    rcases open_entries hf with ⟨rfl, rfl, rfl⟩ | ⟨ad, K, Z, rfl, hn, hE⟩
    · exact appends_nil s va vc W hs
    · exact appends_some ad len0 cap0 K Z s va vc W hn hs hE
  clear hA0 hval0
  refine w0.mono fun e W' ⟨he, bel⟩ => ?_
  subst he
  exact ⟨_, rfl, _, _, _, [], _, [], hW', trodAll_mk1 (shut_bool Try.underlying4 _), (trodAll_cons_mk (Below.trod Try.laidOut (by kernel_rfl) (of_decide_eq_true (by kernel_rfl)) k0 bel lt0) (trodAll_cons_mk (Below.trod Try.laidOut (by kernel_rfl) (of_decide_eq_true (by kernel_rfl)) k1 bel lt1) (trodAll_cons_mk (Below.trod Try.laidOut (by kernel_rfl) (of_decide_eq_true (by kernel_rfl)) k2 bel lt2) trodAll_mk0))), rfl, bel.frame _, fun h => by cases h⟩

theorem appends_proved : Rows.FnAddToAppendsUnderOutlineAloneSaid :=
  OpenClaim.holds_of_wide 3 Try.f3 rfl rfl rfl rfl rfl rfl rfl ⟨rfl, rfl, rfl, rfl, rfl⟩ rfl rfl rfl rfl rfl (by kernel_rfl) Try.func3 (by kernel_rfl)
    (of_decide_eq_true (by kernel_rfl)) (by unfold Func.isWrapper; first | (rw [if_pos (by decide +kernel)]; kernel_rfl) | (rw [if_neg (by decide +kernel)]; exact ⟨rfl, rfl⟩))
    (fun os started H enc _ => appends_lifted os started H enc)

end Go.Proofs.Qxb6605891a
