/-
  THE CALLEES OF Fail: take (19), releaseAll (21) and its deferred call (23), runReleases (18), Fail (17).
-/
import Derived.Test.Qxb6605891aFmtRows
import Derived.WalkKit
import Derived.WalkSpells
import Derived.WalkLawsBesides
import Derived.Laws.EntriesVeiled
import Derived.Defers
import Derived.LaidEql
import Derived.Deep.LoopGhost
namespace Go.Proofs.Qxb6605891aFmt
open Go.RowKit

/-- The function value that ZZnewReleases registers. -/
def relFn : Value := .func (.func 13) #[] #[]

/-- n held releases lie where the slice's address u leads: each releases nothing. -/
def HeldAt (w : World) (u : Option Addr) (n : Nat) : Prop :=
  n = 0 ∨ ∃ h o, u = some ⟨h, o, none⟩ ∧ h < w.heap.size ∧ ∀ j, j < n → ∃ s : ByteArray, w.cell? ⟨h, o + j * 3, none⟩ = some (.string s) ∧ w.cell? ⟨h, o + j * 3 + 1, none⟩ = some .nilIface ∧ w.cell? ⟨h, o + j * 3 + 2, none⟩ = some (.func (.func 13) #[] #[])

theorem HeldAt.below {w w' : World} {u : Option Addr} {n B : Nat} (h : HeldAt w u n) (hb : Below B w w') (hB : w.heap.size ≤ B) : HeldAt w' u n := by
  rcases h with h | ⟨g, o, h1, h2, h3⟩
  · exact Or.inl h
  · refine Or.inr ⟨g, o, h1, Nat.lt_of_lt_of_le h2 hb.size, fun j hj => ?_⟩
    obtain ⟨s, e0, e1, e2⟩ := h3 j hj
    exact ⟨s, (hb.cell (p := ⟨g, o + j * 3, none⟩) (Nat.lt_of_lt_of_le h2 hB)).trans e0, (hb.cell (p := ⟨g, o + j * 3 + 1, none⟩) (Nat.lt_of_lt_of_le h2 hB)).trans e1, (hb.cell (p := ⟨g, o + j * 3 + 2, none⟩) (Nat.lt_of_lt_of_le h2 hB)).trans e2⟩

theorem nothing_any (w : World) : Calls Tryf.prog 13 #[] w fun e w' => e = .returned .nilIface ∧ w = w' := by
  go_enter Tryf.func13, Tryf.ntmps13
  go_wp2
  go_ret
  exact ⟨rfl, rfl⟩

/-- The deferred call, nothing being left. -/
theorem rest_deferred (b1 b2 : Nat) (u : Option Addr) (c : Nat) (w : World) (h : w.cell? ⟨b1, 0, none⟩ = some (.slice u 0 c)) (m : FrameMode) :
    CallsD Tryf.prog 23 #[.pointer (some ⟨b1, 0, none⟩), .pointer (some ⟨b2, 0, none⟩)] m w fun e m' w' => m' = m ∧ (e = .returned (.tuple #[]) ∧ w' = w) := by
  go_enter_d Tryf.func23, Tryf.ntmps23
  go_wp2
  go_end0
  exact ⟨rfl, rfl⟩

set_option maxHeartbeats 1000000 in
theorem releaseAll_any (u : Option Addr) (n c : Nat) (pf : Value) (w : World) (hn : n ≤ 1048576) (hc : n ≤ c) (hh : HeldAt w u n) :
    Calls Tryf.prog 21 #[.slice u n c, .func (.func 22) #[] #[pf]] w fun e w' => e = .returned (.tuple #[]) ∧ Below w.heap.size w w' := by
  have hmf : ∀ (fn : Fn) (first cap : Array Value) (w : World), (Instr.makeFunc fn first cap).run Tryf.prog w = .ok (.func fn first cap) w := fun _ _ _ _ => rfl
  go_enter_defers Tryf.func21, Tryf.ntmps21
  go_wp2
  go_loopg [5] n (fun k _ wr => k ≤ n ∧ wr.cell? ⟨w.heap.size, 0, none⟩ = some (.slice u k c) ∧ wr.frozen? ⟨w.heap.size, 0, none⟩ = false ∧ Below w.heap.size w wr ∧ w.heap.size + 1 < wr.heap.size)
  case atStart => exact ⟨Nat.le_refl _, by simp, by simp, ((Below.refl _ _).alloc (Nat.le_refl _) _).alloc (by simp) _, by simp⟩
  case round =>
    obtain ⟨hk, h0, hf0, hb, hsz⟩ := hrel
    by_cases hpos : 0 < gk
    · obtain ⟨h, o, s, rfl, hlt, e0, e1, e2⟩ : ∃ (h o : Nat) (s : ByteArray), u = some ⟨h, o, none⟩ ∧ h < w.heap.size ∧ wr.cell? ⟨h, o + (gk - 1) * 3, none⟩ = some (.string s) ∧ wr.cell? ⟨h, o + (gk - 1) * 3 + 1, none⟩ = some .nilIface ∧ wr.cell? ⟨h, o + (gk - 1) * 3 + 2, none⟩ = some (.func (.func 13) #[] #[]) := by
        rcases hh with h | ⟨h, o, h1, h2, h3⟩
        · omega
        · obtain ⟨s, e0, e1, e2⟩ := h3 (gk - 1) (by omega)
          exact ⟨h, o, s, h1, h2, (hb.cell (p := ⟨h, o + (gk - 1) * 3, none⟩) h2).trans e0, (hb.cell (p := ⟨h, o + (gk - 1) * 3 + 1, none⟩) h2).trans e1, (hb.cell (p := ⟨h, o + (gk - 1) * 3 + 2, none⟩) h2).trans e2⟩
      have hw0 : w.heap.size < wr.heap.size := by omega
      have d0 := fun ob => Lib.cell?_alloc_some (W := wr) ob h0
      have df : ∀ ob, (wr.alloc ob).frozen? ⟨w.heap.size, 0, none⟩ = false := fun ob => (((Below.refl (w.heap.size + 1) wr).alloc (by omega) ob).frozen (p := ⟨w.heap.size, 0, none⟩) (Nat.lt_succ_self _)).trans hf0
      go_wp2
      go_roundg (gk - 1)
      case measure => omega
      case rel =>
        exact ⟨by omega, Lib.cell?_alloc_some _ (World.cell?_setCell_same _ _ _ h0), (((Below.refl (w.heap.size + 1) (wr.setCell ⟨w.heap.size, 0, none⟩ _)).alloc (by simp; omega) _).frozen (p := ⟨w.heap.size, 0, none⟩) (Nat.lt_succ_self _)).trans (by simpa using hf0), (hb.setCell (Nat.le_refl _) _).alloc (by simp; omega) _, by simp; omega⟩
    · obtain rfl : gk = 0 := by omega
      go_wp2
      refine leaves_cons (f := 23) (args := #[.pointer (some ⟨w.heap.size, 0, none⟩), .pointer (some ⟨w.heap.size + 1, 0, none⟩)]) (by simp) (by simp [go_sem]) ?_
      refine (rest_deferred _ _ u c _ h0 _).mono ?_
      rintro e u' w'' ⟨rfl, rfl, rfl⟩
      exact ⟨_, results_none rfl _ _ _, rfl, hb⟩

set_option maxHeartbeats 400000 in
theorem runReleases_any (u : Option Addr) (n c : Nat) (w : World) (hn : n ≤ 1048576) (hc : n ≤ c) (hh : HeldAt w u n) :
    Calls Tryf.prog 18 #[.slice u n c] w fun e w' => e = .returned (.slice none 0 0) ∧ Below w.heap.size w w' := by
  have hmf : ∀ (fn : Fn) (first cap : Array Value) (w : World), (Instr.makeFunc fn first cap).run Tryf.prog w = .ok (.func fn first cap) w := fun _ _ _ _ => rfl
  have hh1 := fun ob => hh.below ((Below.refl w.heap.size w).alloc (Nat.le_refl _) ob) (Nat.le_refl _)
  go_enter Tryf.func18, Tryf.ntmps18
  go_wp2_with fail
  refine (releaseAll_any u n c _ _ hn hc (hh1 _)).mono ?_
  rintro e w1 ⟨rfl, hb1⟩
  have h1 := hb1.cell (p := ⟨w.heap.size, 0, none⟩) (by simp)
  simp at h1
  go_wp2
  go_ret
  exact ⟨rfl, ((Below.refl _ _).alloc (Nat.le_refl _) _).trans (hb1.mono (by simp))⟩

/-- A Releases in block g: what it holds, what it keeps, its refusal. -/
structure RelAt (w : World) (g : Nat) (u : Option Addr) (n c : Nat) (v : Option Addr) (m d : Nat) (R : Value) : Prop where
  held : w.cell? ⟨g, 0, none⟩ = some (.slice u n c)
  cached : w.cell? ⟨g, 1, none⟩ = some (.slice v m d)
  refused : w.cell? ⟨g, 6, none⟩ = some R
  f0 : w.frozen? ⟨g, 0, none⟩ = false
  f1 : w.frozen? ⟨g, 1, none⟩ = false
  lies : HeldAt w u n
  apart : ∀ b o, u = some ⟨b, o, none⟩ → b ≠ g

theorem RelAt.below {w w' : World} {g : Nat} {u : Option Addr} {n c : Nat} {v : Option Addr} {m d : Nat} {R : Value} (h : RelAt w g u n c v m d R) (hb : Below w.heap.size w w') : RelAt w' g u n c v m d R := by
  have hg : g < w.heap.size := by simpa using World.block_lt_of_cell? w _ h.held
  exact ⟨(hb.cell (p := ⟨g, 0, none⟩) hg).trans h.held, (hb.cell (p := ⟨g, 1, none⟩) hg).trans h.cached, (hb.cell (p := ⟨g, 6, none⟩) hg).trans h.refused, (hb.frozen (p := ⟨g, 0, none⟩) hg).trans h.f0, (hb.frozen (p := ⟨g, 1, none⟩) hg).trans h.f1, h.lies.below hb (Nat.le_refl _), h.apart⟩

theorem RelAt.lt {w : World} {g : Nat} {u : Option Addr} {n c : Nat} {v : Option Addr} {m d : Nat} {R : Value} (h : RelAt w g u n c v m d R) : g < w.heap.size := by simpa using World.block_lt_of_cell? w _ h.held

set_option maxHeartbeats 400000 in
theorem take_any (g : Nat) (u : Option Addr) (n c : Nat) (v : Option Addr) (m d : Nat) (R : Value) (w : World) (h : RelAt w g u n c v m d R) :
    Calls Tryf.prog 19 #[.pointer (some ⟨g, 0, none⟩)] w fun e w' => e = .returned (.slice u n c) ∧ w' = (w.setCell ⟨g, 0, none⟩ (.slice none 0 0)).setCell ⟨g, 1, none⟩ (.slice none 0 0) := by
  obtain ⟨c0, c1, c6, f0, f1, _, _⟩ := h
  go_enter Tryf.func19, Tryf.ntmps19
  go_wp2
  go_ret
  exact ⟨rfl, rfl⟩

theorem cs_o {w : World} {g p q : Nat} {v : Value} (h : p ≠ q) : (w.setCell ⟨g, p, none⟩ v).cell? ⟨g, q, none⟩ = w.cell? ⟨g, q, none⟩ :=
  World.cell?_setCell_other _ _ _ _ (fun e => h (by injection e))
theorem cs_s {w : World} {g p : Nat} {u v : Value} (h : w.cell? ⟨g, p, none⟩ = some u) : (w.setCell ⟨g, p, none⟩ v).cell? ⟨g, p, none⟩ = some v :=
  World.cell?_setCell_same _ _ _ h
theorem cs_far {w : World} {g g' p q : Nat} {v : Value} (h : g ≠ g') : (w.setCell ⟨g, p, none⟩ v).cell? ⟨g', q, none⟩ = w.cell? ⟨g', q, none⟩ :=
  World.cell?_setCell_other _ _ _ _ (fun e => h (by injection e))

/-- Behind 'take' nothing is held any more. -/
theorem taken {g : Nat} {u : Option Addr} {n c : Nat} {v : Option Addr} {m d : Nat} {R : Value} {w : World} (h : RelAt w g u n c v m d R) :
    RelAt ((w.setCell ⟨g, 0, none⟩ (.slice none 0 0)).setCell ⟨g, 1, none⟩ (.slice none 0 0)) g none 0 0 none 0 0 R ∧ HeldAt ((w.setCell ⟨g, 0, none⟩ (.slice none 0 0)).setCell ⟨g, 1, none⟩ (.slice none 0 0)) u n := by
  refine ⟨⟨?_, ?_, ?_, ?_, ?_, Or.inl rfl, by simp⟩, ?_⟩
  · rw [cs_o (by omega)]; exact cs_s h.held
  · exact cs_s (by rw [cs_o (by omega)]; exact h.cached)
  · rw [cs_o (by omega), cs_o (by omega)]; exact h.refused
  · simpa using h.f0
  · simpa using h.f1
  · rcases h.lies with h0 | ⟨b, o, h1, h2, h3⟩
    · exact Or.inl h0
    · have hne := (h.apart b o h1).symm
      refine Or.inr ⟨b, o, h1, by simpa using h2, fun j hj => ?_⟩
      obtain ⟨s, e0, e1, e2⟩ := h3 j hj
      exact ⟨s, by rw [cs_far hne, cs_far hne]; exact e0, by rw [cs_far hne, cs_far hne]; exact e1, by rw [cs_far hne, cs_far hne]; exact e2⟩

/-- An error that is nil, or a pointer to some error's struct. -/
def IsErr (t : TypeId) (v : Value) : Prop := v = .nilIface ∨ ∃ a : Addr, v = .iface t (.pointer (some a))

/-- What Fail answers. -/
def pickE (R err : Value) : Value := match R with
  | .nilIface => err
  | x => x

set_option maxHeartbeats 1000000 in
theorem fail_any (g : Nat) (u : Option Addr) (n c : Nat) (v : Option Addr) (m d : Nat) (t : TypeId) (R err : Value) (w : World) (hR : IsErr t R) (hn : n ≤ 1048576) (hc : n ≤ c) (h : RelAt w g u n c v m d R) :
    Calls Tryf.prog 17 #[.pointer (some ⟨g, 0, none⟩), err] w fun e w' => e = .returned (pickE R err) ∧ RelAt w' g none 0 0 none 0 0 R ∧ Below g w w' ∧ w.heap.size ≤ w'.heap.size := by
  have hR6 := h.refused
  have hT := taken h
  have hb0 : Below g w ((w.setCell ⟨g, 0, none⟩ (.slice none 0 0)).setCell ⟨g, 1, none⟩ (.slice none 0 0)) := ((Below.refl g w).setCell (Nat.le_refl _) _).setCell (Nat.le_refl _) _
  have hsz : ((w.setCell ⟨g, 0, none⟩ (.slice none 0 0)).setCell ⟨g, 1, none⟩ (.slice none 0 0)).heap.size = w.heap.size := by simp
  have HS : Hid (((w.setCell ⟨g, 0, none⟩ (.slice none 0 0)).setCell ⟨g, 1, none⟩ (.slice none 0 0)).heap.size = w.heap.size) := hsz
  have hg := h.lt
  clear hsz
  rcases hR with rfl | ⟨a, rfl⟩
  all_goals
    go_enter Tryf.func17, Tryf.ntmps17
    go_wp2_with (first | (go_at_call 19; refine (take_any g u n c v m d _ _ h).mono ?_; rintro e w1 ⟨rfl, rfl⟩) | (go_at_call 18; refine (runReleases_any u n c _ hn hc hT.2).mono ?_; rintro e w2 ⟨rfl, hb2⟩))
    go_ret
    exact ⟨rfl, hT.1.below hb2, hb0.trans (hb2.mono (by rw [HS.out]; omega)), by have := hb2.size; rw [HS.out] at this; exact this⟩

set_option maxHeartbeats 400000 in
theorem failNil_any (g : Nat) (u : Option Addr) (n c : Nat) (v : Option Addr) (m d : Nat) (t : TypeId) (R : Value) (w : World) (hR : IsErr t R) (hn : n ≤ 1048576) (hc : n ≤ c) (h : RelAt w g u n c v m d R) :
    Calls Tryf.prog 16 #[.pointer (some ⟨g, 0, none⟩)] w fun e w' => e = .returned (pickE R .nilIface) ∧ RelAt w' g none 0 0 none 0 0 R ∧ Below g w w' ∧ w.heap.size ≤ w'.heap.size := by
  go_enter Tryf.func16, Tryf.ntmps16
  go_wp2_with (go_at_call 17; refine (fail_any g u n c v m d t R _ _ hR hn hc h).mono ?_; rintro e w1 ⟨rfl, h1, h2, h3⟩)
  go_ret
  exact ⟨rfl, h1, h2, h3⟩

set_option maxHeartbeats 400000 in
theorem failClosed_any (g : Nat) (u : Option Addr) (n c : Nat) (v : Option Addr) (m d : Nat) (t : TypeId) (R E : Value) (w : World) (hE : w.cell? ⟨0, 0, none⟩ = some E) (hR : IsErr t R) (hn : n ≤ 1048576) (hc : n ≤ c) (h : RelAt w g u n c v m d R) :
    Calls Tryf.prog 14 #[.pointer (some ⟨g, 0, none⟩)] w fun e w' => e = .returned (pickE R E) ∧ RelAt w' g none 0 0 none 0 0 R ∧ Below g w w' ∧ w.heap.size ≤ w'.heap.size := by
  go_enter Tryf.func14, Tryf.ntmps14
  go_wp2_with (go_at_call 17; refine (fail_any g u n c v m d t R _ _ hR hn hc h).mono ?_; rintro e w1 ⟨rfl, h1, h2, h3⟩)
  go_ret
  exact ⟨rfl, h1, h2, h3⟩

set_option maxHeartbeats 400000 in
theorem heldLen_any (g : Nat) (v : Option Addr) (m d : Nat) (R : Value) (w : World) (h : RelAt w g none 0 0 v m d R) :
    Calls Tryf.prog 10 #[.pointer (some ⟨g, 0, none⟩)] w fun e w' => e = .returned (.int .i64 0) ∧ w = w' := by
  have h0 := h.held
  go_enter Tryf.func10, Tryf.ntmps10
  go_wp2
  go_ret
  exact ⟨rfl, rfl⟩

set_option maxHeartbeats 400000 in
theorem cachedLen_any (g : Nat) (u : Option Addr) (n c : Nat) (R : Value) (w : World) (h : RelAt w g u n c none 0 0 R) :
    Calls Tryf.prog 11 #[.pointer (some ⟨g, 0, none⟩)] w fun e w' => e = .returned (.int .i64 0) ∧ w = w' := by
  have h0 := h.cached
  go_enter Tryf.func11, Tryf.ntmps11
  go_wp2
  go_ret
  exact ⟨rfl, rfl⟩

end Go.Proofs.Qxb6605891aFmt
