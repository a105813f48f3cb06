/-
  zzMul128 (20), zzLess128 (23), math/bits.Div64 (42).
-/
import Derived.Test.Qxb6605954aRows
import Derived.Test.Qxb6605954aShelf
import Derived.Test.Qxb6605954aArith
import Derived.WalkKit
import Derived.WalkSpells
import Derived.WalkLawsBesides
import Derived.Laws.EntriesVeiled
import Derived.Laws.Bits64b
import Derived.Laws.BitsAllLaws
import Derived.Deep.QuietTactic
import Derived.BigQuiet
import Derived.Deep.LoopGhost
import Derived.Deep.DeepCutAuto
import Derived.Deep.CutBlock
import Derived.Lib.ItoaNum
import Derived.Handy
namespace Go.Proofs.Qxb6605954a
open Go.RowKit

/-- How far y is to be shifted: by so much that its uppermost bit is set. -/
theorem lz_any (y : Nat) (hy0 : 0 < y) (hy : y < 18446744073709551616) : ∃ s : Nat, s ≤ 63 ∧ y * 2 ^ s < 18446744073709551616 ∧ 9223372036854775808 ≤ y * 2 ^ s ∧
    ∀ w : World, Calls Try.prog 49 #[.int .u64 y] w fun e w' => e = .returned (.int .i64 (s : Int)) ∧ w = w' := by
  have hb := Lib.bitLenAux_bounds 64 y hy (by omega)
  have hle := Lib.bitLen_le y 64 (Nat.le_refl _) hy
  change 1 ≤ Lib.bitLen y ∧ 2 ^ (Lib.bitLen y - 1) ≤ y ∧ y < 2 ^ Lib.bitLen y at hb
  obtain ⟨b1, b2, b3⟩ := hb
  refine ⟨64 - Lib.bitLen y, by omega, ?_, ?_, fun w => ?_⟩
  · have h : y * 2 ^ (64 - Lib.bitLen y) < 2 ^ Lib.bitLen y * 2 ^ (64 - Lib.bitLen y) := Nat.mul_lt_mul_of_pos_right b3 (Nat.pow_pos (by omega))
    rwa [← Nat.pow_add, show Lib.bitLen y + (64 - Lib.bitLen y) = 64 by omega] at h
  · have h : 2 ^ (Lib.bitLen y - 1) * 2 ^ (64 - Lib.bitLen y) ≤ y * 2 ^ (64 - Lib.bitLen y) := Nat.mul_le_mul_right _ b2
    rwa [← Nat.pow_add, show Lib.bitLen y - 1 + (64 - Lib.bitLen y) = 63 by omega] at h
  · refine (Try.bits_LeadingZeros64 (y : Int) w (by omega) (by omega)).mono ?_
    rintro e w' ⟨rfl, rfl⟩
    refine ⟨?_, rfl⟩
    rw [Int.toNat_natCast, show ((64 - Lib.bitLen y : Nat) : Int) = 64 - (Lib.bitLen y : Int) by omega]

theorem mask32 (a : Nat) (ha : a < 18446744073709551616) : bits .and .u64 (a : Int) 4294967295 = ((a % 4294967296 : Nat) : Int) := by
  have h := bits_and_u64_nat a 4294967295 ha (by omega)
  have e : a &&& 4294967295 = a % 4294967296 := Nat.and_two_pow_sub_one_eq_mod a 32
  rw [e] at h
  exact h

theorem wrap_nat (a : Nat) (ha : a < 18446744073709551616) : IntKind.u64.wrap (a : Int) = (a : Int) := by rw [IntKind.wrap_u64]; omega
theorem wrap_nat_mod (a : Nat) : IntKind.u64.wrap (a : Int) = ((a % 18446744073709551616 : Nat) : Int) := by rw [IntKind.wrap_u64]; omega

/-- What the loop that sets the estimate right holds. -/
def Est (u d y1 y0 k r : Nat) : Prop := u = k * y1 + r ∧ (u * 4294967296 + d) / (y1 * 4294967296 + y0) ≤ k

theorem Est.next {u d y1 y0 k r : Nat} (I : Est u d y1 y0 k r) (hU : u < y1 * 4294967296 + y0) (hd : d < 4294967296) (h : (4294967296 : Int) ≤ (k : Int) ∨ 4294967296 * (r : Int) + (d : Int) < ((k * y0 : Nat) : Int)) : 1 ≤ k ∧ Est u d y1 y0 (k - 1) (r + y1) := by
  have M := knuth_more I.1 hU hd (h.elim (fun h => Or.inl (by omega)) (fun h => Or.inr (by omega)))
  have hk : 1 ≤ k := Nat.lt_of_le_of_lt (Nat.zero_le _) M
  refine ⟨hk, ?_, Nat.le_sub_one_of_lt M⟩
  have e := I.1
  obtain ⟨j, rfl⟩ : ∃ j, k = j + 1 := ⟨k - 1, by omega⟩
  rw [Nat.add_mul, Nat.one_mul] at e
  rw [Nat.add_sub_cancel]
  omega

theorem Est.broke {u d y1 y0 k r Y : Nat} (I : Est u d y1 y0 k r) (hy : 0 < y1) (hy0 : y0 < 4294967296) (hY : Y = y1 * 4294967296 + y0) (hk : k ≤ 4294967296) (hr : (4294967296 : Int) ≤ (r : Int)) : k = (u * 4294967296 + d) / Y := by
  rw [hY]
  exact knuth_done I.1 (by omega) I.2 (knuth_break hk hy0 (by omega))

theorem Est.ended {u d y1 y0 k r Y : Nat} (I : Est u d y1 y0 k r) (hy : 0 < y1) (hY : Y = y1 * 4294967296 + y0) (h : ¬ (4294967296 * (r : Int) + (d : Int) < ((k * y0 : Nat) : Int))) : k = (u * 4294967296 + d) / Y := by
  rw [hY]
  exact knuth_done I.1 (by omega) I.2 (by omega)

theorem first_est {u d y1 y0 : Nat} (h1 : 2147483648 ≤ y1 ∧ y1 < 4294967296) (hy0 : y0 < 4294967296) (hu : u < y1 * 4294967296 + y0) (hd : d < 4294967296) :
    ∃ q p r : Nat, (u : Int).tdiv (y1 : Int) = (q : Int) ∧ IntKind.u64.wrap ((q : Int) * (y1 : Int)) = (p : Int) ∧ (u : Int) - (p : Int) = (r : Int) ∧ p ≤ u ∧ q ≤ 4294967297 ∧ r < y1 ∧ Est u d y1 y0 q r := by
  obtain ⟨F1, F2⟩ := knuth_first h1.1 hy0 hu hd
  have hp : u / y1 * y1 ≤ u := Nat.div_mul_le_self _ _
  have hm := Nat.mod_lt u (show 0 < y1 by omega)
  have e := Nat.div_add_mod u y1
  rw [Nat.mul_comm] at e
  refine ⟨u / y1, u / y1 * y1, u % y1, rfl, ?_, by omega, hp, F2, hm, e.symm, F1⟩
  rw [show ((u / y1 : Nat) : Int) * (y1 : Int) = ((u / y1 * y1 : Nat) : Int) by push_cast; rfl]
  exact wrap_nat _ (by omega)

/-- The rest behind the first half, in words that wrap. -/
theorem rest_word {u a q Y R : Nat} (h : u * 4294967296 + a = q * Y + R) (hR : R < 18446744073709551616) :
    IntKind.u64.wrap (IntKind.u64.wrap (IntKind.u64.wrap ((u : Int) * 4294967296) + (a : Int)) - IntKind.u64.wrap ((q : Int) * (Y : Int))) = (R : Int) := by
  rw [← Int.natCast_mul q Y]
  simp only [IntKind.wrap_u64]
  generalize q * Y = P at h ⊢
  omega

set_option maxRecDepth 100000 in
set_option maxHeartbeats 2000000 in
theorem div64_big (hi lo y : Nat) (w : World) (h1 : hi < y) (hlo : lo < 18446744073709551616) (hy : y < 18446744073709551616) (hh : hi ≠ 0) :
    Calls Try.prog 42 #[.int .u64 hi, .int .u64 lo, .int .u64 y] w fun e w' => (∃ r : Int, e = .returned (.tuple #[.int .u64 (((hi * 18446744073709551616 + lo) / y : Nat) : Int), .int .u64 r])) ∧ w = w' := by
  obtain ⟨s, hs, hY1, hY2, hlz⟩ := lz_any y (by omega) hy
  have t1 : ((y : Int) == 0) = false := by simp; omega
  have t2 : ((hi : Int) == 0) = false := by simp; omega
  have hm : min s 64 = s := by omega
  have hmt : min (64 - s) 64 = 64 - s := by omega
  obtain ⟨Y, hY⟩ : ∃ Y, Y = y * 2 ^ s := ⟨_, rfl⟩
  obtain ⟨A, hA⟩ : ∃ A, A = hi * 2 ^ s := ⟨_, rfl⟩
  obtain ⟨D, hD⟩ : ∃ D, D = lo / 2 ^ (64 - s) := ⟨_, rfl⟩
  obtain ⟨l, hl⟩ : ∃ l, l = lo * 2 ^ s % 18446744073709551616 := ⟨_, rfl⟩
  have hAY : A + D < Y := by rw [hA, hD, hY]; exact shift_lt (by omega) hlo h1
  rw [← hY] at hY1 hY2
  have eY : IntKind.u64.wrap ((y : Int) * 2 ^ s) = (Y : Int) := by
    rw [hY] at hY1 ⊢
    rw [show ((y : Int) * 2 ^ s) = ((y * 2 ^ s : Nat) : Int) by push_cast; rfl]
    exact wrap_nat _ hY1
  have eA : IntKind.u64.wrap ((hi : Int) * 2 ^ s) = (A : Int) := by
    rw [show ((hi : Int) * 2 ^ s) = ((hi * 2 ^ s : Nat) : Int) by push_cast; rfl, ← hA]
    exact wrap_nat _ (by omega)
  have eL : IntKind.u64.wrap ((lo : Int) * 2 ^ s) = (l : Int) := by
    rw [show ((lo : Int) * 2 ^ s) = ((lo * 2 ^ s : Nat) : Int) by push_cast; rfl, wrap_nat_mod, ← hl]
  have eD : (lo : Int) / 2 ^ (64 - s) = (D : Int) := by
    rw [hD]; push_cast; rfl
  have eU : bits .or .u64 (A : Int) (D : Int) = ((A + D : Nat) : Int) := by
    rw [bits_or_u64_nat A D (by omega) (by omega)]
    congr 1
    refine nat_join s A D ?_ ?_
    · rw [hA, Nat.mul_mod_left]
    · rw [hD]
      refine Nat.div_lt_of_lt_mul ?_
      rw [← Nat.pow_add, show 64 - s + s = 64 by omega]
      exact hlo
  obtain ⟨u, hu⟩ : ∃ u, u = A + D := ⟨_, rfl⟩
  rw [← hu] at eU hAY
  have hl1 : l < 18446744073709551616 := by rw [hl]; exact Nat.mod_lt _ (by omega)
  obtain ⟨y1, hy1⟩ : ∃ y1, y1 = Y / 4294967296 := ⟨_, rfl⟩
  obtain ⟨y0, hy0⟩ : ∃ y0, y0 = Y % 4294967296 := ⟨_, rfl⟩
  obtain ⟨a, ha⟩ : ∃ a, a = l / 4294967296 := ⟨_, rfl⟩
  obtain ⟨b, hb⟩ : ∃ b, b = l % 4294967296 := ⟨_, rfl⟩
  have ey1 : (Y : Int) / 4294967296 = (y1 : Int) := by omega
  have ey0 : bits .and .u64 (Y : Int) 4294967295 = (y0 : Int) := by rw [mask32 Y hY1, hy0]
  have ea : (l : Int) / 4294967296 = (a : Int) := by omega
  have eb : bits .and .u64 (l : Int) 4294967295 = (b : Int) := by rw [mask32 l hl1, hb]
  have W := show Hid _ from knuth_whole (hi := hi) (lo := lo) (y := y) (s := s) (u := u) (a := a) (b := b) (Y := Y) (by omega) (by omega) (by rw [hu, hA, hD]) (by rw [ha, hb, ← hl]; omega) hY
  have hYy : Y = y1 * 4294967296 + y0 := by omega
  have hy1b : 2147483648 ≤ y1 ∧ y1 < 4294967296 := by omega
  have hy0b : y0 < 4294967296 := by omega
  have hab : a < 4294967296 ∧ b < 4294967296 := by omega
  have HY := show Hid _ from hYy
  have ty1 : ((y1 : Int) == 0) = false := by simp; omega
  clear hY hA hD hl hu hy1 hy0 ha hb hYy
  rw [HY.out] at hAY
  obtain ⟨q0, p0, r0, eq0, ep0, er0, hp0u, F2, hr0y, I0⟩ := first_est hy1b hy0b hAY hab.1
  have huY : u < 18446744073709551616 := by have := HY.out; omega
  have HU := show Hid _ from hAY
  clear hAY
  have hq0b : q0 < 18446744073709551616 := by omega
  go_enter Try.func42, Try.ntmps42
  go_upto_block 0 with (go_at_call 49; refine (hlz _).mono ?_; rintro e w' ⟨rfl, rfl⟩)
  go_cut [15, 16] (fun x _ wx => x = .int .u64 ((u * 4294967296 + a) / Y : Nat) ∧ wx = w)
  case first =>
    go_wp2_with fail
    go_loopg [15, 16] q0 (fun k x z wr => ∃ r : Nat, x = .int .u64 k ∧ z = .int .u64 r ∧ k ≤ 4294967297 ∧ r < 4294967296 ∧ wr = w ∧ Est u a y1 y0 k r)
    case atStart => exact ⟨r0, rfl, rfl, F2, by omega, rfl, I0⟩
    case round =>
      obtain ⟨r, rfl, rfl, hk, hr, rfl, I⟩ := hrel
      by_cases hge : (4294967296 : Int) ≤ (gk : Int)
      · obtain ⟨k1, N⟩ := I.next HU.out hab.1 (Or.inl hge)
        by_cases hbr : (4294967296 : Int) ≤ (r : Int) + (y1 : Int)
        · have E := show Hid _ from N.broke (by omega) hy0b HY.out (by omega) (by omega)
          go_wp2
          go_meet
          case rel => exact ⟨by rw [← E.out]; congr 1; omega, rfl⟩
        · go_wp2
          go_roundg (gk - 1)
          case measure => omega
          case rel => exact ⟨r + y1, by congr 1; omega, by congr 1, by omega, by omega, rfl, N⟩
      · obtain ⟨p, hp⟩ : ∃ p, p = gk * y0 := ⟨_, rfl⟩
        have hpb : p ≤ 4294967295 * 4294967295 := by rw [hp]; exact Nat.mul_le_mul (by omega) (by omega)
        have ep : IntKind.u64.wrap ((gk : Int) * (y0 : Int)) = (p : Int) := by
          rw [show (gk : Int) * (y0 : Int) = ((gk * y0 : Nat) : Int) by push_cast; rfl, ← hp]
          exact wrap_nat _ (by omega)
        by_cases hgt : 4294967296 * (r : Int) + (a : Int) < (p : Int)
        · obtain ⟨k1, N⟩ := I.next HU.out hab.1 (Or.inr (by rw [← hp]; exact hgt))
          clear hp
          by_cases hbr : (4294967296 : Int) ≤ (r : Int) + (y1 : Int)
          · have E := show Hid _ from N.broke (by omega) hy0b HY.out (by omega) (by omega)
            go_wp2
            go_meet
            case rel => exact ⟨by rw [← E.out]; congr 1; omega, rfl⟩
          · go_wp2
            go_roundg (gk - 1)
            case measure => omega
            case rel => exact ⟨r + y1, by congr 1; omega, by congr 1, by omega, by omega, rfl, N⟩
        · have E := show Hid _ from I.ended (by omega) HY.out (by rw [← hp]; exact hgt)
          clear hp
          go_wp2
          go_meet
          case rel => exact ⟨by rw [← E.out], rfl⟩
  case rest =>
    obtain ⟨rfl, rfl⟩ := hcut
    clear eq0 ep0 er0 hp0u F2 hr0y I0 hq0b
    obtain ⟨q1, hq1⟩ : ∃ q1, q1 = (u * 4294967296 + a) / Y := ⟨_, rfl⟩
    obtain ⟨u2, hu2⟩ : ∃ u2, u2 = (u * 4294967296 + a) % Y := ⟨_, rfl⟩
    have hq1b : q1 < 4294967296 := by rw [hq1]; exact knuth_lt (by rw [HY.out]; exact HU.out) hab.1
    have hu2Y : u2 < Y := by rw [hu2]; exact Nat.mod_lt _ (by omega)
    have e2 := rest_word (u := u) (a := a) (q := q1) (Y := Y) (R := u2) (by rw [hq1, hu2, Nat.mul_comm (_ / Y)]; exact (Nat.div_add_mod _ _).symm) (by omega)
    have W2 := show Hid _ from W.out
    rw [← hq1, ← hu2] at W2
    rw [← hq1]
    clear hq1 hu2 W
    rw [HY.out] at hu2Y
    have HU2 := show Hid _ from hu2Y
    obtain ⟨q0, p0, r0, eq0, ep0, er0, hp0u, F2, hr0y, I0⟩ := first_est hy1b hy0b hu2Y hab.2
    have hu2b : u2 < 18446744073709551616 := by have := HY.out; omega
    clear hu2Y
    go_upto_block 2 with fail
    go_cut [18, 16] (fun x _ wx => x = .int .u64 ((u2 * 4294967296 + b) / Y : Nat) ∧ wx = wc)
    case first =>
      go_wp2_with fail
      go_loopg [18, 16] q0 (fun k x z wr => ∃ r : Nat, x = .int .u64 k ∧ z = .int .u64 r ∧ k ≤ 4294967297 ∧ r < 4294967296 ∧ wr = wc ∧ Est u2 b y1 y0 k r)
      case atStart => exact ⟨r0, rfl, rfl, F2, by omega, rfl, I0⟩
      case round =>
        obtain ⟨r, rfl, rfl, hk, hr, rfl, I⟩ := hrel
        by_cases hge : (4294967296 : Int) ≤ (gk : Int)
        · obtain ⟨k1, N⟩ := I.next HU2.out hab.2 (Or.inl hge)
          by_cases hbr : (4294967296 : Int) ≤ (r : Int) + (y1 : Int)
          · have E := show Hid _ from N.broke (by omega) hy0b HY.out (by omega) (by omega)
            go_wp2
            go_meet
            case rel => exact ⟨by rw [← E.out]; congr 1; omega, rfl⟩
          · go_wp2
            go_roundg (gk - 1)
            case measure => omega
            case rel => exact ⟨r + y1, by congr 1; omega, by congr 1, by omega, by omega, rfl, N⟩
        · obtain ⟨p, hp⟩ : ∃ p, p = gk * y0 := ⟨_, rfl⟩
          have hpb : p ≤ 4294967295 * 4294967295 := by rw [hp]; exact Nat.mul_le_mul (by omega) (by omega)
          have ep : IntKind.u64.wrap ((gk : Int) * (y0 : Int)) = (p : Int) := by
            rw [show (gk : Int) * (y0 : Int) = ((gk * y0 : Nat) : Int) by push_cast; rfl, ← hp]
            exact wrap_nat _ (by omega)
          by_cases hgt : 4294967296 * (r : Int) + (b : Int) < (p : Int)
          · obtain ⟨k1, N⟩ := I.next HU2.out hab.2 (Or.inr (by rw [← hp]; exact hgt))
            clear hp
            by_cases hbr : (4294967296 : Int) ≤ (r : Int) + (y1 : Int)
            · have E := show Hid _ from N.broke (by omega) hy0b HY.out (by omega) (by omega)
              go_wp2
              go_meet
              case rel => exact ⟨by rw [← E.out]; congr 1; omega, rfl⟩
            · go_wp2
              go_roundg (gk - 1)
              case measure => omega
              case rel => exact ⟨r + y1, by congr 1; omega, by congr 1, by omega, by omega, rfl, N⟩
          · have E := show Hid _ from I.ended (by omega) HY.out (by rw [← hp]; exact hgt)
            clear hp
            go_wp2
            go_meet
            case rel => exact ⟨by rw [← E.out], rfl⟩
    case rest =>
      obtain ⟨rfl, rfl⟩ := hcut
      have hq2b : (u2 * 4294967296 + b) / Y < 4294967296 := knuth_lt (by rw [HY.out]; exact HU2.out) hab.2
      obtain ⟨q2, hq2⟩ : ∃ q2, q2 = (u2 * 4294967296 + b) / Y := ⟨_, rfl⟩
      rw [← hq2] at W2 hq2b
      rw [← hq2]
      clear hq2
      go_wp2
      go_ret2
      rw [← W2.out, show ((q1 * 4294967296 + q2 : Nat) : Int) = (q1 : Int) * 4294967296 + (q2 : Int) by omega]
      exact ⟨⟨_, rfl⟩, rfl⟩

theorem natTmod (a b : Nat) : (a : Int).tmod (b : Int) = ((a % b : Nat) : Int) := rfl

set_option maxHeartbeats 2000000 in
theorem div64_small (lo y : Nat) (w : World) (hy0 : 0 < y) (hlo : lo < 18446744073709551616) (hy : y < 18446744073709551616) :
    Calls Try.prog 42 #[.int .u64 0, .int .u64 lo, .int .u64 y] w fun e w' => (∃ r : Int, e = .returned (.tuple #[.int .u64 ((lo / y : Nat) : Int), .int .u64 r])) ∧ ∃ q, w' = w.drewN q := by
  have t1 : ((y : Int) == 0) = false := by simp; omega
  obtain ⟨q, hq⟩ : ∃ q, q = lo / y := ⟨_, rfl⟩
  have hqb : q < 18446744073709551616 := by rw [hq]; exact Nat.lt_of_le_of_lt (Nat.div_le_self _ _) hlo
  have e1 : (lo : Int).tdiv (y : Int) = (q : Int) := by rw [hq]; rfl
  rw [← hq]
  clear hq
  go_enter Try.func42, Try.ntmps42
  go_wp2
  go_quiet (fail)
  go_wp2
  go_ret2
  exact ⟨⟨_, rfl⟩, _, rfl⟩


theorem div64_any (hi lo y : Nat) (w : World) (h1 : hi < y) (hlo : lo < 18446744073709551616) (hy : y < 18446744073709551616) :
    Calls Try.prog 42 #[.int .u64 hi, .int .u64 lo, .int .u64 y] w fun e w' => (∃ r : Int, e = .returned (.tuple #[.int .u64 (((hi * 18446744073709551616 + lo) / y : Nat) : Int), .int .u64 r])) ∧ Below w.heap.size w w' := by
  by_cases hh : hi = 0
  · subst hh
    refine (div64_small lo y w (by omega) hlo hy).mono ?_
    rintro e w' ⟨h, q, rfl⟩
    rw [Nat.zero_mul, Nat.zero_add]
    exact ⟨h, below_drewN (Below.refl _ _) _⟩
  · refine (div64_big hi lo y w h1 hlo hy hh).mono ?_
    rintro e w' ⟨h, rfl⟩
    exact ⟨h, Below.refl _ _⟩

theorem mul_halves (a1 a0 b1 b0 : Nat) : (a1 * 4294967296 + a0) * (b1 * 4294967296 + b0) = a1 * b1 * 18446744073709551616 + (a0 * b1 + a1 * b0) * 4294967296 + a0 * b0 := by
  have e1 : a1 * 4294967296 * (b1 * 4294967296) = a1 * b1 * 18446744073709551616 := by rw [Nat.mul_mul_mul_comm]
  have e2 : a1 * 4294967296 * b0 = a1 * b0 * 4294967296 := by rw [Nat.mul_right_comm]
  have e3 : a0 * (b1 * 4294967296) = a0 * b1 * 4294967296 := by rw [Nat.mul_assoc]
  rw [Nat.add_mul, Nat.mul_add, Nat.mul_add, e1, e2, e3, Nat.add_mul]
  omega

theorem mul_words {p00 p01 p10 p11 X : Nat} (h : X = p11 * 18446744073709551616 + (p01 + p10) * 4294967296 + p00) :
    p11 + p01 / 4294967296 + p10 / 4294967296 + (p00 / 4294967296 + p01 % 4294967296 + p10 % 4294967296) / 4294967296 = X / 18446744073709551616 ∧
    p00 % 4294967296 + (p00 / 4294967296 + p01 % 4294967296 + p10 % 4294967296) % 4294967296 * 4294967296 = X % 18446744073709551616 := by
  omega

theorem half_mul {a b : Nat} (ha : a < 4294967296) (hb : b < 4294967296) : a * b ≤ 18446744065119617025 := by
  have := Nat.mul_le_mul (show a ≤ 4294967295 by omega) (show b ≤ 4294967295 by omega)
  omega

theorem wrap_mul {a b : Nat} (h : a * b < 18446744073709551616) : IntKind.u64.wrap ((a : Int) * (b : Int)) = ((a * b : Nat) : Int) := by
  rw [← Int.natCast_mul]
  exact wrap_nat _ h

set_option maxRecDepth 100000 in
set_option maxHeartbeats 2000000 in
theorem mul128_any (x y : Nat) (w : World) (hx : x < 18446744073709551616) (hy : y < 18446744073709551616) :
    Calls Try.prog 20 #[.int .u64 x, .int .u64 y] w fun e w' => e = .returned (.tuple #[.int .u64 ((x * y / 18446744073709551616 : Nat) : Int), .int .u64 ((x * y % 18446744073709551616 : Nat) : Int)]) ∧ w = w' := by
  obtain ⟨a1, ha1⟩ : ∃ a1, a1 = x / 4294967296 := ⟨_, rfl⟩
  obtain ⟨a0, ha0⟩ : ∃ a0, a0 = x % 4294967296 := ⟨_, rfl⟩
  obtain ⟨b1, hb1⟩ : ∃ b1, b1 = y / 4294967296 := ⟨_, rfl⟩
  obtain ⟨b0, hb0⟩ : ∃ b0, b0 = y % 4294967296 := ⟨_, rfl⟩
  have ea1 : (x : Int) / 4294967296 = (a1 : Int) := by omega
  have ea0 : bits .and .u64 (x : Int) 4294967295 = (a0 : Int) := by rw [mask32 x hx, ha0]
  have eb1 : (y : Int) / 4294967296 = (b1 : Int) := by omega
  have eb0 : bits .and .u64 (y : Int) 4294967295 = (b0 : Int) := by rw [mask32 y hy, hb0]
  have X : x * y = a1 * b1 * 18446744073709551616 + (a0 * b1 + a1 * b0) * 4294967296 + a0 * b0 := by
    rw [← mul_halves]
    congr 1 <;> omega
  have l00 := half_mul (a := a0) (b := b0) (by omega) (by omega)
  have l01 := half_mul (a := a0) (b := b1) (by omega) (by omega)
  have l10 := half_mul (a := a1) (b := b0) (by omega) (by omega)
  have l11 := half_mul (a := a1) (b := b1) (by omega) (by omega)
  have e00 := wrap_mul (a := a0) (b := b0) (by omega)
  have e01 := wrap_mul (a := a0) (b := b1) (by omega)
  have e10 := wrap_mul (a := a1) (b := b0) (by omega)
  have e11 := wrap_mul (a := a1) (b := b1) (by omega)
  clear ha1 ha0 hb1 hb0
  generalize a0 * b0 = p00 at *
  generalize a0 * b1 = p01 at *
  generalize a1 * b0 = p10 at *
  generalize a1 * b1 = p11 at *
  obtain ⟨W1, W2⟩ := mul_words X
  rw [← W1, ← W2]
  have hb : x * y / 18446744073709551616 < 18446744073709551616 := by
    rw [Nat.div_lt_iff_lt_mul (by omega)]
    exact Nat.mul_lt_mul'' hx hy
  rw [← W1] at hb
  clear X W1 W2
  obtain ⟨c00, hc00⟩ : ∃ c, c = p00 / 4294967296 := ⟨_, rfl⟩
  obtain ⟨c01, hc01⟩ : ∃ c, c = p01 / 4294967296 := ⟨_, rfl⟩
  obtain ⟨c10, hc10⟩ : ∃ c, c = p10 / 4294967296 := ⟨_, rfl⟩
  obtain ⟨m00, hm00⟩ : ∃ c, c = p00 % 4294967296 := ⟨_, rfl⟩
  obtain ⟨m01, hm01⟩ : ∃ c, c = p01 % 4294967296 := ⟨_, rfl⟩
  obtain ⟨m10, hm10⟩ : ∃ c, c = p10 % 4294967296 := ⟨_, rfl⟩
  rw [← hc00, ← hc01, ← hc10, ← hm01, ← hm10] at hb ⊢
  rw [← hm00]
  have ec00 : (p00 : Int) / 4294967296 = (c00 : Int) := by omega
  have ec01 : (p01 : Int) / 4294967296 = (c01 : Int) := by omega
  have ec10 : (p10 : Int) / 4294967296 = (c10 : Int) := by omega
  have em00 : bits .and .u64 (p00 : Int) 4294967295 = (m00 : Int) := by rw [mask32 p00 (by omega), hm00]
  have em01 : bits .and .u64 (p01 : Int) 4294967295 = (m01 : Int) := by rw [mask32 p01 (by omega), hm01]
  have em10 : bits .and .u64 (p10 : Int) 4294967295 = (m10 : Int) := by rw [mask32 p10 (by omega), hm10]
  have k1 : c00 < 4294967296 := by omega
  have k2 : m01 < 4294967296 := by omega
  have k3 : m10 < 4294967296 := by omega
  have k4 : m00 < 4294967296 := by omega
  have k5 : c01 < 4294967296 := by omega
  have k6 : c10 < 4294967296 := by omega
  clear hc00 hc01 hc10 hm00 hm01 hm10
  obtain ⟨mid, hmid⟩ : ∃ c, c = c00 + m01 + m10 := ⟨_, rfl⟩
  have emid : (c00 : Int) + (m01 : Int) + (m10 : Int) = (mid : Int) := by omega
  have kmid : mid < 12884901888 := by omega
  rw [← hmid] at hb ⊢
  clear hmid
  obtain ⟨t, ht⟩ : ∃ c, c = mid / 4294967296 := ⟨_, rfl⟩
  have et : (mid : Int) / 4294967296 = (t : Int) := by omega
  obtain ⟨sh, hsh⟩ : ∃ c, c = mid % 4294967296 * 4294967296 := ⟨_, rfl⟩
  have esh : IntKind.u64.wrap ((mid : Int) * 4294967296) = (sh : Int) := by rw [IntKind.wrap_u64]; omega
  have elo : bits .or .u64 (m00 : Int) (sh : Int) = ((m00 + sh : Nat) : Int) := by
    rw [bits_or_u64_nat m00 sh (by omega) (by omega)]
    congr 1
    rw [Nat.or_comm, Nat.add_comm]
    exact nat_join 32 sh m00 (by omega) (by omega)
  rw [← ht] at hb ⊢
  rw [← hsh]
  have kt : t < 4294967296 := by omega
  clear ht hsh
  obtain ⟨lo, hlo⟩ : ∃ c, c = m00 + sh := ⟨_, rfl⟩
  rw [← hlo] at elo ⊢
  clear hlo
  go_enter Try.func20, Try.ntmps20
  go_wp2
  go_ret2
  rw [show ((p11 + c01 + c10 + t : Nat) : Int) = (p11 : Int) + (c01 : Int) + (c10 : Int) + (t : Int) by omega]
  exact ⟨rfl, rfl⟩

/-- Two words, as one number. -/
theorem less128_any (ah al bh bl : Nat) (w : World) (ha : al < 18446744073709551616) (hb : bl < 18446744073709551616) :
    Calls Try.prog 23 #[.int .u64 ah, .int .u64 al, .int .u64 bh, .int .u64 bl] w fun e w' => e = .returned (.bool (decide (ah * 18446744073709551616 + al < bh * 18446744073709551616 + bl))) ∧ w = w' := by
  by_cases h1 : (ah : Int) < (bh : Int)
  · have D : decide (ah * 18446744073709551616 + al < bh * 18446744073709551616 + bl) = true := decide_eq_true (by omega)
    rw [D]
    clear D
    go_enter Try.func23, Try.ntmps23
    go_wp2
    go_ret
    exact ⟨rfl, rfl⟩
  · by_cases h2 : ah = bh
    · subst h2
      by_cases h3 : (al : Int) < (bl : Int)
      · have D : decide (ah * 18446744073709551616 + al < ah * 18446744073709551616 + bl) = true := decide_eq_true (by omega)
        rw [D]
        clear D h1
        go_enter Try.func23, Try.ntmps23
        go_wp2
        go_ret
        exact ⟨rfl, rfl⟩
      · have D : decide (ah * 18446744073709551616 + al < ah * 18446744073709551616 + bl) = false := decide_eq_false (by omega)
        rw [D]
        clear D h1
        go_enter Try.func23, Try.ntmps23
        go_wp2
        go_ret
        exact ⟨rfl, rfl⟩
    · have D : decide (ah * 18446744073709551616 + al < bh * 18446744073709551616 + bl) = false := decide_eq_false (by omega)
      rw [D]
      have h3 : ((ah : Int) == (bh : Int)) = false := by simp; omega
      clear D h2
      go_enter Try.func23, Try.ntmps23
      go_wp2
      go_ret
      exact ⟨rfl, rfl⟩

end Go.Proofs.Qxb6605954a
