/-
  math/bits.Div64: THE WALK: the quotient of two words by one.
-/
import Derived.Test.Qxb6613426aShelf
import Derived.Test.Qxb6613426aDivMath
import Derived.WalkKit
import Derived.Deep.CutBlock
import Derived.Deep.DeepCutAuto
import Derived.Laws.Externs
import Derived.RowKit3
namespace Go.Proofs.Qxb6613426a
open Go.RowKit

theorem wrapN (a : Nat) (ha : a < 18446744073709551616) : IntKind.u64.wrap (a : Int) = (a : Int) := by rw [IntKind.wrap_u64]; omega
theorem wrapM (a : Nat) : IntKind.u64.wrap (a : Int) = ((a % 18446744073709551616 : Nat) : Int) := by rw [IntKind.wrap_u64]; omega

theorem or_add (a b s : Nat) (hb : b < 2 ^ s) (h : a * 2 ^ s + b < 18446744073709551616) : bits .or .u64 ((a * 2 ^ s : Nat) : Int) (b : Int) = ((a * 2 ^ s + b : Nat) : Int) := by
  rw [bits_or_u64_nat _ _ (by omega) (by omega)]
  rw [← Nat.shiftLeft_eq, Nat.shiftLeft_add_eq_or_of_lt hb]

set_option maxRecDepth 10000 in
set_option maxHeartbeats 2000000 in
theorem div_any (hi lo y : Nat) (h0 : hi ≠ 0) (hhi : hi < y) (hlo : lo < 18446744073709551616) (hy : y < 18446744073709551616) (w : World) :
    Calls Try.prog 32 #[.int .u64 hi, .int .u64 lo, .int .u64 y] w fun e w' => ∃ r, e = .returned (.tuple #[.int .u64 (((hi * 18446744073709551616 + lo) / y : Nat) : Int), r]) ∧ w' = w := by
  obtain ⟨s, hs, hbl, ht1, ht2⟩ := shift_top y (by omega) hy
  have hz := Try.bits_LeadingZeros64 y w (by omega) (by omega)
  rw [show (64 - (Lib.bitLen (y : Int).toNat : Int)) = (s : Int) by rw [Int.toNat_natCast, hbl]; omega] at hz
  obtain ⟨R, hR⟩ : ∃ R, R = (hi * 18446744073709551616 + lo) / y := ⟨_, rfl⟩
  rw [← hR]
  go_enter Try.func32, Try.ntmps32
  go_upto_region 15 with (go_at_call 33; refine hz.mono ?_; rintro e w' ⟨rfl, rfl⟩)
  obtain ⟨hu1, hu2, hu3⟩ := shift_up hi lo y s hs hlo hhi
  have E1 : IntKind.u64.wrap ((y : Int) * 2 ^ s) = ((y * 2 ^ s : Nat) : Int) := by rw [← wrapN _ ht2]; simp
  have E2 : IntKind.u64.wrap ((hi : Int) * 2 ^ s) = ((hi * 2 ^ s : Nat) : Int) := by rw [← wrapN (hi * 2 ^ s) (Nat.lt_of_le_of_lt (Nat.le_add_right _ _) (Nat.lt_trans hu1 ht2))]; simp
  have E3 : IntKind.u64.wrap ((lo : Int) * 2 ^ s) = ((lo * 2 ^ s % 18446744073709551616 : Nat) : Int) := by rw [← wrapM]; simp
  have E4 : ((lo : Int) / 2 ^ (64 - s)) = ((lo / 2 ^ (64 - s) : Nat) : Int) := by simp
  have E5 := or_add hi (lo / 2 ^ (64 - s)) s hu2 (Nat.lt_trans hu1 ht2)
  have E6 := Mul64.maskN (y * 2 ^ s) ht2
  have E7 := Mul64.maskN (lo * 2 ^ s % 18446744073709551616) (by omega)
  have E8 : (hi * 18446744073709551616 + lo) / y = (hi * 18446744073709551616 + lo) * 2 ^ s / (y * 2 ^ s) := (Nat.mul_div_mul_right _ _ (Nat.two_pow_pos _)).symm
  rw [E8, ← hu3] at hR
  simp only [E1, E2, E3]
  rw [E4]
  rw [E5]
  clear E1 E2 E3 E4 E5 E8 hu2 hu3 hbl hz
  generalize hU : hi * 2 ^ s + lo / 2 ^ (64 - s) = U at *
  generalize hV : y * 2 ^ s = V at *
  generalize hL : lo * 2 ^ s % 18446744073709551616 = L at *
  generalize ((hi * 2 ^ s : Nat) : Int) = X46
  generalize ((lo / 2 ^ (64 - s) : Nat) : Int) = X50
  simp only [E6, E7, Mul64.divN]
  clear E6 E7
  have hLb : L < 18446744073709551616 := by omega
  have d1 : L / 4294967296 < 4294967296 := by omega
  have d0 : L % 4294967296 < 4294967296 := by omega
  have dl : L = L / 4294967296 * 4294967296 + L % 4294967296 := by omega
  have v1a : 2147483648 ≤ V / 4294967296 := by omega
  have v1b : V / 4294967296 < 4294967296 := by omega
  have v0a : V % 4294967296 < 4294967296 := by omega
  have vv : V = V / 4294967296 * 4294967296 + V % 4294967296 := by omega
  generalize hD1 : L / 4294967296 = D1 at *
  generalize hD0 : L % 4294967296 = D0 at *
  generalize hV1 : V / 4294967296 = V1 at *
  generalize hV0 : V % 4294967296 = V0 at *
  clear hU hV hL hD1 hD0 hV1 hV0 hLb
  have hV1z : ¬ V1 = 0 := by omega
  have hV1z' : ((V1 : Int) == 0) = false := by simp; omega
  go_upto_block 0 with fail
  have huv : U < V1 * 4294967296 + V0 := by omega
  have hst := dig_start v1a v1b v0a huv ‹D1 < 4294967296›
  have F0' : U / V1 * V1 ≤ U := Nat.div_mul_le_self U V1
  have F1 : (U : Int) / V1 = ((U / V1 : Nat) : Int) := by simp
  have F2 : IntKind.u64.wrap (((U / V1 : Nat) : Int) * V1) = ((U / V1 * V1 : Nat) : Int) := by rw [← wrapN _ (show U / V1 * V1 < 18446744073709551616 by omega)]; simp
  have F3 : IntKind.u64.wrap ((U : Int) - ((U / V1 * V1 : Nat) : Int)) = ((U - U / V1 * V1 : Nat) : Int) := by rw [← wrapN _ (show U - U / V1 * V1 < 18446744073709551616 by omega)]; congr 1; omega
  have F1' := wrapN (U / V1) (Nat.lt_of_le_of_lt (Nat.div_le_self _ _) (by omega))
  rw [F1, F1', F2, F3]
  clear F0' F1 F1' F2 F3
  obtain ⟨Q1, hQ1⟩ : ∃ Q1, Q1 = (U * 4294967296 + D1) / V := ⟨_, rfl⟩
  go_cut [15, 16] (fun q _ wc => q = .int .u64 ((Q1 : Nat) : Int) ∧ wc = w')
  case first =>
    go_wp2_with fail
    go_loopw [15, 16] (fun q r wr => ∃ q' r' : Nat, q = .int .u64 q' ∧ r = .int .u64 r' ∧ Dig V1 V0 U D1 q' r' ∧ wr = w') (fun q _ _ => (intOf q).toNat)
    case atStart => exact ⟨_, _, rfl, rfl, hst, rfl⟩
    case round =>
      obtain ⟨q, r, rfl, rfl, hd, rfl⟩ := hrel
      have hq1 : q ≤ 4294967297 := hd.2.2.1
      have hr1 : r < 4294967296 := hd.2.2.2
      have HD : Hid (Dig V1 V0 U D1 q r) := hd
      have HU : Hid (U < V1 * 4294967296 + V0) := huv
      have VV : Hid (Q1 = (U * 4294967296 + D1) / (V1 * 4294967296 + V0)) := by show _ = _; rw [hQ1, vv]
      have i1 : (r : Int) + V1 < 18446744073709551616 := by omega
      have i2 : (4294967296 : Int) * r < 18446744073709551616 := by omega
      have i3 : (4294967296 : Int) * r + D1 < 18446744073709551616 := by omega
      have i4 : (q : Int) < 18446744073709551616 := by omega
      clear hst hd hR vv dl huv hu1 hQ1
      by_cases hq : 4294967296 ≤ q
      · have hq' : (4294967296 : Int) ≤ q := by omega
        by_cases hr : r + V1 < 4294967296
        · skip
          have hM : Hid (Dig V1 V0 U D1 (q - 1) (r + V1)) := dig_more HU.out ‹D1 < 4294967296› HD.out (.inl hq) hr
          have j1 : decide ((4294967296 : Int) ≤ (r : Int) + V1) = false := decide_eq_false (by omega)
          have j2 : ¬ ((4294967296 : Int) ≤ (r : Int) + V1) := by omega
          clear hr
          clear hq hq1 hr1 v1a v1b v0a d1 d0 ht1 ht2 hs hlo hy hhi hV1z
          go_wp2_with fail
          go_roundw
          case rel => exact ⟨q - 1, r + V1, by congr 1; omega, by congr 1, hM.out, trivial⟩
          case measure => simp [intOf]; omega
        · skip
          have hM : Hid (q - 1 = (U * 4294967296 + D1) / (V1 * 4294967296 + V0)) := dig_break v0a HU.out ‹D1 < 4294967296› HD.out (.inl hq) (by omega)
          have j2 : (4294967296 : Int) ≤ (r : Int) + V1 := by omega
          clear hr
          clear hq hq1 hr1 v1a v1b v0a d1 d0 ht1 ht2 hs hlo hy hhi hV1z
          go_wp2_with fail
          go_meet
          case rel => exact ⟨by rw [VV.out, ← hM.out]; congr 1; omega, rfl⟩
      · have hPb : q * V0 < 18446744073709551616 := Nat.lt_of_le_of_lt (Nat.mul_le_mul (show q ≤ 4294967295 by omega) (show V0 ≤ 4294967295 by omega)) (by decide)
        have hP : IntKind.u64.wrap ((q : Int) * V0) = ((q * V0 : Nat) : Int) := by rw [← wrapN _ hPb]; simp
        have j3 : decide ((4294967296 : Int) ≤ q) = false := decide_eq_false (by omega)
        have j4 : ¬ (4294967296 : Int) ≤ q := by omega
        by_cases ht : q * V0 > 4294967296 * r + D1
        · have hq0 : 0 < q := by have := dig_above HU.out ‹D1 < 4294967296› HD.out.1 (.inr ht); exact Nat.zero_lt_of_lt this
          have hq0' : (1 : Int) ≤ q := by omega
          by_cases hr : r + V1 < 4294967296
          · skip
            have hM : Hid (Dig V1 V0 U D1 (q - 1) (r + V1)) := dig_more HU.out ‹D1 < 4294967296› HD.out (.inr ht) hr
            have j1 : decide ((4294967296 : Int) ≤ (r : Int) + V1) = false := decide_eq_false (by omega)
            have j2 : ¬ ((4294967296 : Int) ≤ (r : Int) + V1) := by omega
            generalize q * V0 = PP at *
            have ht' : (4294967296 : Int) * r + D1 < PP := by omega
            clear ht hPb hq0
            clear hr
            clear hq hq1 hr1 v1a v1b v0a d1 d0 ht1 ht2 hs hlo hy hhi hV1z
            go_wp2_with fail
            go_roundw
            case rel => exact ⟨q - 1, r + V1, by congr 1; omega, by congr 1, hM.out, trivial⟩
            case measure => simp [intOf]; omega
          · skip
            have hM : Hid (q - 1 = (U * 4294967296 + D1) / (V1 * 4294967296 + V0)) := dig_break v0a HU.out ‹D1 < 4294967296› HD.out (.inr ht) (by omega)
            have j2 : (4294967296 : Int) ≤ (r : Int) + V1 := by omega
            generalize q * V0 = PP at *
            have ht' : (4294967296 : Int) * r + D1 < PP := by omega
            clear ht hPb hq0
            clear hr
            clear hq hq1 hr1 v1a v1b v0a d1 d0 ht1 ht2 hs hlo hy hhi hV1z
            go_wp2_with fail
            go_meet
            case rel => exact ⟨by rw [VV.out, ← hM.out]; congr 1; omega, rfl⟩
        · have hM : Hid (q = (U * 4294967296 + D1) / (V1 * 4294967296 + V0)) := dig_done (by omega) HD.out ht
          generalize q * V0 = PP at *
          have j5 : decide ((4294967296 : Int) * r + D1 < PP) = false := decide_eq_false (by omega)
          have j6 : ¬ ((4294967296 : Int) * r + D1 < PP) := by omega
          clear ht hPb
          clear hq hq1 hr1 v1a v1b v0a d1 d0 ht1 ht2 hs hlo hy hhi hV1z
          go_wp2_with fail
          go_meet
          case rel => exact ⟨by rw [VV.out, ← hM.out], rfl⟩
  case rest =>
    obtain ⟨rfl, hwc⟩ := hcut
    have hwc' := hwc.symm
    clear hwc
    subst hwc'
    have hV0 : 0 < V := by omega
    have hm := Nat.div_add_mod (U * 4294967296 + D1) V
    have hml := Nat.mod_lt (U * 4294967296 + D1) hV0
    rw [← hQ1, Nat.mul_comm] at hm
    have h2 := two_digits V U D1 D0 hV0
    rw [← hQ1, ← dl, ← hR] at h2
    have G0 := dig_lt huv d1
    rw [← vv, ← hQ1] at G0
    generalize (U * 4294967296 + D1) % V = R1 at *
    have G1 : Hid (IntKind.u64.wrap (IntKind.u64.wrap (IntKind.u64.wrap ((U : Int) * 4294967296) + (D1 : Int)) - IntKind.u64.wrap ((Q1 : Int) * V)) = (R1 : Int)) := by
      show _ = _
      simp only [IntKind.wrap_u64]
      omega
    have HVV : Hid (V = V1 * 4294967296 + V0) := vv
    have H2 : Hid (Q1 * 4294967296 + (R1 * 4294967296 + D0) / V = R) := h2
    clear hm hQ1 hu1 huv hst hR dl vv h2
    go_upto_region 22 with fail
    rw [G1.out]
    clear G1
    have hu1 := hml
    go_upto_block 2 with fail
    have vv := HVV.out
    have huv : R1 < V1 * 4294967296 + V0 := by omega
    clear vv
    have hst := dig_start v1a v1b v0a huv ‹D0 < 4294967296›
    have F0' : R1 / V1 * V1 ≤ R1 := Nat.div_mul_le_self R1 V1
    have F1 : (R1 : Int) / V1 = ((R1 / V1 : Nat) : Int) := by simp
    have F2 : IntKind.u64.wrap (((R1 / V1 : Nat) : Int) * V1) = ((R1 / V1 * V1 : Nat) : Int) := by rw [← wrapN _ (show R1 / V1 * V1 < 18446744073709551616 by omega)]; simp
    have F3 : IntKind.u64.wrap ((R1 : Int) - ((R1 / V1 * V1 : Nat) : Int)) = ((R1 - R1 / V1 * V1 : Nat) : Int) := by rw [← wrapN _ (show R1 - R1 / V1 * V1 < 18446744073709551616 by omega)]; congr 1; omega
    have F1' := wrapN (R1 / V1) (Nat.lt_of_le_of_lt (Nat.div_le_self _ _) (by omega))
    rw [F1, F1', F2, F3]
    clear F0' F1 F1' F2 F3
    obtain ⟨Q0, hQ0⟩ : ∃ Q0, Q0 = (R1 * 4294967296 + D0) / V := ⟨_, rfl⟩
    go_cut [16, 18] (fun _ q wc => q = .int .u64 ((Q0 : Nat) : Int) ∧ wc = w')
    case first =>
      go_wp2_with fail
      go_loopw [16, 18] (fun r q wr => ∃ q' r' : Nat, q = .int .u64 q' ∧ r = .int .u64 r' ∧ Dig V1 V0 R1 D0 q' r' ∧ wr = w') (fun _ q _ => (intOf q).toNat)
      case atStart => exact ⟨_, _, rfl, rfl, hst, rfl⟩
      case round =>
        obtain ⟨q, r, rfl, rfl, hd, rfl⟩ := hrel
        have hq1 : q ≤ 4294967297 := hd.2.2.1
        have hr1 : r < 4294967296 := hd.2.2.2
        have HD : Hid (Dig V1 V0 R1 D0 q r) := hd
        have HU : Hid (R1 < V1 * 4294967296 + V0) := huv
        have VV : Hid (Q0 = (R1 * 4294967296 + D0) / (V1 * 4294967296 + V0)) := by show _ = _; rw [hQ0, HVV.out]
        have i1 : (r : Int) + V1 < 18446744073709551616 := by omega
        have i2 : (4294967296 : Int) * r < 18446744073709551616 := by omega
        have i3 : (4294967296 : Int) * r + D0 < 18446744073709551616 := by omega
        have i4 : (q : Int) < 18446744073709551616 := by omega
        clear hst hd huv hu1 hml hQ0
        by_cases hq : 4294967296 ≤ q
        · have hq' : (4294967296 : Int) ≤ q := by omega
          by_cases hr : r + V1 < 4294967296
          · skip
            have hM : Hid (Dig V1 V0 R1 D0 (q - 1) (r + V1)) := dig_more HU.out ‹D0 < 4294967296› HD.out (.inl hq) hr
            have j1 : decide ((4294967296 : Int) ≤ (r : Int) + V1) = false := decide_eq_false (by omega)
            have j2 : ¬ ((4294967296 : Int) ≤ (r : Int) + V1) := by omega
            clear hr
            clear hq hq1 hr1 v1a v1b v0a d1 d0 ht1 ht2 hs hlo hy hhi hV1z
            go_wp2_with fail
            go_roundw
            case rel => exact ⟨q - 1, r + V1, by congr 1; omega, by congr 1, hM.out, trivial⟩
            case measure => simp [intOf]; omega
          · skip
            have hM : Hid (q - 1 = (R1 * 4294967296 + D0) / (V1 * 4294967296 + V0)) := dig_break v0a HU.out ‹D0 < 4294967296› HD.out (.inl hq) (by omega)
            have j2 : (4294967296 : Int) ≤ (r : Int) + V1 := by omega
            clear hr
            clear hq hq1 hr1 v1a v1b v0a d1 d0 ht1 ht2 hs hlo hy hhi hV1z
            go_wp2_with fail
            go_meet
            case rel => exact ⟨by rw [VV.out, ← hM.out]; congr 1; omega, rfl⟩
        · have hPb : q * V0 < 18446744073709551616 := Nat.lt_of_le_of_lt (Nat.mul_le_mul (show q ≤ 4294967295 by omega) (show V0 ≤ 4294967295 by omega)) (by decide)
          have hP : IntKind.u64.wrap ((q : Int) * V0) = ((q * V0 : Nat) : Int) := by rw [← wrapN _ hPb]; simp
          have j3 : decide ((4294967296 : Int) ≤ q) = false := decide_eq_false (by omega)
          have j4 : ¬ (4294967296 : Int) ≤ q := by omega
          by_cases ht : q * V0 > 4294967296 * r + D0
          · have hq0 : 0 < q := by have := dig_above HU.out ‹D0 < 4294967296› HD.out.1 (.inr ht); exact Nat.zero_lt_of_lt this
            have hq0' : (1 : Int) ≤ q := by omega
            by_cases hr : r + V1 < 4294967296
            · skip
              have hM : Hid (Dig V1 V0 R1 D0 (q - 1) (r + V1)) := dig_more HU.out ‹D0 < 4294967296› HD.out (.inr ht) hr
              have j1 : decide ((4294967296 : Int) ≤ (r : Int) + V1) = false := decide_eq_false (by omega)
              have j2 : ¬ ((4294967296 : Int) ≤ (r : Int) + V1) := by omega
              generalize q * V0 = PP at *
              have ht' : (4294967296 : Int) * r + D0 < PP := by omega
              clear ht hPb hq0
              clear hr
              clear hq hq1 hr1 v1a v1b v0a d1 d0 ht1 ht2 hs hlo hy hhi hV1z
              go_wp2_with fail
              go_roundw
              case rel => exact ⟨q - 1, r + V1, by congr 1; omega, by congr 1, hM.out, trivial⟩
              case measure => simp [intOf]; omega
            · skip
              have hM : Hid (q - 1 = (R1 * 4294967296 + D0) / (V1 * 4294967296 + V0)) := dig_break v0a HU.out ‹D0 < 4294967296› HD.out (.inr ht) (by omega)
              have j2 : (4294967296 : Int) ≤ (r : Int) + V1 := by omega
              generalize q * V0 = PP at *
              have ht' : (4294967296 : Int) * r + D0 < PP := by omega
              clear ht hPb hq0
              clear hr
              clear hq hq1 hr1 v1a v1b v0a d1 d0 ht1 ht2 hs hlo hy hhi hV1z
              go_wp2_with fail
              go_meet
              case rel => exact ⟨by rw [VV.out, ← hM.out]; congr 1; omega, rfl⟩
          · have hM : Hid (q = (R1 * 4294967296 + D0) / (V1 * 4294967296 + V0)) := dig_done (by omega) HD.out ht
            generalize q * V0 = PP at *
            have j5 : decide ((4294967296 : Int) * r + D0 < PP) = false := decide_eq_false (by omega)
            have j6 : ¬ ((4294967296 : Int) * r + D0 < PP) := by omega
            clear ht hPb
            clear hq hq1 hr1 v1a v1b v0a d1 d0 ht1 ht2 hs hlo hy hhi hV1z
            go_wp2_with fail
            go_meet
            case rel => exact ⟨by rw [VV.out, ← hM.out], rfl⟩
    case rest =>
      obtain ⟨rfl, rfl⟩ := hcut
      have G2 := dig_lt huv d0
      rw [← HVV.out, ← hQ0] at G2
      have HR : Hid (Q1 * 4294967296 + Q0 = R) := by rw [hQ0]; exact H2.out
      have k1 : (Q1 : Int) * 4294967296 < 18446744073709551616 := by omega
      have k2 : (Q1 : Int) * 4294967296 + Q0 < 18446744073709551616 := by omega
      clear hst huv hu1 hml hQ0 v1a v1b v0a d1 d0 ht1 ht2 hlo hy hhi hV1z G0 G2
      go_wp2
      go_ret2
      exact ⟨_, by rw [← HR.out]; rfl, rfl⟩
/-- The upper word is 0: one division. -/
theorem div_low (lo y : Nat) (h0 : 0 < y) (hlo : lo < 18446744073709551616) (hy : y < 18446744073709551616) (w : World) :
    Calls Try.prog 32 #[.int .u64 0, .int .u64 lo, .int .u64 y] w fun e w' => ∃ r, e = .returned (.tuple #[.int .u64 ((lo / y : Nat) : Int), r]) ∧ Grown w w' := by
  have hz : ¬ y = 0 := by omega
  have hw : Hid (IntKind.u64.wrap ((lo : Int) / y) = ((lo / y : Nat) : Int)) := by
    show _ = _
    rw [← wrapN (lo / y) (Nat.lt_of_le_of_lt (Nat.div_le_self _ _) hlo)]
    simp
  go_enter Try.func32, Try.ntmps32
  go_wp2
  go_region
  go_wp2
  go_ret2
  rw [← hw.out]
  exact ⟨_, rfl, (Grown.refl _).drew⟩

/-- Both. -/
theorem div_all (hi lo y : Nat) (hhi : hi < y) (hlo : lo < 18446744073709551616) (hy : y < 18446744073709551616) (w : World) :
    Calls Try.prog 32 #[.int .u64 hi, .int .u64 lo, .int .u64 y] w fun e w' => ∃ r, e = .returned (.tuple #[.int .u64 (((hi * 18446744073709551616 + lo) / y : Nat) : Int), r]) ∧ Grown w w' := by
  by_cases h : hi = 0
  · subst h
    rw [Nat.zero_mul, Nat.zero_add]
    exact div_low lo y (by omega) hlo hy w
  · exact (div_any hi lo y h hhi hlo hy w).mono fun e w' ⟨r, he, hw⟩ => ⟨r, he, by rw [hw]; exact Grown.refl _⟩

/-- math/bits.Add64, the carry 0. -/
theorem add64 (x y : Nat) (w : World) : (callFunc 31 #[.int .u64 x, .int .u64 y, .int .u64 0]).run Try.prog w =
    .ok (.value (.tuple #[.int .u64 (((x + y) % 18446744073709551616 : Nat) : Int), .int .u64 (((x + y) / 18446744073709551616 : Nat) : Int)])) w := by
  rw [run_callFunc_extern Try.func31 (by kernel_rfl) (by kernel_rfl) (by kernel_rfl) (e := add64Entry) (by kernel_rfl), run_add64 x y 0 (by omega) (by omega) (by omega) (by omega)]
  simp only [Result.andThen]
  congr 5 <;> omega
end Go.Proofs.Qxb6613426a
