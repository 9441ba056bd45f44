/-
  scaled, ZZscaled, mulWide, wideLess, isScaledUp: THE WALKS.
-/
import Derived.Test.Qxb6613426aMulDiv
namespace Go.Proofs.Qxb6613426a
open Go.RowKit

theorem grown_trans {a b c : World} (h : Grown a b) (k : Grown b c) : Grown a c :=
  ⟨World.keptBut_trans h.1 k.1, fun x => (k.2.1 x).trans (h.2.1 x), Nat.le_trans h.2.2 k.2.2⟩

/-- What 'scaled' answers. -/
def sc (t c a ac n : Nat) : Nat := cap ((n * (missN t c a ac).1 + ((missN t c a ac).2 - 1)) / (missN t c a ac).2)

theorem missN_ok (t c a ac : Nat) (ht : t < 9223372036854775808) (hc : c < 9223372036854775808) (ha : a < 9223372036854775808) (hac : ac < 9223372036854775808) (h : ac < a → 0 < ac) :
    (missN t c a ac).1 < 9223372036854775808 ∧ (missN t c a ac).2 < 9223372036854775808 ∧ 0 < (missN t c a ac).2 := by
  unfold missN
  split
  · exact ⟨by decide, by decide, by decide⟩
  · rename_i h1
    split
    · rename_i h2
      exact ⟨ha, hac, h h2.1⟩
    · exact ⟨ht, hc, by show 0 < c; omega⟩

set_option maxRecDepth 10000 in
set_option maxHeartbeats 2000000 in
theorem scaled_any (t c a ac n : Nat) (k : Bool) (ht : t < 9223372036854775808) (hc : c < 9223372036854775808) (ha : a < 9223372036854775808) (hac : ac < 9223372036854775808) (hn : n < 9223372036854775808) (h : ac < a → 0 < ac) (w : World) :
    Calls Try.prog 16 #[.agg #[.int .i64 t, .int .i64 c, .bool k, .int .i64 a, .int .i64 ac], .int .i64 n] w fun e w' => e = .returned (.int .i64 (sc t c a ac n : Nat)) ∧ Grown w w' := by
  obtain ⟨b1, b2, b3⟩ := missN_ok t c a ac ht hc ha hac h
  have HM : Hid (∀ w, Calls Try.prog 23 #[.agg #[.int .i64 t, .int .i64 c, .bool k, .int .i64 a, .int .i64 ac]] w fun e w' => e = .returned (.tuple #[.int .i64 ((missN t c a ac).1 : Nat), .int .i64 ((missN t c a ac).2 : Nat)]) ∧ Grown w w') := fun w => miss_any t c a ac k ht hc ha hac w
  have HS : Hid (∀ w, Calls Try.prog 24 #[.int .i64 n, .int .i64 ((missN t c a ac).1 : Nat), .int .i64 ((missN t c a ac).2 : Nat)] w fun e w' => e = .returned (.int .i64 (sc t c a ac n : Nat)) ∧ Grown w w') := fun w => scaleUp_any n _ _ hn b1 b2 b3 w
  generalize (missN t c a ac).1 = X1 at *
  generalize (missN t c a ac).2 = X2 at *
  generalize sc t c a ac n = R at *
  clear b1 b2 b3 h
  go_enter Try.func16, Try.ntmps16
  go_wp2_with (first | (go_at_call 23; refine Calls.mono (HM.out _) ?_; rintro e w2 ⟨rfl, hg⟩) | (go_at_call 24; refine Calls.mono (HS.out _) ?_; rintro e w3 ⟨rfl, hg2⟩))
  go_ret
  exact ⟨rfl, grown_trans (grown_trans ((Grown.refl w).alloc _ _) hg) hg2⟩

theorem zzscaled_any (t c a ac n : Nat) (k : Bool) (ht : t < 9223372036854775808) (hc : c < 9223372036854775808) (ha : a < 9223372036854775808) (hac : ac < 9223372036854775808) (hn : n < 9223372036854775808) (h : ac < a → 0 < ac) (w : World) :
    Calls Try.prog 7 #[.int .i64 t, .int .i64 c, .bool k, .int .i64 a, .int .i64 ac, .int .i64 n] w fun e w' => e = .returned (.int .i64 (sc t c a ac n : Nat)) ∧ Grown w w' := by
  have HM : Hid (∀ w, Calls Try.prog 16 #[.agg #[.int .i64 t, .int .i64 c, .bool k, .int .i64 a, .int .i64 ac], .int .i64 n] w fun e w' => e = .returned (.int .i64 (sc t c a ac n : Nat)) ∧ Grown w w') := fun w => scaled_any t c a ac n k ht hc ha hac hn h w
  generalize sc t c a ac n = R at *
  go_enter Try.func7, Try.ntmps7
  go_wp2_with (go_at_call 16; refine Calls.mono (HM.out _) ?_; rintro e w2 ⟨rfl, hg⟩)
  go_ret
  exact ⟨rfl, hg⟩

/-! ### The law's own helpers -/
theorem half_le {a b : Nat} (ha : a < 4294967296) (hb : b < 4294967296) : a * b ≤ 18446744065119617025 :=
  Nat.le_trans (Nat.mul_le_mul (show a ≤ 4294967295 by omega) (show b ≤ 4294967295 by omega)) (by decide)

theorem or_low (a b : Nat) (hb : b < 4294967296) (h : a * 4294967296 < 18446744073709551616) : bits .or .u64 (b : Int) ((a * 4294967296 : Nat) : Int) = ((a * 4294967296 + b : Nat) : Int) := by
  rw [bits_or_u64_nat _ _ (by omega) h, Nat.or_comm]
  have := Nat.shiftLeft_add_eq_or_of_lt (i := 32) (b := b) hb a
  rw [Nat.shiftLeft_eq] at this
  rw [← show a * 2 ^ 32 = a * 4294967296 by rfl, ← this]

theorem wide_parts (a1 a0 b1 b0 : Nat) :
    (a1 * 4294967296 + a0) * (b1 * 4294967296 + b0) = (a1 * b1) * 18446744073709551616 + (a0 * b1 + a1 * b0) * 4294967296 + a0 * b0 := by
  rw [Nat.add_mul, Nat.mul_add, Nat.mul_add]
  have e1 : a1 * 4294967296 * (b1 * 4294967296) = a1 * b1 * 18446744073709551616 := by
    rw [Nat.mul_mul_mul_comm]
  have e2 : a1 * 4294967296 * b0 = a1 * b0 * 4294967296 := Nat.mul_right_comm _ _ _
  have e3 : a0 * (b1 * 4294967296) = a0 * b1 * 4294967296 := (Nat.mul_assoc _ _ _).symm
  rw [e1, e2, e3]
  omega

set_option maxRecDepth 10000 in
set_option maxHeartbeats 2000000 in
theorem mulWide_any (a b : Nat) (ha : a < 18446744073709551616) (hb : b < 18446744073709551616) (w : World) :
    Calls Try.prog 17 #[.int .u64 a, .int .u64 b] w fun e w' => e = .returned (.tuple #[.int .u64 ((a * b / 18446744073709551616 : Nat) : Int), .int .u64 ((a * b % 18446744073709551616 : Nat) : Int)]) ∧ w' = w := by
  obtain ⟨RH, hRH⟩ : ∃ RH, RH = a * b / 18446744073709551616 := ⟨_, rfl⟩
  obtain ⟨RL, hRL⟩ : ∃ RL, RL = a * b % 18446744073709551616 := ⟨_, rfl⟩
  rw [← hRH, ← hRL]
  have HH : Hid (RH = a * b / 18446744073709551616) := hRH
  have HL : Hid (RL = a * b % 18446744073709551616) := hRL
  clear hRH hRL
  go_enter Try.func17, Try.ntmps17
  go_wp2
  have hRH := HH.out
  have hRL := HL.out
  clear HH HL
  have ea : a = a / 4294967296 * 4294967296 + a % 4294967296 := by omega
  have eb : b = b / 4294967296 * 4294967296 + b % 4294967296 := by omega
  have a1 : a / 4294967296 < 4294967296 := by omega
  have a0 : a % 4294967296 < 4294967296 := by omega
  have b1 : b / 4294967296 < 4294967296 := by omega
  have b0 : b % 4294967296 < 4294967296 := by omega
  simp only [Mul64.maskN a ha, Mul64.maskN b hb, Mul64.divN]
  generalize a / 4294967296 = A1 at *
  generalize a % 4294967296 = A0 at *
  generalize b / 4294967296 = B1 at *
  generalize b % 4294967296 = B0 at *
  have ew := wide_parts A1 A0 B1 B0
  rw [← ea, ← eb] at ew
  have p00 := half_le a0 b0
  have p01 := half_le a0 b1
  have p10 := half_le a1 b0
  have p11 := half_le a1 b1
  simp only [Mul64.mulN]
  generalize A0 * B0 = P00 at *
  generalize A0 * B1 = P01 at *
  generalize A1 * B0 = P10 at *
  generalize A1 * B1 = P11 at *
  clear ea eb
  generalize a * b = P at *
  simp only [wrapN P00 (by omega), wrapN P01 (by omega), wrapN P10 (by omega), wrapN P11 (by omega), Mul64.divN, Mul64.maskN P00 (by omega), Mul64.maskN P01 (by omega), Mul64.maskN P10 (by omega), Mul64.addN]
  have X0 : IntKind.u64.wrap (IntKind.u64.wrap ((P00 / 4294967296 + P01 % 4294967296 : Nat) : Int) + ((P10 % 4294967296 : Nat) : Int)) = ((P00 / 4294967296 + P01 % 4294967296 + P10 % 4294967296 : Nat) : Int) := by
    rw [wrapN _ (by omega), Mul64.addN, wrapN _ (by omega)]
  rw [X0]
  generalize hM : P00 / 4294967296 + P01 % 4294967296 + P10 % 4294967296 = M
  have X1 : IntKind.u64.wrap (IntKind.u64.wrap (IntKind.u64.wrap ((P11 + P01 / 4294967296 : Nat) : Int) + ((P10 / 4294967296 : Nat) : Int)) + (M : Int) / 4294967296) = (RH : Int) := by
    simp only [IntKind.wrap_u64]
    omega
  have X2 : IntKind.u64.wrap ((M : Int) * 4294967296) = ((M % 4294967296 * 4294967296 : Nat) : Int) := by
    simp only [IntKind.wrap_u64]
    omega
  rw [X1, X2, or_low _ _ (by omega) (by omega)]
  have X3 : M % 4294967296 * 4294967296 + P00 % 4294967296 = RL := by omega
  rw [X3]
  go_ret2
  exact ⟨rfl, rfl⟩

set_option maxRecDepth 10000 in
theorem wideLess_any (ah al bh bl : Nat) (h1 : al < 18446744073709551616) (h2 : bl < 18446744073709551616) (w : World) :
    Calls Try.prog 18 #[.int .u64 ah, .int .u64 al, .int .u64 bh, .int .u64 bl] w fun e w' => e = .returned (.bool (decide (ah * 18446744073709551616 + al < bh * 18446744073709551616 + bl))) ∧ w' = w := by
  obtain ⟨B, hB⟩ : ∃ B, B = decide (ah * 18446744073709551616 + al < bh * 18446744073709551616 + bl) := ⟨_, rfl⟩
  rw [← hB]
  by_cases g1 : ah < bh
  · obtain rfl : B = true := by rw [hB, decide_eq_true_iff]; omega
    clear hB
    go_enter Try.func18, Try.ntmps18
    go_wp2
    go_ret
    exact ⟨rfl, rfl⟩
  · by_cases g2 : ah = bh
    · subst g2
      by_cases g3 : al < bl
      · obtain rfl : B = true := by rw [hB, decide_eq_true_iff]; omega
        clear hB
        go_enter Try.func18, Try.ntmps18
        go_wp2
        go_ret
        exact ⟨rfl, rfl⟩
      · obtain rfl : B = false := by rw [hB, decide_eq_false_iff_not]; omega
        clear hB
        go_enter Try.func18, Try.ntmps18
        go_wp2
        go_ret
        exact ⟨rfl, rfl⟩
    · obtain rfl : B = false := by rw [hB, decide_eq_false_iff_not]; omega
      clear hB
      have g3 : ((ah : Int) == (bh : Int)) = false := by simp; omega
      have g4 : ¬ (ah : Int) < bh := by omega
      have hx : Hid (¬ ah < bh) := g1
      clear g1 g2 h1 h2
      go_enter Try.func18, Try.ntmps18
      go_wp2
      go_ret
      exact ⟨rfl, rfl⟩

/-- The two words of a product. -/
theorem wide_any (a b : Nat) (ha : a < 18446744073709551616) (hb : b < 18446744073709551616) : ∃ H L : Nat, H * 18446744073709551616 + L = a * b ∧ L < 18446744073709551616 ∧
    ∀ w, Calls Try.prog 17 #[.int .u64 a, .int .u64 b] w fun e w' => e = .returned (.tuple #[.int .u64 (H : Int), .int .u64 (L : Int)]) ∧ w' = w :=
  ⟨a * b / 18446744073709551616, a * b % 18446744073709551616, Nat.div_add_mod' _ _, Nat.mod_lt _ (by decide), fun w => mulWide_any a b ha hb w⟩

set_option maxRecDepth 10000 in
set_option maxHeartbeats 2000000 in
theorem isScaledUp_true (m n num den : Nat) (hm : m < 9223372036854775808) (hn : n < 9223372036854775808) (hnum : num < 9223372036854775808) (hden : den < 9223372036854775808)
    (h1 : m = 9223372036854775807 ∨ n * num ≤ m * den) (h2 : m = 0 ∨ (m - 1) * den < n * num) (w : World) :
    Calls Try.prog 8 #[.int .i64 m, .int .i64 n, .int .i64 num, .int .i64 den] w fun e w' => e = .returned (.bool true) ∧ w' = w := by
  obtain ⟨WH, WL, eW, bW, cW⟩ := wide_any n num (by omega) (by omega)
  obtain ⟨MH, ML, eM, bM, cM⟩ := wide_any m den (by omega) (by omega)
  obtain ⟨KH, KL, eK, bK, cK⟩ := wide_any (m - 1) den (by omega) (by omega)
  have HW : Hid (∀ w, Calls Try.prog 17 #[.int .u64 n, .int .u64 num] w fun e w' => e = .returned (.tuple #[.int .u64 (WH : Int), .int .u64 (WL : Int)]) ∧ w' = w) := cW
  have HM : Hid (∀ w, Calls Try.prog 17 #[.int .u64 m, .int .u64 den] w fun e w' => e = .returned (.tuple #[.int .u64 (MH : Int), .int .u64 (ML : Int)]) ∧ w' = w) := cM
  have i1 : (m : Int) < 9223372036854775808 := by omega
  have i2 : (n : Int) < 9223372036854775808 := by omega
  have i3 : (num : Int) < 9223372036854775808 := by omega
  have i4 : (den : Int) < 9223372036854775808 := by omega
  have LM : Hid (m ≠ 9223372036854775807 → ∀ w, Calls Try.prog 18 #[.int .u64 MH, .int .u64 ML, .int .u64 WH, .int .u64 WL] w fun e w' => e = .returned (.bool false) ∧ w' = w) := by
    intro hne w
    have h := wideLess_any MH ML WH WL bM bW w
    rw [decide_eq_false (by omega)] at h
    exact h
  have LK : Hid (m ≠ 0 → ∀ w, Calls Try.prog 18 #[.int .u64 KH, .int .u64 KL, .int .u64 WH, .int .u64 WL] w fun e w' => e = .returned (.bool true) ∧ w' = w) := by
    intro hne w
    have h := wideLess_any KH KL WH WL bK bW w
    rw [decide_eq_true (by omega)] at h
    exact h
  have HK : Hid (m ≠ 0 → ∀ w, Calls Try.prog 17 #[.int .u64 ((m : Int) - 1), .int .u64 den] w fun e w' => e = .returned (.tuple #[.int .u64 (KH : Int), .int .u64 (KL : Int)]) ∧ w' = w) := by
    intro hne w
    have h := cK w
    rw [show ((m - 1 : Nat) : Int) = (m : Int) - 1 by omega] at h
    exact h
  clear cW cM cK eW eM eK bW bM bK h1 h2
  by_cases g1 : m = 9223372036854775807
  · have g2 : m ≠ 0 := by omega
    have G1 : Hid (((m : Int) == 9223372036854775807) = true ∧ ((m : Int) != 9223372036854775807) = false) := ⟨by simp; omega, by simp; omega⟩
    have G2 : Hid ((0 : Int) < m) := by show (0 : Int) < m; omega
    have HK' : Hid _ := HK.out g2
    have LK' : Hid _ := LK.out g2
    clear HM
    have I : Hid ((m : Int) < 9223372036854775808 ∧ (n : Int) < 9223372036854775808 ∧ (num : Int) < 9223372036854775808 ∧ (den : Int) < 9223372036854775808) := ⟨i1, i2, i3, i4⟩
    clear hm hn hnum hden LM HK LK g1 g2 i1 i2 i3 i4
    have hz : ¬ (m : Int) < 0 := by omega
    go_enter Try.func8, Try.ntmps8
    go_upto_region 3 with fail
    clear hz
    obtain ⟨i1, i2, i3, i4⟩ := I.out
    go_upto_region 4 with (go_at_call 17; refine Calls.mono (HW.out _) ?_; rintro e w' ⟨rfl, rfl⟩)
    clear i1 i2 i3 i4
    obtain ⟨g1', g1''⟩ := G1.out
    go_upto_region 8 with fail
    clear g1' g1''
    have g2' := G2.out
    go_upto_region 9 with fail
    obtain ⟨i1, i2, i3, i4⟩ := I.out
    go_upto_region 10 with (go_at_call 17; refine Calls.mono (HK'.out _) ?_; rintro e w' ⟨rfl, rfl⟩)
    clear i1 i2 i3 i4
    go_wp2_with (go_at_call 18; refine Calls.mono (LK'.out _) ?_; rintro e w' ⟨rfl, rfl⟩)
    go_ret
    exact ⟨rfl, rfl⟩
  · have G1 : Hid (((m : Int) == 9223372036854775807) = false ∧ ((m : Int) != 9223372036854775807) = true) := ⟨by simp; omega, by simp; omega⟩
    have LM' : Hid _ := LM.out g1
    by_cases g2 : m = 0
    · have G2 : Hid (¬ (0 : Int) < m) := by show ¬ (0 : Int) < m; omega
      have I : Hid ((m : Int) < 9223372036854775808 ∧ (n : Int) < 9223372036854775808 ∧ (num : Int) < 9223372036854775808 ∧ (den : Int) < 9223372036854775808) := ⟨i1, i2, i3, i4⟩
      clear hm hn hnum hden LM HK LK g1 g2 i1 i2 i3 i4
      have hz : ¬ (m : Int) < 0 := by omega
      go_enter Try.func8, Try.ntmps8
      go_upto_region 3 with fail
      clear hz
      obtain ⟨i1, i2, i3, i4⟩ := I.out
      go_upto_region 4 with (go_at_call 17; refine Calls.mono (HW.out _) ?_; rintro e w' ⟨rfl, rfl⟩)
      clear i1 i2 i3 i4
      obtain ⟨g1', g1''⟩ := G1.out
      go_upto_region 5 with fail
      clear g1' g1''
      obtain ⟨i1, i2, i3, i4⟩ := I.out
      go_upto_region 6 with (go_at_call 17; refine Calls.mono (HM.out _) ?_; rintro e w' ⟨rfl, rfl⟩)
      clear i1 i2 i3 i4
      go_upto_region 8 with (go_at_call 18; refine Calls.mono (LM'.out _) ?_; rintro e w' ⟨rfl, rfl⟩)
      have g2' := G2.out
      go_wp2_with fail
      go_ret
      exact ⟨rfl, rfl⟩
    · have G2 : Hid ((0 : Int) < m) := by show (0 : Int) < m; omega
      have HK' : Hid _ := HK.out g2
      have LK' : Hid _ := LK.out g2
      have I : Hid ((m : Int) < 9223372036854775808 ∧ (n : Int) < 9223372036854775808 ∧ (num : Int) < 9223372036854775808 ∧ (den : Int) < 9223372036854775808) := ⟨i1, i2, i3, i4⟩
      clear hm hn hnum hden LM HK LK g1 g2 i1 i2 i3 i4
      have hz : ¬ (m : Int) < 0 := by omega
      go_enter Try.func8, Try.ntmps8
      go_upto_region 3 with fail
      clear hz
      obtain ⟨i1, i2, i3, i4⟩ := I.out
      go_upto_region 4 with (go_at_call 17; refine Calls.mono (HW.out _) ?_; rintro e w' ⟨rfl, rfl⟩)
      clear i1 i2 i3 i4
      obtain ⟨g1', g1''⟩ := G1.out
      go_upto_region 5 with fail
      clear g1' g1''
      obtain ⟨i1, i2, i3, i4⟩ := I.out
      go_upto_region 6 with (go_at_call 17; refine Calls.mono (HM.out _) ?_; rintro e w' ⟨rfl, rfl⟩)
      clear i1 i2 i3 i4
      go_upto_region 8 with (go_at_call 18; refine Calls.mono (LM'.out _) ?_; rintro e w' ⟨rfl, rfl⟩)
      have g2' := G2.out
      go_upto_region 9 with fail
      obtain ⟨i1, i2, i3, i4⟩ := I.out
      go_upto_region 10 with (go_at_call 17; refine Calls.mono (HK'.out _) ?_; rintro e w' ⟨rfl, rfl⟩)
      clear i1 i2 i3 i4
      go_wp2_with (go_at_call 18; refine Calls.mono (LK'.out _) ?_; rintro e w' ⟨rfl, rfl⟩)
      go_ret
      exact ⟨rfl, rfl⟩

end Go.Proofs.Qxb6613426a
