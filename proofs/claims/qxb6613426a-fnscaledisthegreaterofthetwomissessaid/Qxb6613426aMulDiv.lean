/-
  mulDiv, scaleUp, productExceeds, miss, scaled, ZZscaled: THE WALKS.
-/
import Derived.Test.Qxb6613426aDiv
namespace Go.Proofs.Qxb6613426a
open Go.RowKit

/-- The greatest int where the number passes it. -/
def cap (q : Nat) : Nat := if q ≤ 9223372036854775807 then q else 9223372036854775807

theorem mul_bound {n m : Nat} (hn : n < 9223372036854775808) (hm : m < 9223372036854775808) : n * m ≤ 85070591730234615847396907784232501249 :=
  Nat.le_trans (Nat.mul_le_mul (show n ≤ 9223372036854775807 by omega) (show m ≤ 9223372036854775807 by omega)) (by decide)

theorem cap_min (q : Nat) : ((cap q : Nat) : Int) = min (q : Int) 9223372036854775807 := by unfold cap; split <;> omega

set_option maxRecDepth 10000 in
set_option maxHeartbeats 2000000 in
theorem mulDiv_any (n num den round : Nat) (hn : n < 9223372036854775808) (hnum : num < 9223372036854775808) (hden : den < 9223372036854775808) (hr : round < den) (w : World) :
    Calls Try.prog 28 #[.int .i64 n, .int .i64 num, .int .i64 den, .int .i64 round] w fun e w' => e = .returned (.int .i64 (cap ((n * num + round) / den) : Nat)) ∧ Grown w w' := by
  have hb := mul_bound hn hnum
  have hmul := Try.bits_Mul64 n num (by omega) (by omega) w
  generalize hP : n * num = P at *
  have hadd := add64 (P % 18446744073709551616) round w
  have e1 : (P % 18446744073709551616 + round) % 18446744073709551616 = (P + round) % 18446744073709551616 := by omega
  have e2 : P / 18446744073709551616 + (P % 18446744073709551616 + round) / 18446744073709551616 = (P + round) / 18446744073709551616 := by omega
  have e3 : (P + round) = (P + round) / 18446744073709551616 * 18446744073709551616 + (P + round) % 18446744073709551616 := by omega
  rw [e1] at hadd
  generalize P / 18446744073709551616 = H at *
  generalize (P % 18446744073709551616 + round) / 18446744073709551616 = C at *
  have hH : (P + round) / 18446744073709551616 < 9223372036854775808 := by omega
  have hL : (P + round) % 18446744073709551616 < 18446744073709551616 := by omega
  generalize P % 18446744073709551616 = L at *
  generalize (P + round) / 18446744073709551616 = H2 at *
  generalize (P + round) % 18446744073709551616 = L2 at *
  generalize P + round = T at *
  have e2' : Hid ((H : Int) + C = H2) := by show _ = _; omega
  have HM : Hid (Calls Try.prog 30 #[.int .u64 n, .int .u64 num] w fun e w' => e = .returned (.tuple #[.int .u64 (H : Int), .int .u64 (L : Int)]) ∧ w' = w) := hmul
  have HA : Hid ((callFunc 31 #[.int .u64 L, .int .u64 round, .int .u64 0]).run Try.prog w = .ok (.value (.tuple #[.int .u64 L2, .int .u64 C])) w) := hadd
  have HT : Hid (T = H2 * 18446744073709551616 + L2) := e3
  have i1 : (n : Int) < 9223372036854775808 := by omega
  have i2 : (num : Int) < 9223372036854775808 := by omega
  have i3 : (den : Int) < 9223372036854775808 := by omega
  have i4 : (round : Int) < 9223372036854775808 := by omega
  clear hmul hadd e1 e2 e3 hb hP
  go_enter Try.func28, Try.ntmps28
  go_upto_region 3 with (first | (go_at_call 30; refine Calls.mono HM.out ?_; rintro e w' ⟨rfl, rfl⟩) | simp only [HA.out])
  have i5 : (H : Int) + C < 18446744073709551616 := by rw [e2'.out]; omega
  go_upto_region 4 with fail
  rw [e2'.out]
  by_cases hc : den ≤ H2
  · have hcap : Hid (cap (T / den) = 9223372036854775807) := by
      show _ = _
      unfold cap
      rw [if_neg]
      rw [HT.out]
      have : 18446744073709551616 ≤ (H2 * 18446744073709551616 + L2) / den := by
        rw [Nat.le_div_iff_mul_le (by omega)]
        omega
      omega
    clear hn hnum hden hL hH hr
    go_wp2_with fail
    go_ret
    exact ⟨by rw [hcap.out]; rfl, Grown.refl _⟩
  · have HD := div_all H2 L2 den (by omega) hL (by omega) w'
    rw [← HT.out] at HD
    have HDv : Hid (Calls Try.prog 32 #[.int .u64 H2, .int .u64 L2, .int .u64 den] w' fun e w'_1 => ∃ r, e = .returned (.tuple #[.int .u64 ((T / den : Nat) : Int), r]) ∧ Grown w' w'_1) := HD
    have hTb : T / den < 18446744073709551616 := by
      rw [Nat.div_lt_iff_lt_mul (by omega), HT.out]
      omega
    clear HD
    obtain ⟨QQ, hQQ⟩ : ∃ QQ, QQ = T / den := ⟨_, rfl⟩
    rw [← hQQ] at HDv hTb
    have HQ : Hid (QQ = T / den) := hQQ
    clear hQQ
    have i6 : (QQ : Int) < 18446744073709551616 := by omega
    clear hn hnum hden hL hH hr hTb
    go_wp2_with (go_at_call 32; refine Calls.mono HDv.out ?_; rintro e w2 ⟨r, rfl, hg⟩)
    go_ret
    exact ⟨by rw [← HQ.out, cap_min]; rfl, hg⟩

theorem scaleUp_any (n num den : Nat) (hn : n < 9223372036854775808) (hnum : num < 9223372036854775808) (hden : den < 9223372036854775808) (h0 : 0 < den) (w : World) :
    Calls Try.prog 24 #[.int .i64 n, .int .i64 num, .int .i64 den] w fun e w' => e = .returned (.int .i64 (cap ((n * num + (den - 1)) / den) : Nat)) ∧ Grown w w' := by
  have HM : Hid (Calls Try.prog 28 #[.int .i64 n, .int .i64 num, .int .i64 den, .int .i64 ((den : Int) - 1)] w fun e w' => e = .returned (.int .i64 (cap ((n * num + (den - 1)) / den) : Nat)) ∧ Grown w w') := by
    have h := mulDiv_any n num den (den - 1) hn hnum hden (by omega) w
    rw [show ((den - 1 : Nat) : Int) = (den : Int) - 1 by omega] at h
    exact h
  generalize cap ((n * num + (den - 1)) / den) = X at *
  go_enter Try.func24, Try.ntmps24
  go_wp2_with (go_at_call 28; refine Calls.mono HM.out ?_; rintro e w2 ⟨rfl, hg⟩)
  go_ret
  exact ⟨rfl, hg⟩

set_option maxRecDepth 10000 in
set_option maxHeartbeats 2000000 in
theorem productExceeds_any (a b c d : Nat) (ha : a < 9223372036854775808) (hb : b < 9223372036854775808) (hc : c < 9223372036854775808) (hd : d < 9223372036854775808) (w : World) :
    Calls Try.prog 27 #[.int .i64 a, .int .i64 b, .int .i64 c, .int .i64 d] w fun e w' => e = .returned (.bool (decide (c * d < a * b))) ∧ w' = w := by
  have h1 := Try.bits_Mul64 a b (by omega) (by omega) w
  have h2 := Try.bits_Mul64 c d (by omega) (by omega) w
  have e1 := Nat.div_add_mod (a * b) 18446744073709551616
  have e2 := Nat.div_add_mod (c * d) 18446744073709551616
  have b1 := Nat.mod_lt (a * b) (show 0 < 18446744073709551616 by omega)
  have b2 := Nat.mod_lt (c * d) (show 0 < 18446744073709551616 by omega)
  generalize a * b = P at *
  generalize c * d = S at *
  generalize P / 18446744073709551616 = PH at *
  generalize P % 18446744073709551616 = PL at *
  generalize S / 18446744073709551616 = SH at *
  generalize S % 18446744073709551616 = SL at *
  have H1 : Hid (Calls Try.prog 30 #[.int .u64 a, .int .u64 b] w fun e w' => e = .returned (.tuple #[.int .u64 (PH : Int), .int .u64 (PL : Int)]) ∧ w' = w) := h1
  have H2 : Hid (Calls Try.prog 30 #[.int .u64 c, .int .u64 d] w fun e w' => e = .returned (.tuple #[.int .u64 (SH : Int), .int .u64 (SL : Int)]) ∧ w' = w) := h2
  have i1 : (a : Int) < 9223372036854775808 := by omega
  have i2 : (b : Int) < 9223372036854775808 := by omega
  have i3 : (c : Int) < 9223372036854775808 := by omega
  have i4 : (d : Int) < 9223372036854775808 := by omega
  clear h1 h2
  by_cases g1 : SH < PH
  · have hlt : S < P := by omega
    have hf : Hid (decide (S < P) = true) := by show decide (S < P) = true; rw [decide_eq_true_iff]; exact hlt
    clear hlt
    clear e1 e2 b1 b2 ha hb hc hd
    go_enter Try.func27, Try.ntmps27
    go_upto_region 2 with (go_at_call 30; refine Calls.mono H1.out ?_; rintro e w' ⟨rfl, rfl⟩)
    go_wp2_with (go_at_call 30; refine Calls.mono H2.out ?_; rintro e w' ⟨rfl, rfl⟩)
    go_ret
    exact ⟨by rw [hf.out]; rfl, rfl⟩
  · by_cases g2 : SH = PH
    · subst g2
      by_cases g3 : SL < PL
      · have hlt : S < P := by omega
        have hf : Hid (decide (S < P) = true) := by show decide (S < P) = true; rw [decide_eq_true_iff]; exact hlt
        clear hlt
        clear e1 e2 b1 b2 ha hb hc hd
        go_enter Try.func27, Try.ntmps27
        go_upto_region 2 with (go_at_call 30; refine Calls.mono H1.out ?_; rintro e w' ⟨rfl, rfl⟩)
        go_wp2_with (go_at_call 30; refine Calls.mono H2.out ?_; rintro e w' ⟨rfl, rfl⟩)
        go_ret
        exact ⟨by rw [hf.out]; rfl, rfl⟩
      · have hlt : ¬ S < P := by omega
        have hf : Hid (decide (S < P) = false) := by show decide (S < P) = false; rw [decide_eq_false_iff_not]; exact hlt
        clear hlt
        clear e1 e2 b1 b2 ha hb hc hd
        go_enter Try.func27, Try.ntmps27
        go_upto_region 2 with (go_at_call 30; refine Calls.mono H1.out ?_; rintro e w' ⟨rfl, rfl⟩)
        go_wp2_with (go_at_call 30; refine Calls.mono H2.out ?_; rintro e w' ⟨rfl, rfl⟩)
        go_ret
        exact ⟨by rw [hf.out]; rfl, rfl⟩
    · have hlt : ¬ S < P := by omega
      have hf : Hid (decide (S < P) = false) := by show decide (S < P) = false; rw [decide_eq_false_iff_not]; exact hlt
      clear hlt
      have g2' : ¬ PH = SH := fun h => g2 h.symm
      have g1' : ¬ (SH : Int) < PH := by omega
      have g3' : ((PH : Int) == (SH : Int)) = false := by simp; omega
      clear g2 g1 g2'
      clear e1 e2 b1 b2 ha hb hc hd
      go_enter Try.func27, Try.ntmps27
      go_upto_region 2 with (go_at_call 30; refine Calls.mono H1.out ?_; rintro e w' ⟨rfl, rfl⟩)
      go_upto_region 3 with (go_at_call 30; refine Calls.mono H2.out ?_; rintro e w' ⟨rfl, rfl⟩)
      clear i1 i2 i3 i4
      go_wp2_with fail
      go_ret
      refine ⟨?_, rfl⟩
      rw [hf.out]
      show Ending.returned (.bool (decide (SH < PH))) = _
      rw [decide_eq_false (show ¬ SH < PH by omega)]
/-- The miss of a report. -/
def missN (t c a ac : Nat) : Nat × Nat := if t = 0 ∨ c = 0 then (1, 1) else if ac < a ∧ t * ac < a * c then (a, ac) else (t, c)

set_option maxRecDepth 10000 in
set_option maxHeartbeats 2000000 in
theorem miss_any (t c a ac : Nat) (k : Bool) (ht : t < 9223372036854775808) (hc : c < 9223372036854775808) (ha : a < 9223372036854775808) (hac : ac < 9223372036854775808) (w : World) :
    Calls Try.prog 23 #[.agg #[.int .i64 t, .int .i64 c, .bool k, .int .i64 a, .int .i64 ac]] w fun e w' => e = .returned (.tuple #[.int .i64 ((missN t c a ac).1 : Nat), .int .i64 ((missN t c a ac).2 : Nat)]) ∧ Grown w w' := by
  have hp := fun w => productExceeds_any a c t ac ha hc ht hac w
  have HP : Hid (∀ w, Calls Try.prog 27 #[.int .i64 a, .int .i64 c, .int .i64 t, .int .i64 ac] w fun e w' => e = .returned (.bool (decide (t * ac < a * c))) ∧ w' = w) := hp
  clear hp
  by_cases h0 : t = 0
  · subst h0
    have hm : Hid (missN 0 c a ac = (1, 1)) := by show _ = _; simp [missN]
    go_enter Try.func23, Try.ntmps23
    go_wp2
    go_ret2
    exact ⟨by rw [hm.out]; rfl, by repeat (first | exact Grown.refl _ | apply Grown.drew | apply Grown.alloc)⟩
  · by_cases h1 : c = 0
    · subst h1
      have hm : Hid (missN t 0 a ac = (1, 1)) := by show _ = _; simp [missN]
      go_enter Try.func23, Try.ntmps23
      go_wp2
      go_ret2
      exact ⟨by rw [hm.out]; rfl, by repeat (first | exact Grown.refl _ | apply Grown.drew | apply Grown.alloc)⟩
    · have z0 : ((t : Int) == 0) = false := by simp; omega
      have z1 : ((c : Int) == 0) = false := by simp; omega
      by_cases h2 : ac < a
      · by_cases h3 : t * ac < a * c
        · have hm : Hid (missN t c a ac = (a, ac)) := by show _ = _; simp [missN, h0, h1, h2, h3]
          rw [decide_eq_true h3] at HP
          clear h3
          go_enter Try.func23, Try.ntmps23
          go_wp2_with (go_at_call 27; refine Calls.mono (HP.out _) ?_; rintro e w' ⟨rfl, rfl⟩)
          go_region
          go_wp2
          go_ret2
          exact ⟨by rw [hm.out]; rfl, by repeat (first | exact Grown.refl _ | apply Grown.drew | apply Grown.alloc)⟩
        · have hm : Hid (missN t c a ac = (t, c)) := by show _ = _; simp [missN, h0, h1, h3]
          rw [decide_eq_false h3] at HP
          clear h3
          go_enter Try.func23, Try.ntmps23
          go_wp2_with (go_at_call 27; refine Calls.mono (HP.out _) ?_; rintro e w' ⟨rfl, rfl⟩)
          go_region
          go_wp2
          go_ret2
          exact ⟨by rw [hm.out]; rfl, by repeat (first | exact Grown.refl _ | apply Grown.drew | apply Grown.alloc)⟩
      · have hm : Hid (missN t c a ac = (t, c)) := by show _ = _; simp [missN, h0, h1, h2]
        go_enter Try.func23, Try.ntmps23
        go_wp2
        go_region
        go_wp2
        go_ret2
        exact ⟨by rw [hm.out]; rfl, by repeat (first | exact Grown.refl _ | apply Grown.drew | apply Grown.alloc)⟩

end Go.Proofs.Qxb6613426a
