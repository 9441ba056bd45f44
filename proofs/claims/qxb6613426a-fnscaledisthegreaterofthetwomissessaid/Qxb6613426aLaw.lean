/-
  THE LAW: plain numbers, then the walk.
-/
import Derived.Test.Qxb6613426aScaled
namespace Go.Proofs.Qxb6613426a
open Go.RowKit

def up (n num den : Nat) : Nat := cap ((n * num + (den - 1)) / den)

theorem ceil_up (W den : Nat) (h : 0 < den) : W ≤ (W + (den - 1)) / den * den := by
  have h1 := Nat.div_add_mod (W + (den - 1)) den
  have h2 := Nat.mod_lt (W + (den - 1)) h
  rw [Nat.mul_comm] at h1
  omega

theorem ceil_low (W den : Nat) (h : 0 < den) (h0 : 0 < (W + (den - 1)) / den) : ((W + (den - 1)) / den - 1) * den < W := by
  have h1 := Nat.div_mul_le_self (W + (den - 1)) den
  have h2 : ((W + (den - 1)) / den - 1) * den + den = (W + (den - 1)) / den * den := by
    obtain ⟨k, hk⟩ : ∃ k, (W + (den - 1)) / den = k + 1 := ⟨(W + (den - 1)) / den - 1, by omega⟩
    rw [hk, Nat.add_sub_cancel, Nat.add_mul]
    omega
  omega

theorem cap_le (q : Nat) : cap q ≤ 9223372036854775807 := by unfold cap; split <;> omega
theorem cap_le_self (q : Nat) : cap q ≤ q := by unfold cap; split <;> omega
theorem cap_mono {p q : Nat} (h : p ≤ q) : cap p ≤ cap q := by unfold cap; split <;> split <;> omega
theorem cap_eq {q : Nat} (h : cap q ≠ 9223372036854775807) : cap q = q := by revert h; unfold cap; split <;> intro h <;> omega

theorem up_one (n : Nat) (h : n < 9223372036854775808) : up n 1 1 = n := by
  unfold up cap
  simp
  omega

theorem up_reach (n num den : Nat) (h : 0 < den) : up n num den = 9223372036854775807 ∨ n * num ≤ up n num den * den := by
  by_cases hc : up n num den = 9223372036854775807
  · exact .inl hc
  · right
    have e := cap_eq hc
    show n * num ≤ cap _ * den
    rw [e]
    exact ceil_up _ _ h

theorem up_least (n num den : Nat) (h : 0 < den) : up n num den = 0 ∨ (up n num den - 1) * den < n * num := by
  by_cases hc : up n num den = 0
  · exact .inl hc
  · right
    have hle : up n num den ≤ (n * num + (den - 1)) / den := cap_le_self _
    refine Nat.lt_of_le_of_lt (Nat.mul_le_mul_right den (show up n num den - 1 ≤ (n * num + (den - 1)) / den - 1 by omega)) (ceil_low _ _ h (by omega))

theorem up_mono (n num1 den1 num2 den2 : Nat) (h1 : 0 < den1) (h2 : 0 < den2) (h : num1 * den2 ≤ num2 * den1) : up n num1 den1 ≤ up n num2 den2 := by
  apply cap_mono
  have hq := ceil_up (n * num2) den2 h2
  generalize (n * num2 + (den2 - 1)) / den2 = q at hq
  have hk : n * num1 * den2 ≤ q * den1 * den2 := by
    calc n * num1 * den2 = n * (num1 * den2) := Nat.mul_assoc _ _ _
      _ ≤ n * (num2 * den1) := Nat.mul_le_mul_left n h
      _ = n * num2 * den1 := (Nat.mul_assoc _ _ _).symm
      _ ≤ q * den2 * den1 := Nat.mul_le_mul_right den1 hq
      _ = q * den1 * den2 := Nat.mul_right_comm _ _ _
  have hk2 : n * num1 ≤ q * den1 := Nat.le_of_mul_le_mul_right hk h2
  have : (n * num1 + (den1 - 1)) / den1 < q + 1 := by
    rw [Nat.div_lt_iff_lt_mul h1, Nat.add_mul]
    omega
  omega

theorem sc_none (t c a ac n : Nat) (hn : n < 9223372036854775808) (h : t = 0 ∨ c = 0) : sc t c a ac n = n := by
  unfold sc missN
  rw [if_pos h]
  exact up_one n hn

theorem sc_simple (t c a ac n : Nat) (h : ¬ (t = 0 ∨ c = 0)) (ha : a ≤ ac) : sc t c a ac n = up n t c := by
  unfold sc missN
  rw [if_neg h, if_neg (by omega)]
  rfl

theorem sc_both (t c a ac n : Nat) (h : ¬ (t = 0 ∨ c = 0)) (hac : 0 < ac) (ha : ac < a) : sc t c a ac n = max (up n t c) (up n a ac) := by
  unfold sc missN
  rw [if_neg h]
  by_cases hx : t * ac < a * c
  · rw [if_pos ⟨ha, hx⟩]
    have := up_mono n t c a ac (by omega) hac (by omega)
    show up n a ac = _
    omega
  · rw [if_neg (by omega)]
    have := up_mono n a ac t c hac (by omega) (by omega)
    show up n t c = _
    omega

set_option maxRecDepth 10000 in
set_option maxHeartbeats 2000000 in
theorem law_nat (t c a ac n : Nat) (k : Bool) (ht : t < 9223372036854775808) (hc : c < 9223372036854775808) (ha : a < 9223372036854775808) (hac : ac < 9223372036854775808) (hn : n < 9223372036854775808) (w : World) :
    Calls Try.prog 3 #[.int .i64 t, .int .i64 c, .bool k, .int .i64 a, .int .i64 ac, .int .i64 n] w fun e w' => e = .returned (.bool true) ∧ Grown w w' := by
  have z1 : ¬ (t : Int) < 0 := by omega
  have z2 : ¬ (c : Int) < 0 := by omega
  have z3 : ¬ (a : Int) < 0 := by omega
  have z4 : ¬ (ac : Int) < 0 := by omega
  have z5 : ¬ (n : Int) < 0 := by omega
  by_cases g0 : ac = 0 ∧ a ≠ 0
  · obtain ⟨rfl, g0⟩ := g0
    have b2 : ((a : Int) == 0) = false := by simp; omega
    have b3 : ((a : Int) != 0) = true := by simp; omega
    clear ht hc ha hac hn g0
    go_enter Try.func3, Try.ntmps3
    go_wp2
    go_ret
    exact ⟨rfl, Grown.refl _⟩
  · have hok : ac < a → 0 < ac := by omega
    have hz1 := fun w => zzscaled_any t c a ac n k ht hc ha hac hn hok w
    have hz2 := fun w => zzscaled_any t c 0 0 n k ht hc (by decide) (by decide) hn (by omega) w
    have hz3 := fun w => zzscaled_any a ac 0 0 n k ha hac (by decide) (by decide) hn (by omega) w
    by_cases gB : t = 0 ∨ c = 0
    · have HZ1 : Hid (∀ w, Calls Try.prog 7 #[.int .i64 t, .int .i64 c, .bool k, .int .i64 a, .int .i64 ac, .int .i64 n] w fun e w' => e = .returned (.int .i64 n) ∧ Grown w w') := by
        intro w
        have h := hz1 w
        rw [sc_none t c a ac n hn gB] at h
        exact h
      clear hz1 hz2 hz3
      have hx : Hid (ac ≠ 0 ∨ (ac = 0 ∧ a = 0)) := by show _ ∨ _; omega
      by_cases gt : t = 0
      · have e1 : ((t : Int) == 0) = true := by simp; omega
        rcases hx.out with hy | hy
        · have e3 : ((ac : Int) == 0) = false := by simp; omega
          clear ht hc ha hac hn g0 hok gB gt hy hx
          go_enter Try.func3, Try.ntmps3
          go_upto_region 6 with (go_at_call 7; refine Calls.mono (HZ1.out _) ?_; rintro e w1 ⟨rfl, k1⟩)
          go_wp2_with fail
          go_ret
          exact ⟨rfl, k1⟩
        · have e3 : ((ac : Int) == 0) = true := by simp; omega
          have e4 : ((a : Int) == 0) = true := by simp; omega
          have e5 : ((a : Int) != 0) = false := by simp; omega
          clear ht hc ha hac hn g0 hok gB gt hy hx
          go_enter Try.func3, Try.ntmps3
          go_upto_region 6 with (go_at_call 7; refine Calls.mono (HZ1.out _) ?_; rintro e w1 ⟨rfl, k1⟩)
          go_wp2_with fail
          go_ret
          exact ⟨rfl, k1⟩
      · have e1 : ((t : Int) == 0) = false := by simp; omega
        have e2 : ((c : Int) == 0) = true := by simp; omega
        rcases hx.out with hy | hy
        · have e3 : ((ac : Int) == 0) = false := by simp; omega
          clear ht hc ha hac hn g0 hok gB gt hy hx
          go_enter Try.func3, Try.ntmps3
          go_upto_region 6 with (go_at_call 7; refine Calls.mono (HZ1.out _) ?_; rintro e w1 ⟨rfl, k1⟩)
          go_wp2_with fail
          go_ret
          exact ⟨rfl, k1⟩
        · have e3 : ((ac : Int) == 0) = true := by simp; omega
          have e4 : ((a : Int) == 0) = true := by simp; omega
          have e5 : ((a : Int) != 0) = false := by simp; omega
          clear ht hc ha hac hn g0 hok gB gt hy hx
          go_enter Try.func3, Try.ntmps3
          go_upto_region 6 with (go_at_call 7; refine Calls.mono (HZ1.out _) ?_; rintro e w1 ⟨rfl, k1⟩)
          go_wp2_with fail
          go_ret
          exact ⟨rfl, k1⟩
    · have e1 : ((t : Int) == 0) = false := by simp; omega
      have e2 : ((c : Int) == 0) = false := by simp; omega
      have hS := isScaledUp_true (up n t c) n t c (by have := cap_le ((n * t + (c - 1)) / c); unfold up; omega) hn ht hc (up_reach n t c (by omega)) (up_least n t c (by omega))
      rw [sc_simple t c 0 0 n gB (Nat.le_refl 0)] at hz2
      have HZ2 : Hid (∀ w, Calls Try.prog 7 #[.int .i64 t, .int .i64 c, .bool k, .int .i64 0, .int .i64 0, .int .i64 n] w fun e w' => e = .returned (.int .i64 (up n t c : Nat)) ∧ Grown w w') := hz2
      have HS2 : Hid (∀ w, Calls Try.prog 8 #[.int .i64 (up n t c : Nat), .int .i64 n, .int .i64 t, .int .i64 c] w fun e w' => e = .returned (.bool true) ∧ w' = w) := hS
      clear hz2 hS
      by_cases gC : a ≤ ac
      · have HZ1 : Hid (∀ w, Calls Try.prog 7 #[.int .i64 t, .int .i64 c, .bool k, .int .i64 a, .int .i64 ac, .int .i64 n] w fun e w' => e = .returned (.int .i64 (up n t c : Nat)) ∧ Grown w w') := by
          intro w
          have h := hz1 w
          rw [sc_simple t c a ac n gB gC] at h
          exact h
        have e6 : (a : Int) ≤ ac := by omega
        have hx : Hid (ac ≠ 0 ∨ (ac = 0 ∧ a = 0)) := by show _ ∨ _; omega
        clear hz1 hz3
        generalize up n t c = S at *
        rcases hx.out with hy | hy
        · have e3 : ((ac : Int) == 0) = false := by simp; omega
          clear ht hc ha hac hn g0 hok gB gC hy hx
          go_enter Try.func3, Try.ntmps3
          go_upto_region 6 with (go_at_call 7; refine Calls.mono (HZ1.out _) ?_; rintro e w1 ⟨rfl, k1⟩)
          go_upto_region 9 with (go_at_call 7; refine Calls.mono (HZ2.out _) ?_; rintro e w2 ⟨rfl, k2⟩)
          go_upto_region 11 with (go_at_call 8; refine Calls.mono (HS2.out _) ?_; rintro e w9 ⟨rfl, rfl⟩)
          go_wp2_with fail
          go_ret
          exact ⟨rfl, grown_trans k1 k2⟩
        · have e3 : ((ac : Int) == 0) = true := by simp; omega
          have e4 : ((a : Int) == 0) = true := by simp; omega
          have e5 : ((a : Int) != 0) = false := by simp; omega
          clear ht hc ha hac hn g0 hok gB gC hy hx
          go_enter Try.func3, Try.ntmps3
          go_upto_region 6 with (go_at_call 7; refine Calls.mono (HZ1.out _) ?_; rintro e w1 ⟨rfl, k1⟩)
          go_upto_region 9 with (go_at_call 7; refine Calls.mono (HZ2.out _) ?_; rintro e w2 ⟨rfl, k2⟩)
          go_upto_region 11 with (go_at_call 8; refine Calls.mono (HS2.out _) ?_; rintro e w9 ⟨rfl, rfl⟩)
          go_wp2_with fail
          go_ret
          exact ⟨rfl, grown_trans k1 k2⟩
      · have gac : 0 < ac := hok (by omega)
        have HZ1 : Hid (∀ w, Calls Try.prog 7 #[.int .i64 t, .int .i64 c, .bool k, .int .i64 a, .int .i64 ac, .int .i64 n] w fun e w' => e = .returned (.int .i64 (max (up n t c : Int) (up n a ac : Int))) ∧ Grown w w') := by
          intro w
          have h := hz1 w
          rw [sc_both t c a ac n gB gac (by omega), show ((max (up n t c) (up n a ac) : Nat) : Int) = max (up n t c : Int) (up n a ac : Int) by omega] at h
          exact h
        have hS := isScaledUp_true (up n a ac) n a ac (by have := cap_le ((n * a + (ac - 1)) / ac); unfold up; omega) hn ha hac (up_reach n a ac gac) (up_least n a ac gac)
        rw [sc_simple a ac 0 0 n (by omega) (Nat.le_refl 0)] at hz3
        have HZ3 : Hid (∀ w, Calls Try.prog 7 #[.int .i64 a, .int .i64 ac, .bool k, .int .i64 0, .int .i64 0, .int .i64 n] w fun e w' => e = .returned (.int .i64 (up n a ac : Nat)) ∧ Grown w w') := hz3
        have HS3 : Hid (∀ w, Calls Try.prog 8 #[.int .i64 (up n a ac : Nat), .int .i64 n, .int .i64 a, .int .i64 ac] w fun e w' => e = .returned (.bool true) ∧ w' = w) := hS
        have e3 : ((ac : Int) == 0) = false := by simp; omega
        have e6 : ¬ (a : Int) ≤ ac := by omega
        clear hz1 hz3 hS
        generalize up n t c = S at *
        generalize up n a ac = U at *
        clear ht hc ha hac hn g0 hok gB gC gac
        go_enter Try.func3, Try.ntmps3
        go_upto_region 6 with (go_at_call 7; refine Calls.mono (HZ1.out _) ?_; rintro e w1 ⟨rfl, k1⟩)
        go_upto_region 9 with (go_at_call 7; refine Calls.mono (HZ2.out _) ?_; rintro e w2 ⟨rfl, k2⟩)
        go_upto_region 11 with (go_at_call 8; refine Calls.mono (HS2.out _) ?_; rintro e w9 ⟨rfl, rfl⟩)
        go_upto_region 14 with (go_at_call 7; refine Calls.mono (HZ3.out _) ?_; rintro e w3 ⟨rfl, k3⟩)
        go_upto_region 16 with (go_at_call 8; refine Calls.mono (HS3.out _) ?_; rintro e w9 ⟨rfl, rfl⟩)
        go_wp2_with fail
        go_ret
        exact ⟨rfl, grown_trans (grown_trans k1 k2) k3⟩

end Go.Proofs.Qxb6613426a
