/-
  FLOATS THAT ARE NUMBERS, NOT BELOW ZERO, NOT ABOVE A WHOLE NUMBER K: sums and products stay so. Plain numbers, no Go in sight.
-/
import GoSem.Core.Float
namespace Go.Proofs.Qxb6613544a

/-- The word is a number from 0 to K (a zero may have either sign); 'N': how far down the format goes. -/
def FlN (N K w : Nat) : Prop := ∃ s m e, Ieee.double.read w = .number s m (-(N : Int) + (e : Nat)) ∧ (s = true → m = 0) ∧ m * 2 ^ e ≤ K * 2 ^ N

theorem binade52 : Ieee.double.binade = 2 ^ 52 := rfl
theorem sign63 : Ieee.double.signWeight = 2 ^ 63 := rfl
theorem infR : Ieee.double.infRung = 2047 * 2 ^ 52 := rfl
theorem frac52 : Ieee.double.fractionBits = 52 := rfl

/-- A rung read. -/
theorem read_rung (N R : Nat) (hN : Ieee.double.leastPlace = -(N : Int)) (hR : R < 2047 * 2 ^ 52) :
    Ieee.double.read R = if R < 2 ^ 52 then .number false R (-(N : Int)) else .number false (2 ^ 52 + R % 2 ^ 52) (-(N : Int) + ((R / 2 ^ 52 - 1 : Nat) : Int)) := by
  unfold Ieee.Format.read
  rw [binade52, sign63, infR, hN]
  have h1 : R / 2 ^ 63 % 2 = 0 := by omega
  have h2 : R % 2 ^ 63 = R := by omega
  simp only [h1, h2]
  by_cases hlt : R < 2 ^ 52
  · rw [if_pos hlt, if_pos hlt]
    rfl
  · rw [if_neg hlt, if_neg hlt, if_pos hR]
    rfl

/-- Rounding to a whole number of units does not pass a whole number of units. -/
theorem cut_le (n d C : Nat) (h : n ≤ C * 2 ^ d) : Ieee.Toward.even.cut false n d ≤ C := by
  unfold Ieee.Toward.cut
  simp only [Nat.one_shiftLeft]
  by_cases hd : d ≤ n.log2 + 2
  · rw [Nat.min_eq_left hd]
    have hp : 0 < 2 ^ d := Nat.two_pow_pos d
    have h1 : n / 2 ^ d ≤ C := by
      rw [Nat.div_le_iff_le_mul_add_pred hp]
      rw [Nat.mul_comm]
      omega
    by_cases he : n / 2 ^ d = C
    · have h2 := Nat.div_add_mod n (2 ^ d)
      rw [he, Nat.mul_comm] at h2
      have h3 : n % 2 ^ d = 0 := by omega
      rw [h3, he]
      have : (2 ^ d == 2 * 0) = false := by simp
      simp [this]
    · have : ∀ b : Bool, b.toNat ≤ 1 := fun b => by cases b <;> decide
      have := this (decide (2 ^ d < 2 * (n % 2 ^ d)) || (2 ^ d == 2 * (n % 2 ^ d) && n / 2 ^ d % 2 == 1))
      omega
  · rw [Nat.min_eq_right (by omega)]
    have hn : n < 2 ^ (n.log2 + 1) := Nat.lt_log2_self
    have hp : 2 ^ (n.log2 + 2) = 2 * 2 ^ (n.log2 + 1) := by rw [Nat.pow_succ, Nat.mul_comm]
    have h1 : n / 2 ^ (n.log2 + 2) = 0 := Nat.div_eq_of_lt (by omega)
    have h2 : n % 2 ^ (n.log2 + 2) = n := Nat.mod_eq_of_lt (by omega)
    rw [h1, h2]
    have e1 : decide (2 ^ (n.log2 + 2) < 2 * n) = false := decide_eq_false (by omega)
    have e2 : (2 ^ (n.log2 + 2) == 2 * n) = false := by
      rw [beq_eq_false_iff_ne]
      omega
    rw [e1, e2]
    simp

theorem cut_ge (n d C : Nat) (h : C * 2 ^ d ≤ n) (hd : d ≤ n.log2 + 2) : C ≤ Ieee.Toward.even.cut false n d := by
  unfold Ieee.Toward.cut
  simp only [Nat.one_shiftLeft]
  rw [Nat.min_eq_left hd]
  have : C ≤ n / 2 ^ d := by rw [Nat.le_div_iff_mul_le (Nat.two_pow_pos d)]; exact h
  omega

/-- A rung that is 't' binades up, with 'kept' units, read as its value. -/
theorem rung_ok (N K t kept : Nat) (hN : Ieee.double.leastPlace = -(N : Int)) (hN2 : N ≤ 1074) (ht : t ≤ N) (hk : kept ≤ 2 ^ 53) (hlow : 0 < t → 2 ^ 52 ≤ kept) (hv : kept * 2 ^ t ≤ K * 2 ^ N) : FlN N K (t * 2 ^ 52 + kept) := by
  have hR : t * 2 ^ 52 + kept < 2047 * 2 ^ 52 := by omega
  have hr := read_rung N (t * 2 ^ 52 + kept) hN hR
  by_cases hlt : t * 2 ^ 52 + kept < 2 ^ 52
  · rw [if_pos hlt] at hr
    have ht0 : t = 0 := by
      rcases Nat.eq_zero_or_pos t with h | h
      · exact h
      · have := hlow h
        omega
    subst ht0
    refine ⟨false, 0 * 2 ^ 52 + kept, 0, ?_, by simp, ?_⟩
    · rw [hr]
      simp
    · simpa using hv
  · rw [if_neg hlt] at hr
    by_cases hc : kept = 2 ^ 53
    · subst hc
      have e1 : (t * 2 ^ 52 + 2 ^ 53) % 2 ^ 52 = 0 := by omega
      have e2 : (t * 2 ^ 52 + 2 ^ 53) / 2 ^ 52 - 1 = t + 1 := by omega
      rw [e1, e2] at hr
      refine ⟨false, 2 ^ 52 + 0, t + 1, hr, by simp, ?_⟩
      have e : 2 ^ (t + 1) = 2 * 2 ^ t := by rw [Nat.pow_succ, Nat.mul_comm]
      rw [e]
      omega
    · have hk52 : 2 ^ 52 ≤ kept := by
        rcases Nat.eq_zero_or_pos t with h | h
        · subst h
          omega
        · exact hlow h
      have e1 : (t * 2 ^ 52 + kept) % 2 ^ 52 = kept - 2 ^ 52 := by omega
      have e2 : (t * 2 ^ 52 + kept) / 2 ^ 52 - 1 = t := by omega
      rw [e1, e2] at hr
      refine ⟨false, 2 ^ 52 + (kept - 2 ^ 52), t, hr, by simp, ?_⟩
      rw [show 2 ^ 52 + (kept - 2 ^ 52) = kept by omega]
      exact hv

theorem zero_ok (N K : Nat) (s : Bool) (hN : Ieee.double.leastPlace = -(N : Int)) : FlN N K (Ieee.double.word s 0) := by
  refine ⟨s, 0, 0, ?_, fun _ => rfl, by simp⟩
  unfold Ieee.Format.read Ieee.Format.word
  rw [hN, binade52, sign63, infR]
  cases s <;> simp

/-- What is written is no more than a whole number that the exact value does not pass. -/
theorem nearest_ok (N K mag E : Nat) (hN : Ieee.double.leastPlace = -(N : Int)) (hN2 : N ≤ 1074) (hK : K ≤ 2 ^ 52) (s : Bool) (hs : s = true → mag = 0) (h : mag * 2 ^ E ≤ K * 2 ^ (2 * N)) :
    FlN N K (Ieee.double.nearest s mag (-((2 * N : Nat) : Int) + (E : Int))) := by
  unfold Ieee.Format.nearest
  by_cases h0 : mag = 0
  · rw [if_pos h0]
    exact zero_ok N K s hN
  rw [if_neg h0]
  obtain rfl : s = false := by cases s with | false => rfl | true => exact absurd (hs rfl) h0
  rw [frac52, hN, binade52, infR]
  have l1 : 2 ^ mag.log2 ≤ mag := Nat.log2_self_le h0
  have l2 : mag < 2 ^ (mag.log2 + 1) := Nat.lt_log2_self
  have hle : mag.log2 + E ≤ 52 + 2 * N := by
    have h1 : 2 ^ (mag.log2 + E) ≤ 2 ^ (52 + 2 * N) := by
      rw [Nat.pow_add, Nat.pow_add]
      exact Nat.le_trans (Nat.mul_le_mul_right _ l1) (Nat.le_trans h (Nat.mul_le_mul_right _ hK))
    exact (Nat.pow_le_pow_iff_right (by omega)).1 h1
  obtain ⟨t, ht⟩ : ∃ t : Nat, t = mag.log2 + E - (52 + N) := ⟨_, rfl⟩
  have hlast : max (-((2 * N : Nat) : Int) + (E : Int) + (mag.log2 : Int) - ((52 : Nat) : Int)) (-(N : Int)) = -(N : Int) + (t : Int) := by omega
  simp only [hlast]
  have e1 : (-((2 * N : Nat) : Int) + (E : Int) - (-(N : Int) + (t : Int))).toNat = E - (N + t) := by omega
  have e2 : (-(N : Int) + (t : Int) - (-((2 * N : Nat) : Int) + (E : Int))).toNat = N + t - E := by omega
  have e3 : (-(N : Int) + (t : Int) - -(N : Int)).toNat = t := by omega
  rw [e1, e2, e3]
  have htN : t ≤ N := by omega
  rw [Nat.shiftLeft_eq]
  -- the units kept
  have hkept : Ieee.Toward.even.cut false (mag * 2 ^ (E - (N + t))) (N + t - E) ≤ 2 ^ 53 := by
    apply cut_le
    by_cases hc : N + t ≤ E
    · rw [show N + t - E = 0 by omega, Nat.pow_zero, Nat.mul_one]
      have : mag * 2 ^ (E - (N + t)) < 2 ^ (mag.log2 + 1) * 2 ^ (E - (N + t)) := Nat.mul_lt_mul_of_pos_right l2 (Nat.two_pow_pos _)
      rw [← Nat.pow_add] at this
      have h5 : 2 ^ (mag.log2 + 1 + (E - (N + t))) ≤ 2 ^ 53 := Nat.pow_le_pow_right (by omega) (by omega)
      omega
    · rw [show E - (N + t) = 0 by omega, Nat.pow_zero, Nat.mul_one]
      have h5 : 2 ^ (mag.log2 + 1) ≤ 2 ^ (53 + (N + t - E)) := Nat.pow_le_pow_right (by omega) (by omega)
      rw [Nat.pow_add 2 53] at h5
      omega
  have hlow : 0 < t → 2 ^ 52 ≤ Ieee.Toward.even.cut false (mag * 2 ^ (E - (N + t))) (N + t - E) := by
    intro htp
    apply cut_ge
    · by_cases hc : N + t ≤ E
      · rw [show N + t - E = 0 by omega, Nat.pow_zero, Nat.mul_one]
        have : 2 ^ mag.log2 * 2 ^ (E - (N + t)) ≤ mag * 2 ^ (E - (N + t)) := Nat.mul_le_mul_right _ l1
        rw [← Nat.pow_add, show mag.log2 + (E - (N + t)) = 52 by omega] at this
        exact this
      · rw [show E - (N + t) = 0 by omega, Nat.pow_zero, Nat.mul_one, ← Nat.pow_add]
        rw [show 52 + (N + t - E) = mag.log2 by omega]
        exact l1
    · by_cases hc : N + t ≤ E
      · omega
      · rw [show E - (N + t) = 0 by omega, Nat.pow_zero, Nat.mul_one]
        omega
  have hval : Ieee.Toward.even.cut false (mag * 2 ^ (E - (N + t))) (N + t - E) * 2 ^ t ≤ K * 2 ^ N := by
    have hc : Ieee.Toward.even.cut false (mag * 2 ^ (E - (N + t))) (N + t - E) ≤ K * 2 ^ (N - t) := by
      apply cut_le
      by_cases hc : N + t ≤ E
      · rw [show N + t - E = 0 by omega, Nat.pow_zero, Nat.mul_one]
        have h6 : mag * 2 ^ (E - (N + t)) * 2 ^ (N + t) ≤ K * 2 ^ (N - t) * 2 ^ (N + t) := by
          rw [Nat.mul_assoc, Nat.mul_assoc, ← Nat.pow_add, ← Nat.pow_add, show E - (N + t) + (N + t) = E by omega, show N - t + (N + t) = 2 * N by omega]
          exact h
        exact Nat.le_of_mul_le_mul_right h6 (Nat.two_pow_pos _)
      · rw [show E - (N + t) = 0 by omega, Nat.pow_zero, Nat.mul_one]
        have h6 : mag * 2 ^ E ≤ K * 2 ^ (N - t) * 2 ^ (N + t - E) * 2 ^ E := by
          rw [Nat.mul_assoc, Nat.mul_assoc, ← Nat.pow_add, ← Nat.pow_add, show N - t + (N + t - E + E) = 2 * N by omega]
          exact h
        exact Nat.le_of_mul_le_mul_right h6 (Nat.two_pow_pos _)
    calc _ ≤ K * 2 ^ (N - t) * 2 ^ t := Nat.mul_le_mul_right _ hc
      _ = K * 2 ^ N := by rw [Nat.mul_assoc, ← Nat.pow_add, show N - t + t = N by omega]
  generalize Ieee.Toward.even.cut false (mag * 2 ^ (E - (N + t))) (N + t - E) = kept at *
  have hmin : min (t * 2 ^ 52 + kept) (2047 * 2 ^ 52) = t * 2 ^ 52 + kept := Nat.min_eq_left (by omega)
  rw [hmin]
  show FlN N K (Ieee.double.word false (t * 2 ^ 52 + kept))
  exact rung_ok N K t kept hN hN2 htN hkept hlow hval

theorem FlN.mono {N K K' w : Nat} (h : FlN N K w) (hK : K ≤ K') : FlN N K' w := by
  obtain ⟨s, m, e, h1, h2, h3⟩ := h
  exact ⟨s, m, e, h1, h2, Nat.le_trans h3 (Nat.mul_le_mul_right _ hK)⟩

theorem signed_of {s : Bool} {m : Nat} (h : s = true → m = 0) (k : Nat) : Ieee.signed s m k = ((m * 2 ^ k : Nat) : Int) := by
  unfold Ieee.signed
  rw [Nat.shiftLeft_eq]
  cases s with
  | false => rfl
  | true => rw [h rfl]; simp

/-- A product. -/
theorem mul_ok {N K L x y : Nat} (hN : Ieee.double.leastPlace = -(N : Int)) (hN2 : N ≤ 1074) (hx : FlN N K x) (hy : FlN N L y) (hK : K * L ≤ 2 ^ 52) : ∃ r, Ieee.double.mul x y = some r ∧ FlN N (K * L) r := by
  obtain ⟨s, m, e, h1, h2, h3⟩ := hx
  obtain ⟨s', m', e', h1', h2', h3'⟩ := hy
  refine ⟨_, by unfold Ieee.Format.mul; rw [h1, h1']; rfl, ?_⟩
  show FlN N (K * L) (Ieee.double.nearest (s ^^ s') (m * m') _)
  rw [show (-(N : Int) + (e : Int) + (-(N : Int) + (e' : Int))) = -((2 * N : Nat) : Int) + ((e + e' : Nat) : Int) by omega]
  refine nearest_ok N (K * L) (m * m') (e + e') hN hN2 hK _ (fun hs => ?_) ?_
  · cases s with
    | true => rw [h2 rfl, Nat.zero_mul]
    | false =>
      cases s' with
      | true => rw [h2' rfl, Nat.mul_zero]
      | false => exact absurd hs (by decide)
  · rw [Nat.pow_add, Nat.mul_mul_mul_comm, Nat.two_mul, Nat.pow_add, Nat.mul_mul_mul_comm K]
    exact Nat.mul_le_mul h3 h3'

/-- A sum. -/
theorem add_ok {N K L x y : Nat} (hN : Ieee.double.leastPlace = -(N : Int)) (hN2 : N ≤ 1074) (hx : FlN N K x) (hy : FlN N L y) (hK : K + L ≤ 2 ^ 52) : ∃ r, Ieee.double.add x y = some r ∧ FlN N (K + L) r := by
  obtain ⟨s, m, e, h1, h2, h3⟩ := hx
  obtain ⟨s', m', e', h1', h2', h3'⟩ := hy
  refine ⟨_, by unfold Ieee.Format.add; rw [h1, h1']; rfl, ?_⟩
  simp only [Ieee.Format.write]
  rw [signed_of h2, signed_of h2']
  obtain ⟨b, hb⟩ : ∃ b : Nat, b = min e e' := ⟨_, rfl⟩
  have hbase : min (-(N : Int) + (e : Int)) (-(N : Int) + (e' : Int)) = -(N : Int) + (b : Int) := by omega
  rw [hbase]
  have e1 : (-(N : Int) + (e : Int) - (-(N : Int) + (b : Int))).toNat = e - b := by omega
  have e2 : (-(N : Int) + (e' : Int) - (-(N : Int) + (b : Int))).toNat = e' - b := by omega
  rw [e1, e2]
  have htot : ((m * 2 ^ (e - b) : Nat) : Int) + ((m' * 2 ^ (e' - b) : Nat) : Int) = ((m * 2 ^ (e - b) + m' * 2 ^ (e' - b) : Nat) : Int) := by omega
  rw [htot]
  generalize hT : m * 2 ^ (e - b) + m' * 2 ^ (e' - b) = T
  have hTv : T * 2 ^ b ≤ (K + L) * 2 ^ N := by
    rw [← hT, Nat.add_mul, Nat.mul_assoc, Nat.mul_assoc, ← Nat.pow_add, ← Nat.pow_add, show e - b + b = e by omega, show e' - b + b = e' by omega, Nat.add_mul]
    omega
  rw [show -(N : Int) + (b : Int) = -((2 * N : Nat) : Int) + ((N + b : Nat) : Int) by omega, Int.natAbs_natCast]
  refine nearest_ok N (K + L) T (N + b) hN hN2 hK _ (fun hs => ?_) ?_
  · by_cases h0 : T = 0
    · exact h0
    · rw [if_neg (by omega)] at hs
      have : ¬ ((T : Int) < 0) := by omega
      simp [this] at hs
  · rw [Nat.pow_add, Nat.mul_comm (2 ^ N), ← Nat.mul_assoc, Nat.two_mul, Nat.pow_add, ← Nat.mul_assoc]
    exact Nat.mul_le_mul_right _ hTv

/-- Such a word equals itself. -/
theorem eq_self {N K x : Nat} (h : FlN N K x) : Ieee.double.order x x = some .eq := by
  obtain ⟨s, m, e, h1, _, _⟩ := h
  unfold Ieee.Format.order
  rw [h1]
  simp only [Ieee.Datum.order]
  congr 1
  exact Std.ReflCmp.compare_self

theorem leastPlace_eq : Ieee.double.leastPlace = -((1074 : Nat) : Int) := by decide

def one : Nat := 4607182418800017408

theorem read_one : Ieee.double.read one = .number false (2 ^ 52) (-((1074 : Nat) : Int) + ((1022 : Nat) : Int)) := by decide
theorem read_zero : Ieee.double.read 0 = .number false 0 (-((1074 : Nat) : Int)) := by decide

/-- What a word reads as, where it is a number. -/
theorem read_form (N w : Nat) (hN : Ieee.double.leastPlace = -(N : Int)) {s : Bool} {m : Nat} {i : Int} (h : Ieee.double.read w = .number s m i) : ∃ e : Nat, i = -(N : Int) + (e : Int) := by
  unfold Ieee.Format.read at h
  rw [hN] at h
  simp only [] at h
  split at h
  · injection h with _ _ h
    exact ⟨0, by omega⟩
  · split at h
    · injection h with _ _ h
      exact ⟨_, h.symm⟩
    · split at h <;> cases h

theorem signed_neg (s : Bool) (m k : Nat) : Ieee.signed s m k = if s then -((m * 2 ^ k : Nat) : Int) else ((m * 2 ^ k : Nat) : Int) := by
  unfold Ieee.signed
  rw [Nat.shiftLeft_eq]

/-- A word between 0 and 1, by the comparisons of the program. -/
theorem unit_of (N w : Nat) (hN : Ieee.double.leastPlace = -(N : Int)) (h1 : Ieee.double.read one = .number false (2 ^ 52) (-(N : Int) + ((1022 : Nat) : Int))) (h0 : Ieee.double.read 0 = .number false 0 (-(N : Int))) (hNN : N = 52 + 1022)
    (ha : Ieee.double.order w 0 = some .gt ∨ Ieee.double.order w 0 = some .eq) (hb : Ieee.double.order w one = some .lt ∨ Ieee.double.order w one = some .eq) : FlN N 1 w := by
  unfold Ieee.Format.order at ha hb
  rw [h0] at ha
  rw [h1] at hb
  cases hr : Ieee.double.read w with
  | nan s f => rw [hr] at ha; simp [Ieee.Datum.order] at ha
  | infinity s =>
    rw [hr] at ha hb
    cases s <;> simp [Ieee.Datum.order] at ha hb
  | number s m i =>
    obtain ⟨e, rfl⟩ := read_form N w hN hr
    rw [hr] at ha hb
    simp only [Ieee.Datum.order, Option.some.injEq] at ha hb
    rw [show min (-(N : Int) + (e : Int)) (-(N : Int)) = -(N : Int) by omega] at ha
    rw [show (-(N : Int) + (e : Int) - -(N : Int)).toNat = e by omega, signed_neg, signed_neg] at ha
    obtain ⟨b, hbb⟩ : ∃ b : Nat, b = min e 1022 := ⟨_, rfl⟩
    rw [show min (-(N : Int) + (e : Int)) (-(N : Int) + ((1022 : Nat) : Int)) = -(N : Int) + (b : Int) by omega, show (-(N : Int) + (e : Int) - (-(N : Int) + (b : Int))).toNat = e - b by omega,
      show (-(N : Int) + ((1022 : Nat) : Int) - (-(N : Int) + (b : Int))).toNat = 1022 - b by omega, signed_neg, signed_neg] at hb
    have hs : s = true → m = 0 := by
      intro hs
      rw [hs] at ha
      simp only [if_true, Nat.zero_mul, Bool.false_eq_true, if_false] at ha
      rcases Nat.eq_zero_or_pos m with hm | hm
      · exact hm
      · exfalso
        have hp : 0 < m * 2 ^ e := Nat.mul_pos hm (Nat.two_pow_pos e)
        generalize m * 2 ^ e = X at *
        have hlt : compare (-(X : Int)) ((0 : Nat) : Int) = .lt := by
          rw [Std.compare_eq_lt]
          omega
        rw [hlt] at ha
        simp at ha
    refine ⟨s, m, e, hr, hs, ?_⟩
    have hle : m * 2 ^ (e - b) ≤ 2 ^ 52 * 2 ^ (1022 - b) := by
      have hsv : (if s = true then -((m * 2 ^ (e - b) : Nat) : Int) else ((m * 2 ^ (e - b) : Nat) : Int)) = ((m * 2 ^ (e - b) : Nat) : Int) := by
        cases s with
        | false => rfl
        | true => rw [hs rfl]; simp
      rw [hsv] at hb
      simp only [Bool.false_eq_true, if_false] at hb
      generalize m * 2 ^ (e - b) = X at *
      generalize 2 ^ 52 * 2 ^ (1022 - b) = Y at *
      refine Nat.le_of_not_lt fun hgt => ?_
      have : compare ((X : Int)) ((Y : Nat) : Int) = .gt := by
        rw [Std.compare_eq_gt]
        omega
      rw [this] at hb
      simp at hb
    calc m * 2 ^ e = m * 2 ^ (e - b) * 2 ^ b := by rw [Nat.mul_assoc, ← Nat.pow_add, show e - b + b = e by omega]
      _ ≤ 2 ^ 52 * 2 ^ (1022 - b) * 2 ^ b := Nat.mul_le_mul_right _ hle
      _ = 1 * 2 ^ N := by rw [Nat.mul_assoc, ← Nat.pow_add, ← Nat.pow_add, show 52 + (1022 - b + b) = N by omega, Nat.one_mul]

/-- 1 less such a word. -/
theorem sub_ok (N h : Nat) (hN : Ieee.double.leastPlace = -(N : Int)) (hN2 : N ≤ 1074) (h1 : Ieee.double.read one = .number false (2 ^ 52) (-(N : Int) + ((1022 : Nat) : Int))) (hNN : N = 52 + 1022) (hh : FlN N 1 h) : ∃ r, Ieee.double.sub one h = some r ∧ FlN N 1 r := by
  obtain ⟨s, m, e, k1, k2, k3⟩ := hh
  refine ⟨_, by unfold Ieee.Format.sub; rw [k1, h1]; rfl, ?_⟩
  simp only [Ieee.Format.write]
  rw [signed_neg, signed_neg]
  obtain ⟨b, hbb⟩ : ∃ b : Nat, b = min 1022 e := ⟨_, rfl⟩
  rw [show min (-(N : Int) + ((1022 : Nat) : Int)) (-(N : Int) + (e : Int)) = -(N : Int) + (b : Int) by omega, show (-(N : Int) + (e : Int) - (-(N : Int) + (b : Int))).toNat = e - b by omega,
      show (-(N : Int) + ((1022 : Nat) : Int) - (-(N : Int) + (b : Int))).toNat = 1022 - b by omega]
  have hsv : (if (!s) = true then -((m * 2 ^ (e - b) : Nat) : Int) else ((m * 2 ^ (e - b) : Nat) : Int)) = -((m * 2 ^ (e - b) : Nat) : Int) := by
    cases s with
    | false => rfl
    | true => rw [k2 rfl]; simp
  rw [hsv]
  simp only [Bool.false_eq_true, if_false]
  have hY : 2 ^ 52 * 2 ^ (1022 - b) * 2 ^ b = 2 ^ N := by rw [Nat.mul_assoc, ← Nat.pow_add, ← Nat.pow_add, show 52 + (1022 - b + b) = N by omega]
  have hle : m * 2 ^ (e - b) ≤ 2 ^ 52 * 2 ^ (1022 - b) := by
    have h6 : m * 2 ^ (e - b) * 2 ^ b ≤ 2 ^ 52 * 2 ^ (1022 - b) * 2 ^ b := by
      rw [hY, Nat.mul_assoc, ← Nat.pow_add, show e - b + b = e by omega]
      omega
    exact Nat.le_of_mul_le_mul_right h6 (Nat.two_pow_pos _)
  generalize m * 2 ^ (e - b) = X at *
  generalize 2 ^ 52 * 2 ^ (1022 - b) = Y at *
  rw [show ((Y : Nat) : Int) + -((X : Nat) : Int) = ((Y - X : Nat) : Int) by omega, show -(N : Int) + (b : Int) = -((2 * N : Nat) : Int) + ((N + b : Nat) : Int) by omega, Int.natAbs_natCast]
  refine nearest_ok N 1 (Y - X) (N + b) hN hN2 (by decide) _ (fun hs => ?_) ?_
  · by_cases h0 : Y - X = 0
    · exact h0
    · rw [if_neg (by omega)] at hs
      have : ¬ (((Y - X : Nat) : Int) < 0) := by omega
      simp [this] at hs
  · have hv : (Y - X) * 2 ^ b ≤ 2 ^ N := by
      rw [← hY]
      exact Nat.mul_le_mul_right _ (Nat.sub_le _ _)
    rw [Nat.pow_add, Nat.mul_comm (2 ^ N), ← Nat.mul_assoc, Nat.two_mul, Nat.pow_add, ← Nat.mul_assoc, Nat.one_mul]
    exact Nat.mul_le_mul_right _ hv

/-- A number from 0 to K. -/
def Fl (K w : Nat) : Prop := FlN 1074 K w

theorem Fl.mono {K K' w : Nat} (h : Fl K w) (hK : K ≤ K') : Fl K' w := FlN.mono h hK
theorem Fl.zero : Fl 1 0 := ⟨false, 0, 0, by rw [read_zero]; rfl, fun _ => rfl, by rw [Nat.zero_mul]; exact Nat.zero_le _⟩

theorem Fl.unit {w : Nat} (ha : Ieee.double.order w 0 = some .gt ∨ Ieee.double.order w 0 = some .eq) (hb : Ieee.double.order w one = some .lt ∨ Ieee.double.order w one = some .eq) : Fl 1 w :=
  unit_of 1074 w leastPlace_eq read_one read_zero rfl ha hb

theorem Fl.eq_self {K w : Nat} (h : Fl K w) : Ieee.double.order w w = some .eq := Qxb6613544a.eq_self h

theorem one_unit : Fl 1 one := Fl.unit (Or.inl (by decide)) (Or.inr (by decide))

/-- The update of the loss. -/
theorem Fl.step {K h l x : Nat} (hh : Fl 1 h) (hl : Fl K l) (hx : Fl 1 x) (hK : K + 1 ≤ 2 ^ 52) : ∃ r1 r2 r3 r4, Ieee.double.sub one h = some r1 ∧ Ieee.double.mul r1 l = some r2 ∧ Ieee.double.mul h x = some r3 ∧ Ieee.double.add r2 r3 = some r4 ∧ Fl (K + 1) r4 := by
  obtain ⟨r1, e1, f1⟩ := sub_ok 1074 h leastPlace_eq (Nat.le_refl _) read_one rfl hh
  obtain ⟨r2, e2, f2⟩ := mul_ok leastPlace_eq (Nat.le_refl _) f1 hl (by omega)
  obtain ⟨r3, e3, f3⟩ := mul_ok leastPlace_eq (Nat.le_refl _) hh hx (by omega)
  rw [Nat.one_mul] at f2
  obtain ⟨r4, e4, f4⟩ := add_ok leastPlace_eq (Nat.le_refl _) f2 f3 (by omega)
  exact ⟨r1, r2, r3, r4, e1, e2, e3, e4, f4⟩

end Go.Proofs.Qxb6613544a
