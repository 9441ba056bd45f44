/-
  zzAllNamed, zzExprLen, zzNestedLen: THE WALKS.
-/
import Derived.Test.Qxb6613313aText
namespace Go.Proofs.Qxb6613313a
open Go.RowKit

/-- What zzAllNamed answers: where it says yes, every expression names an attribute. -/
def Named (es : List Ex) (e : Ending) : Prop := ∃ r : Bool, e = .returned (.bool r) ∧ (r = true → ∀ i, i < es.length → 0 < (es.getD i Ex.zero).attr.length)

theorem Named.no {es : List Ex} : Named es (.returned (.bool false)) := ⟨false, rfl, fun h => by cases h⟩

set_option maxHeartbeats 1000000 in
theorem allNamed_any (B : Nat) (a : Option Addr) (len cap b o : Nat) (es : List Ex) (w : World) (hE : ERow B w a len cap b o es) :
    Calls Try.prog 26 #[.slice a len cap] w fun e w' => Named es e ∧ w = w' := by
  obtain ⟨hl, hlc, hcm, ha, hc⟩ := hE
  unfold maxLen at hcm
  go_enter Try.func26, Try.ntmps26
  go_wp2
  go_loop [3] (fun i => ∃ k : Nat, k ≤ len ∧ i = .int .i64 k ∧ Hid (∀ j, j < k → 0 < (es.getD j Ex.zero).attr.length)) (fun i => len - (intOf i).toNat)
  case atStart => exact ⟨0, Nat.zero_le _, rfl, fun j hj => absurd hj (by omega)⟩
  case round =>
    obtain ⟨k, hk, rfl, HK⟩ := hrel
    by_cases hlt : k < len
    · obtain ⟨rfl, _⟩ := ha (by omega)
      obtain ⟨a', len', cap', b', o', c0, ⟨hl', hlc', hcm', _, _⟩, c1, c2⟩ := hc k hlt
      have HL : Hid ((es.getD k Ex.zero).attr.length = len') := hl'
      have HR : Hid (∀ j, j < k + 1 → 0 < len' → 0 < (es.getD j Ex.zero).attr.length) := fun j hj h0 => by
        by_cases hjk : j = k
        · subst hjk; omega
        · exact HK.out j (by omega)
      generalize es.getD k Ex.zero = x at c0 c1 c2 HL
      clear hc ha hl'
      by_cases h0 : len' = 0
      · subst h0
        go_wp2
        go_ret
        exact ⟨Named.no, rfl⟩
      · have hne : ((len' : Int) == 0) = false := by simpa using h0
        go_wp2
        go_round
        case rel =>
          exact ⟨k + 1, by omega, by go_num, fun j hj => HR.out j hj (by omega)⟩
        case measure => simp [intOf]; omega
    · obtain rfl : k = len := by omega
      go_wp2
      go_ret
      exact ⟨⟨true, rfl, fun _ i hi => HK.out i (by omega)⟩, rfl⟩

/-- The length of an expression's text. -/
def elen (e : Ex) : Int := (e.op.size : Int) + (e.val.size : Int) + lens e.attr + (if 0 < e.attr.length then (e.attr.length : Int) - 1 else 0)

def elenTo (e : Ex) (k : Nat) : Int := (e.op.size : Int) + (e.val.size : Int) + lensTo e.attr k + (if 0 < k then (k : Int) - 1 else 0)

theorem elenTo_all (e : Ex) : elenTo e e.attr.length = elen e := by unfold elenTo elen; rw [lensTo_all]

theorem elenTo_succ (e : Ex) (k : Nat) : elenTo e (k + 1) = elenTo e k + ((e.attr.getD k ⟨#[]⟩).size : Int) + (if 0 < k then 1 else 0) := by
  unfold elenTo
  simp only [lensTo]
  by_cases h : 0 < k
  · rw [if_pos h, if_pos h, if_pos (by omega)]; omega
  · rw [if_neg h, if_neg h, if_pos (by omega)]; omega

theorem lensTo_le (xs : List ByteArray) (k : Nat) (hk : k ≤ xs.length) : lensTo xs k ≤ lens xs := by
  have h1 : ∀ d, lensTo xs k ≤ lensTo xs (k + d) := fun d => by
    induction d with
    | zero => exact Int.le_refl _
    | succ d ih => have : lensTo xs (k + (d + 1)) = lensTo xs (k + d) + ((xs.getD (k + d) ⟨#[]⟩).size : Int) := rfl; omega
  have h2 := h1 (xs.length - k)
  rw [show k + (xs.length - k) = xs.length by omega, lensTo_all] at h2
  exact h2

theorem elenTo_bounds (e : Ex) (k : Nat) (hk : k ≤ e.attr.length) (hz : esize e ≤ 1048576) : 0 ≤ elenTo e k ∧ elenTo e k ≤ 1048576 := by
  have h1 := lensTo_le e.attr k hk
  have h2 := lensTo_nonneg e.attr k
  have hz1 : 16 * (e.attr.length : Int) + lens e.attr + (e.op.size : Int) + (e.val.size : Int) ≤ 1048576 := hz
  unfold elenTo
  by_cases h : 0 < k
  · rw [if_pos h]; omega
  · rw [if_neg h]; omega

set_option maxHeartbeats 2000000 in
theorem exprLen_any (B : Nat) (a : Option Addr) (len cap b o : Nat) (x : Ex) (w : World) (hS : SRow B w a len cap b o x.attr) (hB : B ≤ w.heap.size) (hz : esize x ≤ 1048576) :
    Calls Try.prog 34 #[.agg #[.slice a len cap, .string x.op, .string x.val]] w fun e w' => e = .returned (.int .i64 (elen x)) ∧ w' = w.alloc (.cells #[.slice a len cap, .string x.op, .string x.val] 51) := by
  have hS0 := hS.kept ((Below.refl B w).alloc hB (.cells #[.slice a len cap, .string x.op, .string x.val] 51))
  obtain ⟨hl, hlc, hcm, ha, hc⟩ := hS0
  unfold maxLen at hcm
  have hz1 : 16 * (x.attr.length : Int) + lens x.attr + (x.op.size : Int) + (x.val.size : Int) ≤ 1048576 := hz
  have hz2 := lens_nonneg x.attr
  have ho0 : (x.op.size : Int) ≤ 1048576 := by omega
  have hv0 : (x.val.size : Int) ≤ 1048576 := by omega
  go_enter Try.func34, Try.ntmps34
  go_wp2_with fail
  go_loop [3, 4] (fun s i => ∃ (k : Nat) (v : Int), k ≤ len ∧ i = .int .i64 k ∧ s = .int .i64 v ∧ 0 ≤ v ∧ v ≤ 1048576 ∧ Hid (v = elenTo x k)) (fun _ i => len - (intOf i).toNat)
  case atStart => exact ⟨0, _, Nat.zero_le _, rfl, rfl, by omega, by omega, (by simp [elenTo, lensTo] : (x.op.size : Int) + (x.val.size : Int) = elenTo x 0)⟩
  case round =>
    obtain ⟨k, v, hk, rfl, rfl, hv1, hv2, HV⟩ := hrel
    by_cases hlt : k < len
    · obtain ⟨rfl, _⟩ := ha (by omega)
      have d0 := hc k hlt
      have HS := elenTo_succ x k
      have HB := elenTo_bounds x (k + 1) (by omega) hz
      have hy0 : ((x.attr.getD k ⟨#[]⟩).size : Int) ≤ 1048576 := by have := lens_getD x.attr k; omega
      have HH : Hid (elenTo x (k + 1) = elenTo x k + ((x.attr.getD k ⟨#[]⟩).size : Int) + (if 0 < k then 1 else 0) ∧ 0 ≤ elenTo x (k + 1) ∧ elenTo x (k + 1) ≤ 1048576) := ⟨HS, HB⟩
      clear HS HB
      generalize x.attr.getD k ⟨#[]⟩ = y at d0 hy0 HH
      clear hc ha
      by_cases h0 : 0 < k
      · go_wp2
        go_round
        case rel =>
          have e1 : v = elenTo x k := HV.out
          obtain ⟨e2, e3, e4⟩ := HH.out
          rw [if_pos h0, ← e1] at e2
          rw [e2] at e3 e4
          exact ⟨k + 1, v + (y.size : Int) + 1, by omega, by go_num, by go_num, e3, e4, e2.symm⟩
        case measure => simp [intOf]; omega
      · obtain rfl : k = 0 := by omega
        simp only [Nat.add_zero] at d0
        go_wp2
        go_round
        case rel =>
          have e1 : v = elenTo x 0 := HV.out
          obtain ⟨e2, e3, e4⟩ := HH.out
          rw [if_neg h0, ← e1, Int.add_zero] at e2
          rw [e2] at e3 e4
          exact ⟨1, v + (y.size : Int), by omega, rfl, by go_num, e3, e4, e2.symm⟩
        case measure => simp [intOf]; omega
    · obtain rfl : k = len := by omega
      have e1 : v = elenTo x k := HV.out
      rw [← hl, elenTo_all] at e1
      subst e1
      go_wp2
      go_ret
      exact ⟨rfl, rfl⟩

end Go.Proofs.Qxb6613313a
