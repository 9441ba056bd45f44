/-
  zzExprText: THE WALK.
-/
import Derived.Test.Qxb6613313aLaw
namespace Go.Proofs.Qxb6613313a
open Go.RowKit

theorem take_snoc_getD (xs : List ByteArray) (m : Nat) (h : m < xs.length) : xs.take (m + 1) = xs.take m ++ [xs.getD m ⟨#[]⟩] := by
  rw [List.take_succ_eq_append_getElem h]
  simp [List.getD, h]

theorem lens_take (xs : List ByteArray) (k : Nat) : lens (xs.take k) ≤ lens xs := by
  induction xs generalizing k with
  | nil => simp [lens]
  | cons x xs ih =>
    cases k with
    | zero => have := lens_nonneg (x :: xs); simpa [lens] using this
    | succ k => have := ih k; simp only [List.take_succ_cons, lens]; omega

theorem lens_getD (xs : List ByteArray) (k : Nat) : ((xs.getD k ⟨#[]⟩).size : Int) ≤ lens xs := by
  induction xs generalizing k with
  | nil => simp [lens, ByteArray.size]
  | cons x xs ih =>
    cases k with
    | zero => have := lens_nonneg xs; simp only [lens]; simp; omega
    | succ k => have := ih k; simp only [lens]; simp at this ⊢; omega

theorem joinB_take_size (xs : List ByteArray) (k : Nat) : ((joinB (xs.take k) dot).size : Int) ≤ lens xs + (xs.length : Int) := by
  have h1 := joinB_size (xs.take k) dot rfl
  have h2 := lens_take xs k
  have h3 : (xs.take k).length ≤ xs.length := List.length_take_le' _ _
  omega

set_option maxHeartbeats 2000000 in
theorem exprText_any (B : Nat) (a : Option Addr) (len cap b o : Nat) (x : Ex) (w : World) (hS : SRow B w a len cap b o x.attr) (hB : B ≤ w.heap.size) (hz : esize x ≤ 1048576) :
    Calls Try.prog 24 #[.agg #[.slice a len cap, .string x.op, .string x.val]] w fun e w' => e = .returned (.string (txt x)) ∧ Below w.heap.size w w' := by
  have hS0 := hS.kept ((Below.refl B w).alloc hB (.cells #[.slice a len cap, .string x.op, .string x.val] 51))
  obtain ⟨hl, hlc, hcm, ha, hc⟩ := hS0
  unfold maxLen at hcm
  have hz1 : 16 * (x.attr.length : Int) + lens x.attr + (x.op.size : Int) + (x.val.size : Int) ≤ 1048576 := hz
  have hz2 := lens_nonneg x.attr
  go_enter Try.func24, Try.ntmps24
  go_wp2_with fail
  go_loop [3, 4] (fun s i => ∃ k : Nat, k ≤ len ∧ i = .int .i64 k ∧ s = .string (joinB (x.attr.take k) dot)) (fun _ i => len - (intOf i).toNat)
  case atStart => exact ⟨0, Nat.zero_le _, rfl, rfl⟩
  case round =>
    obtain ⟨k, hk, rfl, rfl⟩ := hrel
    by_cases hlt : k < len
    · obtain ⟨rfl, _⟩ := ha (by omega)
      have d0 := hc k hlt
      have HT : Hid (x.attr.take (k + 1) = x.attr.take k ++ [x.attr.getD k ⟨#[]⟩]) := take_snoc_getD _ _ (by omega)
      have HN : Hid (0 < k → x.attr.take k ≠ []) := fun h0 hn => by have := congrArg List.length hn; rw [List.length_take, List.length_nil] at this; omega
      have HZ : Hid (x.attr.take 0 = []) := rfl
      have hy0 : (x.attr.getD k ⟨#[]⟩).size ≤ 1048576 := by have := lens_getD x.attr k; omega
      have hj0 : (joinB (x.attr.take k) dot).size ≤ 1048576 := by have := joinB_take_size x.attr k; omega
      generalize x.attr.getD k ⟨#[]⟩ = y at *
      clear hc ha
      by_cases h0 : 0 < k
      · go_wp2
        go_round
        case rel =>
          refine ⟨k + 1, by omega, by go_num, ?_⟩
          rw [HT.out, joinB_snoc _ _ _ (HN.out h0)]
        case measure => simp [intOf]; omega
      · obtain rfl : k = 0 := by omega
        simp only [Nat.add_zero] at d0
        rw [List.take_zero] at hj0
        go_wp2
        go_round
        case rel =>
          refine ⟨1, by omega, rfl, ?_⟩
          have e : x.attr.take (0 + 1) = [y] := by rw [HT.out, List.take_zero]; rfl
          rw [show (1 : Nat) = 0 + 1 from rfl, e, joinB_one]
          exact congrArg Value.string (ba_nil_app y)
        case measure => simp [intOf]; omega
    · obtain rfl : k = len := by omega
      have hj0 : (joinB (x.attr.take k) dot).size ≤ 1048576 := by have := joinB_take_size x.attr k; omega
      have ho0 : x.op.size ≤ 1048576 := by omega
      have hv0 : x.val.size ≤ 1048576 := by omega
      go_wp2
      go_ret
      refine ⟨?_, (Below.refl _ _).alloc (Nat.le_refl _) _⟩
      rw [← hl, List.take_length]
      rfl

end Go.Proofs.Qxb6613313a
