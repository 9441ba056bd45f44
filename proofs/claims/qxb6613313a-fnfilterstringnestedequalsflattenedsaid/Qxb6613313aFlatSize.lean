/-
  HOW LARGE THE FLAT FILTER IS.
-/
import Derived.Test.Qxb6613313aNestLaw
namespace Go.Proofs.Qxb6613313a

theorem esize_pre (n : ByteArray) (e : Ex) : esize (pre n e) = esize e + 16 + (n.size : Int) := by
  unfold esize pre
  simp only [lens, List.length_cons]
  omega

theorem esizes_pre (n : ByteArray) : ∀ L : List Ex, esizes (L.map (pre n)) = esizes L + (L.length : Int) * (16 + (n.size : Int))
  | [] => by simp [esizes]
  | e :: L => by
    simp only [List.map_cons, esizes, esize_pre, esizes_pre n L, List.length_cons]
    have h4 : ((L.length + 1 : Nat) : Int) * (16 + (n.size : Int)) = (L.length : Int) * (16 + (n.size : Int)) + (16 + (n.size : Int)) := by
      rw [Int.natCast_add, Int.add_mul]
      simp
    rw [h4]
    omega

theorem esizes_mem : ∀ (L : List Ex) (e : Ex), e ∈ L → esize e ≤ esizes L
  | e' :: L, e, h => by
    rcases List.mem_cons.1 h with rfl | h
    · have := esizes_nonneg L
      simp only [esizes]
      omega
    · have := esizes_mem L e h
      have := esize_nonneg e'
      simp only [esizes]
      omega

theorem times_le (l : Nat) (n : ByteArray) (h1 : l ≤ 1048576) (h2 : n.size ≤ 1048576) : (l : Int) * (16 + (n.size : Int)) ≤ 1099528404992 := by
  have h3 : (l : Int) * (16 + (n.size : Int)) ≤ 1048576 * (16 + (n.size : Int)) := Int.mul_le_mul_of_nonneg_right (by omega) (by omega)
  omega

theorem flat_sizes (own : List Ex) (n1 : ByteArray) (L1 : List Ex) (n2 : ByteArray) (L2 : List Ex) (h0 : esizes own ≤ 1048576) (h1 : esizes L1 ≤ 1048576) (h2 : esizes L2 ≤ 1048576) (k1 : L1.length ≤ 1048576) (k2 : L2.length ≤ 1048576) (m1 : n1.size ≤ 1048576) (m2 : n2.size ≤ 1048576) :
    esizes (flatL own n1 L1 n2 L2) ≤ 70368744177664 ∧ (∀ i, esize ((flatL own n1 L1 n2 L2).getD i Ex.zero) ≤ 4194304) ∧ (flatL own n1 L1 n2 L2).length = own.length + L1.length + L2.length := by
  refine ⟨?_, fun i => ?_, ?_⟩
  · unfold flatL
    rw [esizes_append, esizes_append, esizes_pre, esizes_pre]
    have := times_le L1.length n1 k1 m1
    have := times_le L2.length n2 k2 m2
    omega
  · by_cases hi : i < (flatL own n1 L1 n2 L2).length
    · have hm : (flatL own n1 L1 n2 L2).getD i Ex.zero ∈ flatL own n1 L1 n2 L2 := by
        simp [List.getD, hi]
      generalize (flatL own n1 L1 n2 L2).getD i Ex.zero = e at hm
      unfold flatL at hm
      rw [List.mem_append, List.mem_append] at hm
      rcases hm with (hm | hm) | hm
      · have := esizes_mem _ _ hm
        omega
      · obtain ⟨x, hx, rfl⟩ := List.mem_map.1 hm
        have := esizes_mem _ _ hx
        rw [esize_pre]
        omega
      · obtain ⟨x, hx, rfl⟩ := List.mem_map.1 hm
        have := esizes_mem _ _ hx
        rw [esize_pre]
        omega
    · have e : (flatL own n1 L1 n2 L2).getD i Ex.zero = Ex.zero := by
        rw [List.getD, List.getElem?_eq_none (by omega)]
        rfl
      rw [e]
      decide
  · unfold flatL
    simp
    omega

end Go.Proofs.Qxb6613313a
