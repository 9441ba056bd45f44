/-
  THE PLAIN LAW: joins cut anywhere.
-/
import Derived.Test.Qxb6613313aJoin
namespace Go.Proofs.Qxb6613313a

theorem ba_ext {a b : ByteArray} (h : a.data.toList = b.data.toList) : a = b := by
  apply ByteArray.ext
  exact Array.toList_inj.1 h

theorem ba_app (a b : ByteArray) : (a ++ b).data.toList = a.data.toList ++ b.data.toList := by
  rw [ByteArray.data_append, Array.toList_append]

theorem joinB_list (xs : List ByteArray) (sep : ByteArray) : (joinB xs sep).data.toList = Lib.join (xs.map (·.data.toList)) sep.data.toList := rfl

theorem tail_append (sep : List UInt8) (r s : List (List UInt8)) : Lib.joinTail sep (r ++ s) = Lib.joinTail sep r ++ Lib.joinTail sep s := by
  simp [Lib.joinTail]

/-- A join cut where both parts hold something. -/
theorem joinB_cut (xs ys : List ByteArray) (sep : ByteArray) (hx : xs ≠ []) (hy : ys ≠ []) : joinB (xs ++ ys) sep = joinB xs sep ++ sep ++ joinB ys sep := by
  apply ba_ext
  rw [ba_app, ba_app, joinB_list, joinB_list, joinB_list]
  cases xs with
  | nil => exact absurd rfl hx
  | cons x xs =>
    cases ys with
    | nil => exact absurd rfl hy
    | cons y ys =>
      simp only [List.map_cons, List.cons_append, List.map_append]
      rw [Lib.join_cons, Lib.join_cons, Lib.join_cons, tail_append]
      simp [Lib.joinTail]

theorem joinB_nil (sep : ByteArray) : joinB [] sep = ⟨#[]⟩ := rfl

theorem joinB_one (x sep : ByteArray) : joinB [x] sep = x := by
  apply ba_ext
  rw [joinB_list]
  exact Lib.join_one _ _

theorem ba_nil_app (x : ByteArray) : (⟨#[]⟩ : ByteArray) ++ x = x := by
  apply ba_ext
  rw [ba_app]
  rfl

theorem ba_app_nil (x : ByteArray) : x ++ (⟨#[]⟩ : ByteArray) = x := by
  apply ba_ext
  rw [ba_app]
  exact List.append_nil _

/-- A join cut anywhere: a separator stands there just where both parts hold something. -/
theorem joinB_any (xs : List ByteArray) (k : Nat) (sep : ByteArray) : joinB xs sep = joinB (xs.take k) sep ++ (if 0 < k ∧ k < xs.length then sep else ⟨#[]⟩) ++ joinB (xs.drop k) sep := by
  by_cases h : 0 < k ∧ k < xs.length
  · rw [if_pos h]
    have h1 : xs.take k ≠ [] := fun hn => by have := congrArg List.length hn; rw [List.length_take, List.length_nil] at this; omega
    have h2 : xs.drop k ≠ [] := fun hn => by have := congrArg List.length hn; simp at this; omega
    rw [← joinB_cut _ _ _ h1 h2, List.take_append_drop]
  · rw [if_neg h, ba_app_nil]
    by_cases h0 : k = 0
    · subst h0
      rw [List.take_zero, joinB_nil, ba_nil_app, List.drop_zero]
    · have hge : xs.length ≤ k := by omega
      rw [List.take_of_length_le hge, List.drop_of_length_le hge, joinB_nil, ba_app_nil]

theorem joinB_snoc (xs : List ByteArray) (y sep : ByteArray) (h : xs ≠ []) : joinB (xs ++ [y]) sep = joinB xs sep ++ sep ++ y := by
  rw [joinB_cut xs [y] sep h (by simp), joinB_one]

end Go.Proofs.Qxb6613313a
