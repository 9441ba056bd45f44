/-
  strings.Join AT A ROW, EMPTY OR NOT; THE TEXTS OF EXPRESSIONS.
-/
import Derived.Test.Qxb6613313aData
import Derived.Test.Qxb6613313aShelf
import Derived.Lib.Join
namespace Go.Proofs.Qxb6613313a
open Go.RowKit

def joinB (xs : List ByteArray) (sep : ByteArray) : ByteArray := ⟨(Lib.join (xs.map (·.data.toList)) sep.data.toList).toArray⟩

abbrev dot : ByteArray := ⟨#[46]⟩
abbrev comma : ByteArray := ⟨#[44]⟩

theorem tail_length (sep : List UInt8) : ∀ r : List (List UInt8), (Lib.joinTail sep r).length = r.length * sep.length + (r.map List.length).sum
  | [] => by simp [Lib.joinTail]
  | x :: r => by
    have := tail_length sep r
    simp only [Lib.joinTail, List.map_cons, List.flatten_cons, List.length_append, List.sum_cons, List.length_cons] at this ⊢
    rw [this, Nat.succ_mul]
    omega

theorem sum_lens : ∀ xs : List ByteArray, (((xs.map (·.data.toList)).map List.length).sum : Int) = lens xs
  | [] => rfl
  | x :: xs => by
    have := sum_lens xs
    simp only [List.map_cons, List.sum_cons, lens, ← this]
    have e : x.data.toList.length = x.size := Array.length_toList
    rw [e]
    omega

/-- Its length, with a separator of one byte. -/
theorem join_le (xs : List ByteArray) (sep : ByteArray) (hs : sep.data.toList.length = 1) : ((Lib.join (xs.map (·.data.toList)) sep.data.toList).length : Int) ≤ lens xs + (xs.length : Int) := by
  cases xs with
  | nil => simp [Lib.join_nil, lens]
  | cons x xs =>
    have h1 := tail_length sep.data.toList (xs.map (·.data.toList))
    have h2 := sum_lens xs
    rw [List.map_cons, Lib.join_cons, List.length_append, h1, hs]
    simp only [lens, ← h2, List.length_cons, List.length_map]
    have e : x.data.toList.length = x.size := Array.length_toList
    rw [e]
    omega

theorem joinB_size (xs : List ByteArray) (sep : ByteArray) (hs : sep.data.toList.length = 1) : ((joinB xs sep).size : Int) ≤ lens xs + (xs.length : Int) := by
  have := join_le xs sep hs
  unfold joinB
  simpa [ByteArray.size] using this

set_option maxHeartbeats 400000 in
theorem join_any (B : Nat) (a : Option Addr) (len cap b o : Nat) (xs : List ByteArray) (sep : ByteArray) (w : World) (hS : SRow B w a len cap b o xs) (hB : B ≤ w.heap.size) (hs : sep.data.toList.length = 1) (hl : lens xs + (len : Int) ≤ 140737488355328) :
    Calls Try.prog 32 #[.slice a len cap, .string sep] w fun e w' => e = .returned (.string (joinB xs sep)) ∧ Below w.heap.size w w' := by
  obtain ⟨h1, h2, h3, h4, h5⟩ := hS
  have hn := lens_nonneg xs
  cases xs with
  | nil =>
    simp at h1
    subst h1
    refine (Try.strings_Join_none a cap sep w).mono ?_
    rintro e w' ⟨rfl, rfl⟩
    exact ⟨rfl, Below.refl _ _⟩
  | cons x xs =>
    subst h1
    obtain ⟨rfl, hbB⟩ := h4 (by simp)
    have hj := join_le (x :: xs) sep hs
    refine (Try.strings_Join b o cap (x :: xs) sep w (fun j y hy => ?_) (by omega) (by omega) h2 (by omega)).mono ?_
    · have hlt : j < (x :: xs).length := (List.getElem?_eq_some_iff.1 hy).1
      rw [h5 j hlt]
      simp [List.getD, hy]
    · rintro e w' ⟨rfl, hb⟩
      exact ⟨rfl, hb⟩

/-- The text of an expression. -/
def txt (e : Ex) : ByteArray := joinB e.attr dot ++ e.op ++ e.val

end Go.Proofs.Qxb6613313a
