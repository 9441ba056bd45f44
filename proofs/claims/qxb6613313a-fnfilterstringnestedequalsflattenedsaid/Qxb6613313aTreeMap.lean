/-
  THE MAP OF A FILTER WITH TWO CHILDREN.
-/
import Derived.Test.Qxb6613313aLeaf
import Derived.Maps.OwnSet
namespace Go.Proofs.Qxb6613313a
open Go.RowKit Go.Maps
open Go.WideMaps (keyOf_string_mk)

/-- How a *Filter in the map is read: by its block. -/
def Rp (v : Value) : Option (DataW Unit × List MemPlace) :=
  match v with
  | .pointer none => some (.nil, [])
  | .pointer (some ⟨b, 0, none⟩) => some (.lit (.int .i64 b), [])
  | _ => none

theorem Rp_nil : Rp (.pointer none) = some (.nil, []) := rfl
theorem Rp_at (b : Nat) : Rp (.pointer (some ⟨b, 0, none⟩)) = some (.lit (.int .i64 b), []) := rfl

theorem Rp_inv {v : Value} {b : Nat} {ps : List MemPlace} (h : Rp v = some (.lit (.int .i64 b), ps)) : v = .pointer (some ⟨b, 0, none⟩) := by
  unfold Rp at h
  split at h
  · cases h
  · rename_i b'
    simp at h
    obtain ⟨h1, _⟩ := h
    have : b' = b := by omega
    rw [this]
  · cases h

theorem law9 : Keyed Try.prog 9 := string_keyed Try.underlying9

def kstr (s : ByteArray) : Lit := .string s.data.toList

/-- What the map reads as behind k of the two stores. -/
def D0 : DataW Unit := .map []
def D1 (p : ByteArray) (F1 : Nat) : DataW Unit := D0.put (kstr p) (.lit (.int .i64 F1))
def D2 (p q : ByteArray) (F1 F2 : Nat) : DataW Unit := (D1 p F1).put (kstr q) (.lit (.int .i64 F2))

theorem kstr_ne {p q : ByteArray} (h : p ≠ q) : kstr p ≠ kstr q := fun e => by
  unfold kstr at e
  injection e with e
  exact h (by apply ByteArray.ext; exact Array.toList_inj.1 e)

theorem key_of (s : ByteArray) (h : s.size ≤ 1048576) : keyOf Try.prog 9 (.string s) = some (kstr s) := keyOf_string_mk Try.underlying9 (by unfold maxLen; omega)

theorem at_p {p q : ByteArray} (F1 F2 : Nat) (h : p ≠ q) : (D2 p q F1 F2).atKey (kstr p) .nil = .lit (.int .i64 F1) := by
  unfold D2
  rw [atKey_put_other (kstr_ne h)]
  exact atKey_put_same ⟨[], rfl⟩ (by unfold kstr; trivial) _ _

theorem at_q (p q : ByteArray) (F1 F2 : Nat) : (D2 p q F1 F2).atKey (kstr q) .nil = .lit (.int .i64 F2) :=
  atKey_put_same ⟨_, rfl⟩ (by unfold kstr; trivial) _ _

theorem zero46 (w : World) : (zeroValue 46).run Try.prog w = .ok (.pointer none) w := by kernel_rfl

/-- The look-up of either name. -/
theorem look_name {w : World} {mb : Nat} {p q : ByteArray} {F1 F2 : Nat} (hne : p ≠ q) (hp : p.size ≤ 1048576) (hq : q.size ≤ 1048576) (h : w.ownsMap Try.prog 9 Rp mb 2 (D2 p q F1 F2)) :
    (Instr.lookup 68 (.map (some mb)) (.string p) false).run Try.prog w = .ok (.pointer (some ⟨F1, 0, none⟩)) w ∧ (Instr.lookup 68 (.map (some mb)) (.string q) false).run Try.prog w = .ok (.pointer (some ⟨F2, 0, none⟩)) w := by
  obtain ⟨v, ps, h1, h2⟩ := h.lookup law9 Try.underlying68 (zero46 w) Rp_nil (key_of p hp)
  rw [at_p F1 F2 hne] at h2
  obtain ⟨v', ps', h3, h4⟩ := h.lookup law9 Try.underlying68 (zero46 w) Rp_nil (key_of q hq)
  rw [at_q p q F1 F2] at h4
  rw [Rp_inv h2] at h1
  rw [Rp_inv h4] at h3
  exact ⟨h1, h3⟩

/-- The two stores. -/
theorem store_p {w : World} {mb : Nat} {p : ByteArray} {F1 : Nat} (hp : p.size ≤ 1048576) (h : w.ownsMap Try.prog 9 Rp mb 0 D0) :
    ∃ w', (Instr.mapUpdate 68 (.map (some mb)) (.string p) (.pointer (some ⟨F1, 0, none⟩))).run Try.prog w = .ok () w' ∧ w'.ownsMap Try.prog 9 Rp mb 1 (D1 p F1) ∧ w.grownBy w' (some mb) :=
  h.update law9 Try.underlying68 (by unfold maxLen; omega) (key_of p hp) (Rp_at F1)

theorem store_q {w : World} {mb : Nat} {p q : ByteArray} {F1 F2 : Nat} (hq : q.size ≤ 1048576) (h : w.ownsMap Try.prog 9 Rp mb 1 (D1 p F1)) :
    ∃ w', (Instr.mapUpdate 68 (.map (some mb)) (.string q) (.pointer (some ⟨F2, 0, none⟩))).run Try.prog w = .ok () w' ∧ w'.ownsMap Try.prog 9 Rp mb 2 (D2 p q F1 F2) ∧ w.grownBy w' (some mb) :=
  h.update law9 Try.underlying68 (by unfold maxLen; omega) (key_of q hq) (Rp_at F2)

theorem run_makeMap2 (n : Int) (w : World) : (Instr.makeMap 68 (some (.int .i64 n))).run Try.prog w = .ok (.map (some w.heap.size)) (w.alloc (.map #[] 0)) := by kernel_rfl

theorem D2_eq {p q : ByteArray} (F1 F2 : Nat) (h : p ≠ q) : D2 p q F1 F2 = .map (DataW.insert (kstr q, .lit (.int .i64 F2)) [(kstr p, .lit (.int .i64 F1))]) := by
  have hs : (kstr p).sameKey (kstr q) = false := by
    cases e : (kstr p).sameKey (kstr q) with
    | false => rfl
    | true => exact absurd (WideAt.sameKey_eq e) (kstr_ne h)
  show DataW.map (DataW.insert (kstr q, .lit (.int .i64 F2)) ([(kstr p, DataW.lit (.int .i64 F1))].filter fun x => !x.1.sameKey (kstr q))) = _
  simp [hs]

theorem keys_perm {p q : ByteArray} (F1 F2 : Nat) (h : p ≠ q) : (Go.strKeys (D2 p q F1 F2)).Perm [q.data.toList, p.data.toList] ∧ Maps.size (D2 p q F1 F2) = 2 := by
  rw [D2_eq F1 F2 h]
  have hp := WideShapes.insert_perm (kstr q, (DataW.lit (.int .i64 F2) : DataW Unit)) [(kstr p, .lit (.int .i64 F1))]
  constructor
  · exact hp.map (fun x => Go.strOf x.1)
  · show (DataW.insert _ _).length = 2
    rw [hp.length_eq]
    rfl

/-- Two names, sorted. -/
theorem sorted_two {ss : List (List UInt8)} {p q : ByteArray} (F1 F2 : Nat) (h : p ≠ q) (hs : ss.Perm (Go.strKeys (D2 p q F1 F2))) :
    ss.mergeSort (fun x y => decide (x ≤ y)) = if q.data.toList < p.data.toList then [q.data.toList, p.data.toList] else [p.data.toList, q.data.toList] := by
  have tr : ∀ a b c : List UInt8, leB a b = true → leB b c = true → leB a c = true := fun a b c h1 h2 => by simp only [leB, decide_eq_true_eq] at *; exact List.le_trans h1 h2
  have to : ∀ a b : List UInt8, (leB a b || leB b a) = true := fun a b => by simp only [leB, Bool.or_eq_true, decide_eq_true_eq]; exact List.le_total a b
  have hp := hs.trans (keys_perm F1 F2 h).1
  by_cases hlt : q.data.toList < p.data.toList
  · rw [if_pos hlt]
    refine List.Perm.eq_of_pairwise (le := fun a b => leB a b = true) (fun a b _ _ h1 h2 => ?_) (List.pairwise_mergeSort tr to ss) ?_ ((List.mergeSort_perm ss leB).trans hp)
    · simp only [leB, decide_eq_true_eq] at h1 h2
      exact List.le_antisymm h1 h2
    · refine List.pairwise_cons.2 ⟨fun b hb => ?_, List.pairwise_singleton _ _⟩
      simp at hb
      subst hb
      simp only [leB, decide_eq_true_eq]
      exact List.le_of_lt hlt
  · rw [if_neg hlt]
    refine List.Perm.eq_of_pairwise (le := fun a b => leB a b = true) (fun a b _ _ h1 h2 => ?_) (List.pairwise_mergeSort tr to ss) ?_ (((List.mergeSort_perm ss leB).trans hp).trans (List.Perm.swap _ _ _))
    · simp only [leB, decide_eq_true_eq] at h1 h2
      exact List.le_antisymm h1 h2
    · refine List.pairwise_cons.2 ⟨fun b hb => ?_, List.pairwise_singleton _ _⟩
      simp at hb
      subst hb
      simp only [leB, decide_eq_true_eq]
      exact List.not_lt.1 hlt

end Go.Proofs.Qxb6613313a
