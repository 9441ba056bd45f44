/-
  zzAppendParts: WHAT IT BUILDS.
-/
import Derived.Test.Qxb6613313aData
import Derived.Maps.AppendAt
namespace Go.Proofs.Qxb6613313a
open Go.RowKit

theorem Try.info9 : (Try.prog.info? 9).map (fun i => (i.zero, i.size, i.bytes)) = some (some (.string ⟨#[]⟩), 1, 16) := by kernel_rfl
theorem Try.info32 : (Try.prog.info? 32).map (fun i => (i.zero, i.size, i.bytes)) = some (some (.slice none 0 0), 1, 24) := by kernel_rfl

/-- Two slices that lie in no common block. -/
def Apart (u v : Value) : Prop := ∀ g, u.ownBlock = some g → v.ownBlock ≠ some g

theorem Apart.symm {u v : Value} (h : Apart u v) : Apart v u := fun g h1 h2 => h g h2 h1
theorem Apart.ne {u v : Value} (h : Apart u v) : u.ownBlock = none ∨ u.ownBlock ≠ v.ownBlock := by
  cases hu : u.ownBlock with
  | none => exact Or.inl rfl
  | some g => exact Or.inr (fun e => h g hu e.symm)
theorem Apart.nil (v : Value) : Apart (.slice none 0 0) v := fun g h => by cases h

theorem Apart.moved {w : World} {base : Nat} {e : TypeId} {s : Nat} {u v v' : Value} {n N : Nat} {xs : List Value} (ho : w.ownsRow base e s u n xs) (hN : w.heap.size ≤ N) (h : Apart u v) (hl : v'.ownBlock = v.ownBlock ∨ v'.ownBlock = some N) : Apart u v' := by
  intro g hg e1
  rcases hl with hl | hl
  · exact h g hg (hl ▸ e1)
  · rw [hl] at e1
    cases e1
    have := (ho.lt _ hg).2
    omega

def strs (xs : List ByteArray) : List Value := xs.map .string

/-- A part's own attribute row. -/
def AttrOwn (w : World) (base : Nat) (va vo vv x : Value) (e : Ex) : Prop :=
  w.ownsRow base 9 1 x e.attr.length (strs e.attr) ∧ Apart x va ∧ Apart x vo ∧ Apart x vv

/-- The three slices, and what they hold. -/
structure Parts (w : World) (base : Nat) (va vo vv : Value) (A : List Value) (L : List Ex) : Prop where
  attrs : w.ownsRow base 32 1 va L.length A
  ops : w.ownsRow base 9 1 vo L.length (strs (L.map (·.op)))
  vals : w.ownsRow base 9 1 vv L.length (strs (L.map (·.val)))
  ao : Apart va vo
  av : Apart va vv
  ov : Apart vo vv
  each : ∀ (i : Nat) (x : Value) (e : Ex), A[i]? = some x → L[i]? = some e → AttrOwn w base va vo vv x e

theorem Parts.nil (w : World) (base : Nat) : Parts w base (.slice none 0 0) (.slice none 0 0) (.slice none 0 0) [] [] :=
  ⟨World.ownsRow_nil _ _ _ _, World.ownsRow_nil _ _ _ _, World.ownsRow_nil _ _ _ _, Apart.nil _, Apart.nil _, Apart.nil _, fun i x e h => by simp at h⟩

theorem Parts.len {w : World} {base : Nat} {va vo vv : Value} {A : List Value} {L : List Ex} (h : Parts w base va vo vv A L) : A.length = L.length := by
  have := h.attrs.1
  omega

/-- Nothing of it is touched by what goes on in other blocks. -/
theorem Parts.kept {w w' : World} {base B : Nat} {va vo vv : Value} {A : List Value} {L : List Ex} (h : Parts w base va vo vv A L) (hb : Below B w w') (hB : w.heap.size ≤ B) : Parts w' base va vo vv A L := by
  have hg : w.grownBy w' none := ⟨hb.os, hb.tape, hb.output, hb.size, fun k hk _ => hb.block k (by omega)⟩
  have hn : ∀ v : Value, v.ownBlock = none ∨ v.ownBlock ≠ none := fun v => by cases v.ownBlock <;> simp
  exact ⟨h.attrs.kept hg (hn _), h.ops.kept hg (hn _), h.vals.kept hg (hn _), h.ao, h.av, h.ov, fun i x e h1 h2 => by
    obtain ⟨r1, r2⟩ := h.each i x e h1 h2
    exact ⟨r1.kept hg (hn _), r2⟩⟩

/-- ONE PART MORE: the attribute's row c lies apart; the three appends, one behind the other. -/
theorem Parts.snoc {w w1 w2 w3 : World} {base : Nat} {va vo vv va' vo' vv' c : Value} {A : List Value} {L : List Ex} {e : Ex} {N1 N2 N3 : Nat}
    (h : Parts w base va vo vv A L) (hc : AttrOwn w base va vo vv c e)
    (z1 : w.heap.size ≤ N1) (z2 : w1.heap.size ≤ N2) (z3 : w2.heap.size ≤ N3)
    (ha : w1.ownsRow base 32 1 va' (L.length + 1) (A ++ [c])) (g1 : w.grownBy w1 va.ownBlock) (l1 : va'.ownBlock = va.ownBlock ∨ va'.ownBlock = some N1)
    (ho : w2.ownsRow base 9 1 vo' (L.length + 1) (strs (L.map (·.op)) ++ [.string e.op])) (g2 : w1.grownBy w2 vo.ownBlock) (l2 : vo'.ownBlock = vo.ownBlock ∨ vo'.ownBlock = some N2)
    (hv : w3.ownsRow base 9 1 vv' (L.length + 1) (strs (L.map (·.val)) ++ [.string e.val])) (g3 : w2.grownBy w3 vv.ownBlock) (l3 : vv'.ownBlock = vv.ownBlock ∨ vv'.ownBlock = some N3) :
    Parts w3 base va' vo' vv' (A ++ [c]) (L ++ [e]) := by
  have moveA : ∀ {x : Value} {E : TypeId} {n : Nat} {xs : List Value}, w.ownsRow base E 1 x n xs → Apart x va → Apart x vo → Apart x vv →
      w3.ownsRow base E 1 x n xs ∧ Apart x va' ∧ Apart x vo' ∧ Apart x vv' := fun {x E n xs} hx a1 a2 a3 => by
    have x1 := hx.kept g1 a1.ne
    have x2 := x1.kept g2 a2.ne
    have x3 := x2.kept g3 a3.ne
    exact ⟨x3, a1.moved hx z1 l1, a2.moved x1 z2 l2, a3.moved x2 z3 l3⟩
  have o1 := h.ops.kept g1 h.ao.symm.ne
  have v1 := h.vals.kept g1 h.av.symm.ne
  have v2 := v1.kept g2 h.ov.symm.ne
  -- vo apart va'; vv apart va'
  have oa : Apart vo va' := h.ao.symm.moved h.ops z1 l1
  have vva : Apart vv va' := h.av.symm.moved h.vals z1 l1
  have vvo : Apart vv vo' := h.ov.symm.moved v1 z2 l2
  have ao2 : Apart va' vo' := oa.symm.moved ha z2 l2
  have a2 := ha.kept g2 oa.symm.ne
  have av2 : Apart va' vv' := vva.symm.moved a2 z3 l3
  have a3 := a2.kept g3 vva.symm.ne
  have ov2 : Apart vo' vv' := vvo.symm.moved ho z3 l3
  have o3 := ho.kept g3 vvo.symm.ne
  refine ⟨by simpa using a3, by simpa [strs] using o3, by simpa [strs] using hv, ao2, av2, ov2, fun i x e' h1 h2 => ?_⟩
  by_cases hi : i < L.length
  · rw [List.getElem?_append_left (by rw [h.len]; exact hi)] at h1
    rw [List.getElem?_append_left hi] at h2
    obtain ⟨r1, r2, r3, r4⟩ := h.each i x e' h1 h2
    exact moveA r1 r2 r3 r4
  · have hi2 : i = L.length := by
      rcases Nat.lt_or_ge i (L ++ [e]).length with hlt | hge
      · simp at hlt; omega
      · rw [List.getElem?_eq_none hge] at h2; cases h2
    subst hi2
    rw [← h.len] at h1
    simp at h1 h2
    subst h1
    subst h2
    obtain ⟨r1, r2, r3, r4⟩ := hc
    exact moveA r1 r2 r3 r4

end Go.Proofs.Qxb6613313a
