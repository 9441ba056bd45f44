/-
  BEACONS AND LINKS AS THEY LIE IN MEMORY; WHAT A STEP LEAVES AS IT WAS.
-/
import Derived.Test.Qxb6613544aProg
import Derived.Test.Qxb6613544aFloat
import Derived.WalkKit
import Derived.WalkSpells
import Derived.WalkLawsBesides
import Derived.Maps.OwnSet
import Derived.Maps.AppendAt
import Derived.Deep.DeepAppendRoom
import Derived.Deep.RegionLaw
import Derived.OneCell
import Derived.Deep.CutBlock
import Derived.Deep.DeepCutAuto
import Derived.Deep.RegionHeld3
namespace Go.Proofs.Qxb6613544a
open Go.RowKit

/-- One beacon. -/
structure Bc where
  num : Int
  tick : Int
  acked : Bool

def Bc.zero : Bc := ⟨0, 0, false⟩
def bcells (b : Bc) : List Value := [.int .u64 b.num, .int .u64 b.tick, .bool b.acked]

def brow : List Bc → List Value
  | [] => []
  | b :: bs => bcells b ++ brow bs

theorem brow_length : ∀ bs : List Bc, (brow bs).length = bs.length * 3
  | [] => rfl
  | b :: bs => by
    simp only [brow, List.length_append, brow_length bs, List.length_cons, bcells, List.length_nil]
    omega

theorem brow_append : ∀ bs cs : List Bc, brow (bs ++ cs) = brow bs ++ brow cs
  | [], _ => rfl
  | b :: bs, cs => by simp only [List.cons_append, brow, brow_append bs cs, List.append_assoc]

theorem brow_get : ∀ (bs : List Bc) (k r : Nat), k < bs.length → r < 3 → (brow bs)[k * 3 + r]? = (bcells (bs.getD k Bc.zero))[r]?
  | b :: bs, 0, r, _, hr => by
    rw [brow, List.getElem?_append_left (by simp [bcells]; omega)]
    simp
  | b :: bs, k + 1, r, hk, hr => by
    have e : (k + 1) * 3 + r = (k * 3 + r) + 3 := by omega
    rw [brow, e, List.getElem?_append_right (by simp [bcells])]
    rw [show k * 3 + r + 3 - (bcells b).length = k * 3 + r by simp [bcells]]
    rw [brow_get bs k r (by simpa using hk) hr]
    simp

theorem brow_one (bs : List Bc) : ∀ u ∈ brow bs, u.oneCell' = true := by
  induction bs with
  | nil => intro u hu; simp [brow] at hu
  | cons b bs ih =>
    intro u hu
    rw [brow, List.mem_append] at hu
    rcases hu with hu | hu
    · simp [bcells] at hu
      rcases hu with rfl | rfl | rfl <;> rfl
    · exact ih u hu

theorem Try.info79 : (Try.prog.info? 79).map (fun i => (i.zero, i.size, i.bytes)) = some (some (.agg #[.int .u64 0, .int .u64 0, .bool false]), 3, 24) := by kernel_rfl

/-! ### What a step leaves as it was -/
/-- All blocks that were there, but those of S, are as they were. -/
structure Only (S : Nat → Prop) (w w' : World) : Prop where
  os : w'.os = w.os
  tape : w'.tape = w.tape
  output : w'.output = w.output
  size : w.heap.size ≤ w'.heap.size
  block : ∀ k, k < w.heap.size → ¬ S k → w'.heap[k]? = w.heap[k]?

theorem Only.refl (S : Nat → Prop) (w : World) : Only S w w := ⟨rfl, rfl, rfl, Nat.le_refl _, fun _ _ _ => rfl⟩

theorem Only.trans {S S' : Nat → Prop} {a b c : World} (h : Only S a b) (k : Only S' b c) (hs : ∀ x, S' x → S x ∨ a.heap.size ≤ x) : Only S a c :=
  ⟨k.os.trans h.os, k.tape.trans h.tape, k.output.trans h.output, Nat.le_trans h.size k.size, fun i hi hn => (k.block i (Nat.lt_of_lt_of_le hi h.size) (fun hc => by rcases hs i hc with h1 | h1; exact hn h1; omega)).trans (h.block i hi hn)⟩

theorem Only.mono {S S' : Nat → Prop} {a b : World} (h : Only S a b) (hs : ∀ x, S x → S' x) : Only S' a b :=
  ⟨h.os, h.tape, h.output, h.size, fun i hi hn => h.block i hi (fun hc => hn (hs i hc))⟩

theorem Only.ofBelow {S : Nat → Prop} {w w' : World} (h : Below w.heap.size w w') : Only S w w' := ⟨h.os, h.tape, h.output, h.size, fun k hk _ => h.block k hk⟩
theorem Only.ofGrown {w w' : World} {row : Option Nat} (h : w.grownBy w' row) : Only (fun k => row = some k) w w' := ⟨h.os, h.tape, h.output, h.size, fun k hk hn => h.block k hk (fun e => hn e.symm)⟩
theorem Only.below {S : Nat → Prop} {w w' : World} {B : Nat} (h : Only S w w') (hB : B ≤ w.heap.size) (hs : ∀ x, S x → B ≤ x) : Below B w w' :=
  ⟨h.os, h.tape, h.output, h.size, fun k hk => h.block k (by omega) (fun hc => by have := hs k hc; omega)⟩
theorem Only.drew {S : Nat → Prop} {a w : World} (h : Only S a w) : Only S a w.drew := ⟨h.os, h.tape, h.output, h.size, h.block⟩
theorem Only.alloc {S : Nat → Prop} {a w : World} (h : Only S a w) (o : Obj) : Only S a (w.alloc o) :=
  h.trans (S' := fun _ => False) ⟨rfl, rfl, rfl, by simp, fun k hk _ => Below.heap_alloc _ _ _ hk⟩ (fun _ h => h.elim)
theorem Only.setCell {S : Nat → Prop} {a w : World} (h : Only S a w) {p : Addr} (hp : S p.block ∨ a.heap.size ≤ p.block) (u : Value) : Only S a (w.setCell p u) :=
  h.trans (S' := fun k => k = p.block) ⟨rfl, rfl, rfl, by simp [World.setCell], fun k _ hn => Below.heap_setCell _ _ _ _ hn⟩ (fun x hx => by rw [hx]; exact hp)

theorem Only.cell {S : Nat → Prop} {w w' : World} (h : Only S w w') {p : Addr} (hp : p.block < w.heap.size) (hn : ¬ S p.block) : w'.cell? p = w.cell? p := World.cell?_of_block (h.block _ hp hn)
theorem Only.frozen {S : Nat → Prop} {w w' : World} (h : Only S w w') {p : Addr} (hp : p.block < w.heap.size) (hn : ¬ S p.block) : w'.frozen? p = w.frozen? p := World.frozen?_of_block (h.block _ hp hn)

theorem Only.own {S : Nat → Prop} {w w' : World} (h : Only S w w') {base : Nat} {e : TypeId} {size : Nat} {v : Value} {n : Nat} {xs : List Value} (ho : w.ownsRow base e size v n xs) (hn : ∀ k, v.ownBlock = some k → ¬ S k) : w'.ownsRow base e size v n xs := by
  refine ⟨ho.1, ?_⟩
  rcases ho.2 with h0 | ⟨g, cap, cur, rfl, hb, hg, rest⟩
  · exact .inl h0
  · refine .inr ⟨g, cap, cur, rfl, hb, ?_, rest⟩
    rw [h.block g (Array.getElem?_eq_some_iff.1 hg).1 (hn g rfl)]
    exact hg

/-! ### A row of a call's own, cut and filled -/
/-- The first m elements of a row. -/
theorem own_take {w : World} {base : Nat} {e : TypeId} {size : Nat} {g n cap m : Nat} {xs : List Value} (h : w.ownsRow base e size (.slice (some ⟨g, 0, none⟩) n cap) n xs) (hm : m ≤ n) : w.ownsRow base e size (.slice (some ⟨g, 0, none⟩) m cap) m (xs.take (m * size)) := by
  have hle : m * size ≤ n * size := Nat.mul_le_mul_right _ hm
  refine ⟨by rw [List.length_take, h.1]; omega, ?_⟩
  rcases h.2 with ⟨h0, _⟩ | ⟨g', cap', cur, hv, hb, hg, hc, hmx, hs, ht⟩
  · cases h0
  · cases hv
    refine .inr ⟨g, cap, cur, rfl, hb, hg, by omega, hmx, hs, ?_⟩
    rw [← ht, List.take_take, Nat.min_eq_left hle]

theorem own_some {w : World} {base : Nat} {e : TypeId} {size : Nat} {v : Value} {n : Nat} {xs : List Value} (h : w.ownsRow base e size v (n + 1) xs) : ∃ g cap, v = .slice (some ⟨g, 0, none⟩) (n + 1) cap ∧ base ≤ g ∧ g < w.heap.size ∧ n + 1 ≤ cap ∧ cap ≤ maxLen := by
  rcases h.2 with ⟨_, h0⟩ | ⟨g, cap, cur, rfl, hb, hg, h1, h2, _⟩
  · omega
  · exact ⟨g, cap, rfl, hb, (Array.getElem?_eq_some_iff.1 hg).1, h1, h2⟩

/-- Every cell within the capacity is there, and may be written. -/
theorem own_there {w : World} {base : Nat} {e : TypeId} {size : Nat} {g n cap : Nat} {xs : List Value} (h : w.ownsRow base e size (.slice (some ⟨g, 0, none⟩) n cap) n xs) (j : Nat) (hj : j < cap * size) : (w.cell? ⟨g, j, none⟩).isSome = true ∧ w.frozen? ⟨g, j, none⟩ = false := by
  rcases h.2 with ⟨h0, _⟩ | ⟨g', cap', cur, hv, hb, hg, hc, hmx, hs, ht⟩
  · cases h0
  · cases hv
    constructor
    · simp [World.cell?, hg]
      omega
    · simp [World.frozen?, hg]

/-- Cells behind the row's last element are written: the row is as it was. -/
theorem own_setCells {w : World} {base : Nat} {e : TypeId} {size : Nat} {g n cap : Nat} {xs : List Value} (h : w.ownsRow base e size (.slice (some ⟨g, 0, none⟩) n cap) n xs) : ∀ (vs : List Value) (o : Nat), n * size ≤ o → o + vs.length ≤ cap * size → (w.setCells g o vs).ownsRow base e size (.slice (some ⟨g, 0, none⟩) n cap) n xs
  | [], _, _, _ => h
  | v :: vs, o, ho, hl => by
    have h1 : (w.setCell ⟨g, o, none⟩ v).ownsRow base e size (.slice (some ⟨g, 0, none⟩) n cap) n xs := by
      refine ⟨h.1, ?_⟩
      rcases h.2 with ⟨h0, _⟩ | ⟨g', cap', cur, hv, hb, hg, hc, hmx, hs, ht⟩
      · cases h0
      · cases hv
        refine .inr ⟨g, cap, cur.setIfInBounds o v, rfl, hb, ?_, hc, hmx, by simpa using hs, ?_⟩
        · simp [World.setCell, Array.getElem?_modify, hg]
        · rw [← ht, Array.toList_setIfInBounds, List.take_set_of_le ho]
    exact own_setCells h1 vs (o + 1) (by omega) (by simp at hl; omega)

theorem own_alloc {w : World} {base : Nat} {e : TypeId} {size : Nat} {v : Value} {n : Nat} {xs : List Value} (h : w.ownsRow base e size v n xs) (o : Obj) : (w.alloc o).ownsRow base e size v n xs := h.alloc o

end Go.Proofs.Qxb6613544a
