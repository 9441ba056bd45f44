/-
  THE EXPRESSIONS AS THEY LIE IN MEMORY; THE SMALL SUMS.
-/
import Derived.Test.Qxb6613313aProg
import Derived.WalkKit
import Derived.WalkSpells
import Derived.WalkLawsBesides
import Derived.Maps.OwnSet
namespace Go.Proofs.Qxb6613313a
open Go.RowKit

/-- One expression. -/
structure Ex where
  attr : List ByteArray
  op : ByteArray
  val : ByteArray

def Ex.zero : Ex := ⟨[], ⟨#[]⟩, ⟨#[]⟩⟩

/-- A []string in blocks below B. -/
def SRow (B : Nat) (w : World) (a : Option Addr) (len cap b o : Nat) (xs : List ByteArray) : Prop :=
  xs.length = len ∧ len ≤ cap ∧ cap ≤ maxLen ∧ (0 < len → a = some ⟨b, o, none⟩ ∧ b < B) ∧ ∀ j, j < len → w.cell? ⟨b, o + j, none⟩ = some (.string (xs.getD j ⟨#[]⟩))

/-- Expression number i of a row of them. -/
def ECell (B : Nat) (w : World) (b o : Nat) (e : Ex) : Prop :=
  ∃ a len cap b' o', w.cell? ⟨b, o, none⟩ = some (.slice a len cap) ∧ SRow B w a len cap b' o' e.attr ∧ w.cell? ⟨b, o + 1, none⟩ = some (.string e.op) ∧ w.cell? ⟨b, o + 2, none⟩ = some (.string e.val)

/-- A []Expr in blocks below B. -/
def ERow (B : Nat) (w : World) (a : Option Addr) (len cap b o : Nat) (es : List Ex) : Prop :=
  es.length = len ∧ len ≤ cap ∧ cap ≤ maxLen ∧ (0 < len → a = some ⟨b, o, none⟩ ∧ b < B) ∧ ∀ i, i < len → ECell B w b (o + i * 3) (es.getD i Ex.zero)

theorem SRow.kept {B : Nat} {w w' : World} {a : Option Addr} {len cap b o : Nat} {xs : List ByteArray} (h : SRow B w a len cap b o xs) (hb : Below B w w') : SRow B w' a len cap b o xs := by
  obtain ⟨h1, h2, h3, h4, h5⟩ := h
  refine ⟨h1, h2, h3, h4, fun j hj => ?_⟩
  have hlt : b < B := (h4 (by omega)).2
  rw [hb.cell (p := ⟨b, o + j, none⟩) hlt]
  exact h5 j hj

theorem ECell.kept {B : Nat} {w w' : World} {b o : Nat} {e : Ex} (h : ECell B w b o e) (hlt : b < B) (hb : Below B w w') : ECell B w' b o e := by
  obtain ⟨a, len, cap, b', o', h1, h2, h3, h4⟩ := h
  exact ⟨a, len, cap, b', o', by rw [hb.cell (p := ⟨b, o, none⟩) hlt]; exact h1, h2.kept hb, by rw [hb.cell (p := ⟨b, o + 1, none⟩) hlt]; exact h3, by rw [hb.cell (p := ⟨b, o + 2, none⟩) hlt]; exact h4⟩

theorem ERow.kept {B : Nat} {w w' : World} {a : Option Addr} {len cap b o : Nat} {es : List Ex} (h : ERow B w a len cap b o es) (hb : Below B w w') : ERow B w' a len cap b o es := by
  obtain ⟨h1, h2, h3, h4, h5⟩ := h
  exact ⟨h1, h2, h3, h4, fun i hi => (h5 i hi).kept (h4 (by omega)).2 hb⟩

theorem SRow.mono {B B' : Nat} {w : World} {a : Option Addr} {len cap b o : Nat} {xs : List ByteArray} (h : SRow B w a len cap b o xs) (hB : B ≤ B') : SRow B' w a len cap b o xs := by
  obtain ⟨h1, h2, h3, h4, h5⟩ := h
  exact ⟨h1, h2, h3, fun hl => ⟨(h4 hl).1, Nat.lt_of_lt_of_le (h4 hl).2 hB⟩, h5⟩

theorem ERow.mono {B B' : Nat} {w : World} {a : Option Addr} {len cap b o : Nat} {es : List Ex} (h : ERow B w a len cap b o es) (hB : B ≤ B') : ERow B' w a len cap b o es := by
  obtain ⟨h1, h2, h3, h4, h5⟩ := h
  refine ⟨h1, h2, h3, fun hl => ⟨(h4 hl).1, Nat.lt_of_lt_of_le (h4 hl).2 hB⟩, fun i hi => ?_⟩
  obtain ⟨a', len', cap', b', o', g1, g2, g3, g4⟩ := h5 i hi
  exact ⟨a', len', cap', b', o', g1, g2.mono hB, g3, g4⟩

/-- Part of a row. -/
theorem ERow.take {B : Nat} {w : World} {a : Option Addr} {len cap b o : Nat} {es : List Ex} (h : ERow B w a len cap b o es) (k : Nat) (hk : k ≤ len) : ERow B w a k cap b o (es.take k) := by
  obtain ⟨h1, h2, h3, h4, h5⟩ := h
  refine ⟨by simp; omega, by omega, h3, fun hl => h4 (by omega), fun i hi => ?_⟩
  have e : (es.take k).getD i Ex.zero = es.getD i Ex.zero := by simp [List.getD, hi]
  rw [e]
  exact h5 i (by omega)

theorem ERow.drop {B : Nat} {w : World} {a a' : Option Addr} {len cap b o : Nat} {es : List Ex} (h : ERow B w a len cap b o es) (k : Nat) (hk : k ≤ len) (ha : k < len → a' = some ⟨b, o + k * 3, none⟩) : ERow B w a' (len - k) (cap - k) b (o + k * 3) (es.drop k) := by
  obtain ⟨h1, h2, h3, h4, h5⟩ := h
  refine ⟨by simp; omega, by omega, by omega, fun hl => ⟨ha (by omega), (h4 (by omega)).2⟩, fun i hi => ?_⟩
  have e : (es.drop k).getD i Ex.zero = es.getD (k + i) Ex.zero := by simp [List.getD]
  rw [e]
  have := h5 (k + i) (by omega)
  rwa [show o + (k + i) * 3 = o + k * 3 + i * 3 by omega] at this

/-! ### sizes -/
def lens : List ByteArray → Int
  | [] => 0
  | x :: xs => (x.size : Int) + lens xs

def esize (e : Ex) : Int := 16 * (e.attr.length : Int) + lens e.attr + (e.op.size : Int) + (e.val.size : Int)

def esizes : List Ex → Int
  | [] => 0
  | e :: es => esize e + esizes es

def lensTo (xs : List ByteArray) : Nat → Int
  | 0 => 0
  | k + 1 => lensTo xs k + ((xs.getD k ⟨#[]⟩).size : Int)

def esizesTo (es : List Ex) : Nat → Int
  | 0 => 0
  | k + 1 => esizesTo es k + esize (es.getD k Ex.zero)

theorem lensTo_cons (x : ByteArray) (xs : List ByteArray) : ∀ k, lensTo (x :: xs) (k + 1) = (x.size : Int) + lensTo xs k
  | 0 => by simp [lensTo]
  | k + 1 => by
    show lensTo (x :: xs) (k + 1) + _ = _ + (lensTo xs k + _)
    rw [lensTo_cons x xs k]
    simp
    omega

theorem lensTo_all : ∀ xs : List ByteArray, lensTo xs xs.length = lens xs
  | [] => rfl
  | x :: xs => by rw [List.length_cons, lensTo_cons, lensTo_all xs]; rfl

theorem esizesTo_cons (x : Ex) (xs : List Ex) : ∀ k, esizesTo (x :: xs) (k + 1) = esize x + esizesTo xs k
  | 0 => by simp [esizesTo]
  | k + 1 => by
    show esizesTo (x :: xs) (k + 1) + _ = _ + (esizesTo xs k + _)
    rw [esizesTo_cons x xs k]
    simp
    omega

theorem esizesTo_all : ∀ xs : List Ex, esizesTo xs xs.length = esizes xs
  | [] => rfl
  | x :: xs => by rw [List.length_cons, esizesTo_cons, esizesTo_all xs]; rfl

theorem lens_nonneg : ∀ xs : List ByteArray, 0 ≤ lens xs
  | [] => Int.le_refl _
  | x :: xs => by have := lens_nonneg xs; simp only [lens]; omega

theorem lensTo_nonneg (xs : List ByteArray) : ∀ k, 0 ≤ lensTo xs k
  | 0 => Int.le_refl _
  | k + 1 => by have := lensTo_nonneg xs k; simp only [lensTo]; omega

theorem esize_nonneg (e : Ex) : 0 ≤ esize e := by have := lens_nonneg e.attr; unfold esize; omega

theorem esizesTo_nonneg (es : List Ex) : ∀ k, 0 ≤ esizesTo es k
  | 0 => Int.le_refl _
  | k + 1 => by have := esizesTo_nonneg es k; have := esize_nonneg (es.getD k Ex.zero); simp only [esizesTo]; omega

end Go.Proofs.Qxb6613313a
