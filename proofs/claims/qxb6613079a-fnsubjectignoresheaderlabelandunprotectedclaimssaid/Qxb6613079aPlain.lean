/-
  THE PLAIN LAW: no walk in sight.
-/
import Derived.Test.Qxb6613079aMaps
namespace Go.Proofs.Qxb6613079a
open Go.RowKit

/-- One claim. -/
structure Cl where
  key : Int
  kind : Int
  text : ByteArray
  num : Int

def Cl.zero : Cl := ⟨0, 0, ByteArray.empty, 0⟩

def Cl.val (c : Cl) : Value := .agg #[.int .i64 c.key, .int .u8 c.kind, .string c.text, .int .i64 c.num]

/-- What is put into the map for it. -/
def cval (c : Cl) : Value :=
  if c.kind = 0 then .iface 9 (.string c.text) else if c.kind = 1 then .iface 2 (.int .i64 c.num) else .iface 4 (.bool (c.num != 0))

/-- Its text, and whether it is one. -/
def ctext (c : Cl) : ByteArray := if c.kind = 0 then c.text else ⟨#[]⟩
def cok (c : Cl) : Bool := if c.kind = 0 then true else false

def mtext (cs : List Cl) (key : Int) : Nat → ByteArray
  | 0 => ⟨#[]⟩
  | k + 1 => if (cs.getD k Cl.zero).key = key then ctext (cs.getD k Cl.zero) else mtext cs key k

def mok (cs : List Cl) (key : Int) : Nat → Bool
  | 0 => false
  | k + 1 => if (cs.getD k Cl.zero).key = key then cok (cs.getD k Cl.zero) else mok cs key k

def cmap (cs : List Cl) : Nat → Int → Option Value
  | 0 => fun _ => none
  | k + 1 => putM (cmap cs k) (cs.getD k Cl.zero).key (cval (cs.getD k Cl.zero))

/-- The text that stands in a map's place, and whether one does. -/
def vtext : Option Value → ByteArray
  | some (.iface 9 (.string s)) => s
  | _ => ⟨#[]⟩
def vok : Option Value → Bool
  | some (.iface 9 (.string _)) => true
  | _ => false

/-- A place of a claims' map holds nothing, a text, a number or a bool. -/
def IsPlace (x : Option Value) : Prop :=
  x = none ∨ (∃ s, x = some (.iface 9 (.string s))) ∨ (∃ n, x = some (.iface 2 (.int .i64 n))) ∨ ∃ b, x = some (.iface 4 (.bool b))

theorem cval_place (c : Cl) : IsPlace (some (cval c)) := by
  unfold cval
  by_cases h0 : c.kind = 0
  · rw [if_pos h0]; exact Or.inr (Or.inl ⟨_, rfl⟩)
  · rw [if_neg h0]
    by_cases h1 : c.kind = 1
    · rw [if_pos h1]; exact Or.inr (Or.inr (Or.inl ⟨_, rfl⟩))
    · rw [if_neg h1]; exact Or.inr (Or.inr (Or.inr ⟨_, rfl⟩))

theorem put_place {m : Int → Option Value} (h : ∀ k, IsPlace (m k)) (c : Cl) (k : Int) : IsPlace (putM m c.key (cval c) k) := by
  unfold putM
  by_cases hk : k = c.key
  · rw [if_pos hk]; exact cval_place c
  · rw [if_neg hk]; exact h k

theorem cmap_place (cs : List Cl) : ∀ (k : Nat) (key : Int), IsPlace (cmap cs k key)
  | 0, _ => Or.inl rfl
  | k + 1, key => put_place (cmap_place cs k) _ key

theorem vtext_cval (c : Cl) : vtext (some (cval c)) = ctext c := by
  unfold cval ctext
  by_cases h0 : c.kind = 0
  · rw [if_pos h0, if_pos h0]; rfl
  · rw [if_neg h0, if_neg h0]
    by_cases h1 : c.kind = 1
    · rw [if_pos h1]; rfl
    · rw [if_neg h1]; rfl

theorem vok_cval (c : Cl) : vok (some (cval c)) = cok c := by
  unfold cval cok
  by_cases h0 : c.kind = 0
  · rw [if_pos h0, if_pos h0]; rfl
  · rw [if_neg h0, if_neg h0]
    by_cases h1 : c.kind = 1
    · rw [if_pos h1]; rfl
    · rw [if_neg h1]; rfl

theorem vtext_put (m : Int → Option Value) (c : Cl) (key : Int) : vtext (putM m c.key (cval c) key) = if c.key = key then ctext c else vtext (m key) := by
  unfold putM
  by_cases hk : key = c.key
  · rw [if_pos hk, if_pos hk.symm, vtext_cval]
  · rw [if_neg hk, if_neg (fun e => hk e.symm)]

theorem vok_put (m : Int → Option Value) (c : Cl) (key : Int) : vok (putM m c.key (cval c) key) = if c.key = key then cok c else vok (m key) := by
  unfold putM
  by_cases hk : key = c.key
  · rw [if_pos hk, if_pos hk.symm, vok_cval]
  · rw [if_neg hk, if_neg (fun e => hk e.symm)]

theorem vtext_cmap (cs : List Cl) (key : Int) : ∀ k, vtext (cmap cs k key) = mtext cs key k
  | 0 => rfl
  | k + 1 => by
    show vtext (putM _ _ _ key) = _
    rw [vtext_put, vtext_cmap cs key k]
    rfl

theorem vok_cmap (cs : List Cl) (key : Int) : ∀ k, vok (cmap cs k key) = mok cs key k
  | 0 => rfl
  | k + 1 => by
    show vok (putM _ _ _ key) = _
    rw [vok_put, vok_cmap cs key k]
    rfl

end Go.Proofs.Qxb6613079a
