/-
  THE CLAIMS OPENED: from the reading of a []ZZClaim to its cells.
-/
import Derived.Test.Qxb6613079aRows
import Derived.Test.Qxb6613079aPuts
import Derived.ProofKit
import Derived.OpenShut
import Derived.ShutString
import Derived.ChangeOld
import Derived.Deep.Slices
import Derived.Lib.SmallJoins
namespace Go.Proofs.Qxb6613079a
open Go.ChangeShapes Go.WideShapes Go.ChangeAt Go.RowKit Go.Deep Go.Joins

theorem cells36 : Try.prog.cellsOf 36 = 4 := by kernel_rfl
theorem cells2 : Try.prog.cellsOf 2 = 1 := by kernel_rfl
theorem cells5 : Try.prog.cellsOf 5 = 1 := by kernel_rfl
theorem cells9 : Try.prog.cellsOf 9 = 1 := by kernel_rfl

theorem cl_of {H : Type} {enc : TypeId × Value → H} {w : World} {base : Nat} {sp : Nat → Bool} {held : Bool} {n : Nat} {cs : List Value} {x : DataW H × List MemPlace}
    (h : DataW.trod enc Try.prog w base sp held n 36 cs = some x) : ∃ c : Cl, cs = [.int .i64 c.key, .int .u8 c.kind, .string c.text, .int .i64 c.num] := by
  obtain ⟨y0, y1, y2, y3, m, _, hl, h0, h1, h2, h3⟩ := trod_struct4 Try.underlying36 h
  rw [cells36] at hl
  match cs, hl with
  | [c0, c1, c2, c3], _ =>
    simp [cells2, cells5, cells9] at h0 h1 h2 h3
    obtain ⟨a0, e0, _, _⟩ := DataW.trod_int Try.underlying2 h0
    obtain ⟨a1, e1, _, _⟩ := DataW.trod_int Try.underlying5 h1
    obtain ⟨a2, e2, _, _⟩ := DataW.trod_string Try.underlying9 h2
    obtain ⟨a3, e3, _, _⟩ := DataW.trod_int Try.underlying2 h3
    simp at e0 e1 e2 e3
    subst e0 e1 e2 e3
    exact ⟨⟨a0, a1, a2, a3⟩, rfl⟩

theorem row_of {H : Type} {enc : TypeId × Value → H} {w : World} {a : Option Addr} {len cap : Nat} {d : DataW H} {p : List MemPlace}
    (h : DataW.Trod enc Try.prog w 0 (fun _ => true) true 34 (.slice a len cap) d p) : ∃ b off cs, Row w a len b off cs := by
  obtain ⟨fuel, hf⟩ := h
  rcases open_slice Try.underlying34 hf with ⟨hcs, _⟩ | ⟨x, l, c, m, n, D, Pl, hcs, _, hl, hm, hmm, _, hx⟩
  · simp [Value.cells] at hcs
    obtain ⟨rfl, rfl, rfl⟩ := hcs
    exact ⟨0, 0, [], by unfold maxLen; omega, fun h => absurd h (by omega), fun i hi => absurd hi (by omega)⟩
  · simp [Value.cells] at hcs
    obtain ⟨rfl, rfl, rfl⟩ := hcs
    rw [cells36] at hx
    have hm' : m = cap := by simpa using hmm
    subst hm'
    by_cases h0 : len = 0
    · subst h0
      exact ⟨0, 0, [], by omega, fun h => absurd h (by omega), fun i hi => absurd hi (by omega)⟩
    · have hel : ∀ i, i < len → ∃ c : Cl, w.cells? 0 (x.add (i * 4)) 4 = some [.int .i64 c.key, .int .u8 c.kind, .string c.text, .int .i64 c.num] := fun i hi => by
        obtain ⟨cs', h1, h2⟩ := hx i (by omega)
        obtain ⟨c, rfl⟩ := cl_of h2
        exact ⟨c, h1⟩
      obtain ⟨f, hfc⟩ : ∃ f : Nat → Cl, ∀ i, i < len → w.cells? 0 (x.add (i * 4)) 4 = some [.int .i64 (f i).key, .int .u8 (f i).kind, .string (f i).text, .int .i64 (f i).num] := by
        refine ⟨fun i => if hi : i < len then Classical.choose (hel i hi) else Cl.zero, fun i hi => ?_⟩
        simp only [dif_pos hi]
        exact Classical.choose_spec (hel i hi)
      obtain ⟨b, off, spot⟩ := x
      have hsp : spot = none := by
        have h1 := (World.cells?_some (hfc 0 (by omega))).2.2 0 (by omega)
        simpa [Addr.add] using World.cell?_spot h1
      subst hsp
      refine ⟨b, off, (List.range len).map f, by omega, fun _ => rfl, fun i hi => ?_⟩
      have hg : ((List.range len).map f).getD i Cl.zero = f i := by simp [List.getD, hi]
      rw [hg]
      have hc := (World.cells?_some (hfc i hi)).2.2
      have e : ∀ j, (Addr.mk b off none).add j = ⟨b, off + j, none⟩ := fun j => by
        unfold Addr.add
        by_cases hj : j = 0
        · subst hj; rfl
        · rw [if_neg hj]
      have e2 : ∀ i j, (Addr.mk b i none).add j = ⟨b, i + j, none⟩ := fun i j => by
        unfold Addr.add
        by_cases hj : j = 0
        · subst hj; rfl
        · rw [if_neg hj]
      rw [e] at hc
      have c0 := hc 0 (by omega)
      have c1 := hc 1 (by omega)
      have c2 := hc 2 (by omega)
      have c3 := hc 3 (by omega)
      rw [e2] at c0 c1 c2 c3
      exact ⟨c0, c1, c2, c3⟩

theorem below_of_grown {w w' : World} (h : w.grownBy w' none) : Below w.heap.size w w' := ⟨h.os, h.tape, h.output, h.size, fun k hk => h.block k hk (by simp)⟩

theorem own : ownKnob Try.prog.godebug = none := by kernel_rfl
theorem laidOut : laidOutB Try.prog = true := by kernel_rfl

end Go.Proofs.Qxb6613079a
