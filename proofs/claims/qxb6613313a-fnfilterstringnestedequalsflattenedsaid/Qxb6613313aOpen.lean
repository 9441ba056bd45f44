/-
  THE EXPRESSIONS OPENED: from the reading of a []Expr to its cells; law five of a nil slice.
-/
import Derived.Test.Qxb6613313aRows
import Derived.Test.Qxb6613313aLawFive
import Derived.ProofKit
import Derived.OpenShut
import Derived.ShutString
import Derived.ChangeOld
import Derived.Deep.Slices
import Derived.Deep.Strs
namespace Go.Proofs.Qxb6613313a
open Go.ChangeShapes Go.WideShapes Go.ChangeAt Go.RowKit Go.Deep

set_option maxHeartbeats 1000000 in
set_option maxRecDepth 10000 in
theorem law5_nil (k : Int) (w : World) :
    Calls Try.prog 5 #[.slice none 0 0, .int .i64 k] w fun e w' => e = .returned (.bool true) ∧ Below w.heap.size w w' := by
  have hE : ERow w.heap.size w none 0 0 0 0 [] := ⟨rfl, Nat.le_refl _, Nat.zero_le _, fun h => absurd h (by omega), fun i hi => absurd hi (by omega)⟩
  go_enter Try.func5, Try.ntmps5
  go_wp2_with fail
  refine (bytes20_any w.heap.size none 0 0 0 0 [] k w hE).mono ?_
  rintro e w' ⟨⟨z, rfl⟩, rfl⟩
  cases z with
  | false =>
    go_wp2
    go_ret
    exact ⟨rfl, Below.refl _ _⟩
  | true =>
    go_wp2_with fail
    refine (exprBytes_any w.heap.size none 0 0 0 0 [] 0 w (by omega) (by omega) hE).mono ?_
    rintro e w' ⟨⟨t, ok, rfl, hok⟩, rfl⟩
    cases ok with
    | false =>
      go_wp2
      go_ret
      exact ⟨rfl, Below.refl _ _⟩
    | true =>
      clear hok
      by_cases k0 : k < 0
      · go_wp2
        go_ret
        exact ⟨rfl, Below.refl _ _⟩
      · by_cases k1 : (0 : Int) < k
        · go_wp2
          go_ret
          exact ⟨rfl, Below.refl _ _⟩
        · obtain rfl : k = 0 := by omega
          clear k0 k1
          go_wp2_with fail
          refine (leaf_str w.heap.size none 0 0 0 0 [] w (Nat.le_refl _) hE (by omega) (by decide)).mono ?_
          rintro e w1 ⟨F1, rfl, hB1, hc1⟩
          have HC1 : Hid _ := hc1
          clear hc1
          go_wp2_with fail
          refine Calls.mono HC1.out ?_
          rintro e w2 ⟨rfl, hB2⟩
          have hB2' := hB1.trans (hB2.mono hB1.size)
          clear HC1 hB1 hB2
          go_wp2_with fail
          refine (leaf_str w.heap.size none 0 0 0 0 [] w2 hB2'.size (hE.kept hB2') (by omega) (by decide)).mono ?_
          rintro e w3 ⟨F2, rfl, hB3, hc3⟩
          have HC3 : Hid _ := hc3
          clear hc3
          go_wp2_with fail
          refine Calls.mono HC3.out ?_
          rintro e w4 ⟨rfl, hB4⟩
          have hB4' := hB2'.trans ((hB3.trans (hB4.mono hB3.size)).mono hB2'.size)
          clear HC3 hB3 hB4 hB2'
          go_wp2_with fail
          refine (leaf_str w.heap.size none 0 0 0 0 [] w4 hB4'.size (hE.kept hB4') (by omega) (by decide)).mono ?_
          rintro e w5 ⟨F3, rfl, hB5, hc5⟩
          have HC5 : Hid _ := hc5
          clear hc5
          go_wp2_with fail
          refine Calls.mono HC5.out ?_
          rintro e w6 ⟨rfl, hB6⟩
          have hB6' := hB4'.trans ((hB5.trans (hB6.mono hB5.size)).mono hB4'.size)
          have e0 : strOf [] = ⟨#[]⟩ := rfl
          rw [e0]
          clear e0
          have hq2 : (⟨#[]⟩ : ByteArray) ++ ⟨#[]⟩ = ⟨#[]⟩ := ba_nil_app _
          go_wp2
          go_ret
          exact ⟨rfl, hB6'⟩

theorem cells51 : Try.prog.cellsOf 51 = 3 := by kernel_rfl
theorem cells32 : Try.prog.cellsOf 32 = 1 := by kernel_rfl
theorem cells9 : Try.prog.cellsOf 9 = 1 := by kernel_rfl

theorem add_none (b o j : Nat) : (Addr.mk b o none).add j = ⟨b, o + j, none⟩ := by
  unfold Addr.add
  by_cases hj : j = 0
  · subst hj; rfl
  · rw [if_neg hj]

/-- A []string as it is read. -/
theorem srow_read {H : Type} {enc : TypeId × Value → H} {w : World} {n : Nat} {c : Value} {x : DataW H × List MemPlace}
    (h : DataW.trod enc Try.prog w 0 (fun _ => true) true n 32 [c] = some x) : ∃ a len cap b o xs, c = .slice a len cap ∧ SRow w.heap.size w a len cap b o xs := by
  rcases open_slice1 Try.underlying32 cells9 h with ⟨hcs, _⟩ | ⟨ad, l, cp, m, n', V, D, Pl, hcs, _, hl, hm, hmm, _, hx⟩
  · simp at hcs
    exact ⟨none, 0, 0, 0, 0, [], hcs, rfl, Nat.le_refl _, Nat.zero_le _, fun h => absurd h (by omega), fun j hj => absurd hj (by omega)⟩
  · simp at hcs
    have hm' : m = cp := by simpa using hmm
    by_cases h0 : l = 0
    · subst h0
      exact ⟨some ad, 0, cp, 0, 0, [], hcs, rfl, hl, hm, fun h => absurd h (by omega), fun j hj => absurd hj (by omega)⟩
    · have hel : ∀ i, i < l → ∃ s : ByteArray, w.cell? (ad.add i) = some (.string s) := fun i hi => by
        obtain ⟨h1, h2⟩ := hx i (by omega)
        obtain ⟨s, e, _⟩ := DataW.trod_string Try.underlying9 h2
        simp at e
        rw [e] at h1
        exact ⟨s, h1⟩
      obtain ⟨f, hf⟩ : ∃ f : Nat → ByteArray, ∀ i, i < l → w.cell? (ad.add i) = some (.string (f i)) := by
        refine ⟨fun i => if hi : i < l then Classical.choose (hel i hi) else ⟨#[]⟩, fun i hi => ?_⟩
        simp only [dif_pos hi]
        exact Classical.choose_spec (hel i hi)
      obtain ⟨b, o, spot⟩ := ad
      have hsp : spot = none := by simpa [Addr.add] using World.cell?_spot (hf 0 (by omega))
      subst hsp
      refine ⟨some ⟨b, o, none⟩, l, cp, b, o, (List.range l).map f, hcs, by simp, hl, hm, fun _ => ⟨rfl, ?_⟩, fun j hj => ?_⟩
      · have := hf 0 (by omega)
        rw [add_none] at this
        exact World.block_lt_of_cell? w _ this
      · have hg : ((List.range l).map f).getD j ⟨#[]⟩ = f j := by simp [List.getD, hj]
        rw [hg, ← add_none]
        exact hf j hj

set_option maxRecDepth 100000 in
theorem ecell_read {H : Type} {enc : TypeId × Value → H} {w : World} {n : Nat} {b o : Nat} {cs : List Value} {x : DataW H × List MemPlace} (hc : w.cells? 0 ⟨b, o, none⟩ 3 = some cs)
    (h : DataW.trod enc Try.prog w 0 (fun _ => true) true n 51 cs = some x) : ∃ e : Ex, ECell w.heap.size w b o e := by
  obtain ⟨y0, y1, y2, m, _, hl, h0, h1, h2⟩ := trod_struct3 Try.underlying51 h
  rw [cells51] at hl
  match cs, hl with
  | [c0, c1, c2], _ =>
    simp [cells32, cells9] at h0 h1 h2
    obtain ⟨a, len, cap, b', o', xs, rfl, hS⟩ := srow_read h0
    obtain ⟨s1, e1, _, _⟩ := DataW.trod_string Try.underlying9 h1
    obtain ⟨s2, e2, _, _⟩ := DataW.trod_string Try.underlying9 h2
    simp at e1 e2
    subst e1 e2
    have hcell := (World.cells?_some hc).2.2
    have g0 := hcell 0 (by omega)
    have g1 := hcell 1 (by omega)
    have g2 := hcell 2 (by omega)
    rw [add_none] at g0 g1 g2
    exact ⟨⟨xs, s1, s2⟩, a, len, cap, b', o', g0, hS, g1, g2⟩

/-- A []Expr as it is read: nil, or a row. -/
theorem erow_read {H : Type} {enc : TypeId × Value → H} {w : World} {a : Option Addr} {len cap : Nat} {d : DataW H} {p : List MemPlace}
    (h : DataW.Trod enc Try.prog w 0 (fun _ => true) true 43 (.slice a len cap) d p) : (a = none ∧ len = 0 ∧ cap = 0) ∨ ∃ x b o es, a = some x ∧ ERow w.heap.size w (some x) len cap b o es := by
  obtain ⟨fuel, hf⟩ := h
  rcases open_slice Try.underlying43 hf with ⟨hcs, _⟩ | ⟨x, l, c, m, n, D, Pl, hcs, _, hl, hm, hmm, _, hx⟩
  · simp [Value.cells] at hcs
    exact Or.inl hcs
  · simp [Value.cells] at hcs
    obtain ⟨rfl, rfl, rfl⟩ := hcs
    right
    rw [cells51] at hx
    have hm' : m = cap := by simpa using hmm
    subst hm'
    by_cases h0 : len = 0
    · subst h0
      exact ⟨x, 0, 0, [], rfl, rfl, hl, hm, fun h => absurd h (by omega), fun i hi => absurd hi (by omega)⟩
    · obtain ⟨b, o, spot⟩ := x
      have hsp : spot = none := by
        obtain ⟨cs', h1, h2⟩ := hx 0 (by omega)
        have h3 := (World.cells?_some h1).2
        have h4 := h3.2 0 (by omega)
        match cs', h3.1 with
        | [c0, c1, c2], _ => simpa [Addr.add] using World.cell?_spot h4
      subst hsp
      have hel : ∀ i, i < len → ∃ e : Ex, ECell w.heap.size w b (o + i * 3) e := fun i hi => by
        obtain ⟨cs', h1, h2⟩ := hx i (by omega)
        rw [add_none] at h1
        exact ecell_read h1 h2
      obtain ⟨f, hfc⟩ : ∃ f : Nat → Ex, ∀ i, i < len → ECell w.heap.size w b (o + i * 3) (f i) := by
        refine ⟨fun i => if hi : i < len then Classical.choose (hel i hi) else Ex.zero, fun i hi => ?_⟩
        simp only [dif_pos hi]
        exact Classical.choose_spec (hel i hi)
      refine ⟨⟨b, o, none⟩, b, o, (List.range len).map f, rfl, by simp, hl, hm, fun _ => ⟨rfl, ?_⟩, fun i hi => ?_⟩
      · obtain ⟨_, _, _, _, _, g0, _⟩ := hfc 0 (by omega)
        exact World.block_lt_of_cell? w _ g0
      · have hg : ((List.range len).map f).getD i Ex.zero = f i := by simp [List.getD, hi]
        rw [hg]
        exact hfc i hi

theorem own : ownKnob Try.prog.godebug = none := by kernel_rfl
theorem laidOut : laidOutB Try.prog = true := by kernel_rfl

end Go.Proofs.Qxb6613313a
