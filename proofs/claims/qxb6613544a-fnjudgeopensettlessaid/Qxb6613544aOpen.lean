/-
  THE INPUT OPENED: from the readings of a []Link and of a [][20]byte to their cells.
-/
import Derived.Test.Qxb6613544aRows
import Derived.Test.Qxb6613544aLinks
import Derived.ProofKit
import Derived.OpenShut
import Derived.ChangeOld
import Derived.Deep.Slices
import Derived.Deep.Strs
namespace Go.Proofs.Qxb6613544a
open Go.ChangeShapes Go.WideShapes Go.ChangeAt Go.RowKit Go.Deep

theorem cells50 : Try.prog.cellsOf 50 = 3 := by kernel_rfl
theorem cells48 : Try.prog.cellsOf 48 = 28 := by kernel_rfl
theorem cells38 : Try.prog.cellsOf 38 = 20 := by kernel_rfl
theorem cells42 : Try.prog.cellsOf 42 = 1 := by kernel_rfl
theorem cells23 : Try.prog.cellsOf 23 = 1 := by kernel_rfl
theorem cells22 : Try.prog.cellsOf 22 = 1 := by kernel_rfl
theorem cells4 : Try.prog.cellsOf 4 = 1 := by kernel_rfl
theorem cells2 : Try.prog.cellsOf 2 = 1 := by kernel_rfl
theorem cells5 : Try.prog.cellsOf 5 = 1 := by kernel_rfl

theorem add_none (b o j : Nat) : (Addr.mk b o none).add j = ⟨b, o + j, none⟩ := Addr.add_mid b o j

theorem of_wf64 {n : Int} (h : (Lit.int .u64 n).wf = true) : 0 ≤ n := by
  have h' : (decide (IntKind.u64.min ≤ n) && decide (n ≤ IntKind.u64.max)) = true := h
  simp only [Bool.and_eq_true, decide_eq_true_eq] at h'
  exact h'.1

theorem choose_fn {α : Type} (d : α) {l : Nat} {P : Nat → α → Prop} (h : ∀ i, i < l → ∃ s, P i s) : ∃ f : Nat → α, ∀ i, i < l → P i (f i) :=
  ⟨fun i => if hi : i < l then Classical.choose (h i hi) else d, fun i hi => by simp only [dif_pos hi]; exact Classical.choose_spec (h i hi)⟩

theorem trod_float {H : Type} {enc : TypeId × Value → H} {w : World} {fuel : Nat} {t : TypeId} {k : FloatKind} {cs : List Value} {x : DataW H × List MemPlace} (ht : Try.prog.underlying t = some (.float k)) (h : DataW.trod enc Try.prog w 0 (fun _ => true) true fuel t cs = some x) : ∃ n, cs = [.float k n] := by
  cases fuel with
  | zero => simp [DataW.trod] at h
  | succ n =>
    unfold DataW.trod at h
    rw [ht] at h
    split at h <;> simp_all

set_option maxRecDepth 100000 in
/-- One beacon as it is read. -/
theorem bcell_read {H : Type} {enc : TypeId × Value → H} {w : World} {n : Nat} {cs : List Value} {x : DataW H × List MemPlace} (h : DataW.trod enc Try.prog w 0 (fun _ => true) true n 50 cs = some x) : ∃ s : Bc, cs = bcells s ∧ 0 ≤ s.tick := by
  obtain ⟨y0, y1, y2, m, _, hl, h0, h1, h2⟩ := trod_struct3 Try.underlying50 h
  rw [cells50] at hl
  match cs, hl with
  | [c0, c1, c2], _ =>
    simp [cells23, cells4] at h0 h1 h2
    obtain ⟨n0, e0, _⟩ := DataW.trod_int Try.underlying23 h0
    obtain ⟨n1, e1, _, wf1⟩ := DataW.trod_int Try.underlying23 h1
    obtain ⟨b2, e2, _⟩ := DataW.trod_bool Try.underlying4 h2
    simp at e0 e1 e2
    subst e0 e1 e2
    exact ⟨⟨n0, n1, b2⟩, rfl, of_wf64 wf1⟩

/-- A []Beacon as it is read. -/
theorem brow_read {H : Type} {enc : TypeId × Value → H} {w : World} {n : Nat} {c : Value} {x : DataW H × List MemPlace}
    (h : DataW.trod enc Try.prog w 0 (fun _ => true) true n 42 [c] = some x) : ∃ a cap b o bs, c = .slice a bs.length cap ∧ BRow w.heap.size w a bs.length cap b o bs ∧ ∀ s ∈ bs, 0 ≤ s.tick := by
  rcases open_slice Try.underlying42 h with ⟨hcs, _⟩ | ⟨ad, l, cp, m, n', D, Pl, hcs, _, hl, hm, hmm, _, hx⟩
  · simp at hcs
    exact ⟨none, 0, 0, 0, [], hcs, ⟨rfl, Nat.le_refl _, Nat.zero_le _, fun h => absurd h (by simp), fun j u hu => by simp [brow] at hu⟩, fun s hs => by simp at hs⟩
  · simp at hcs
    rw [cells50] at hx
    have hm' : m = cp := by simpa using hmm
    subst hm'
    by_cases h0 : l = 0
    · subst h0
      exact ⟨some ad, m, 0, 0, [], hcs, ⟨rfl, hl, hm, fun h => absurd h (by simp), fun j u hu => by simp [brow] at hu⟩, fun s hs => by simp at hs⟩
    · obtain ⟨b, o, spot⟩ := ad
      have hel : ∀ i, i < l → ∃ s : Bc, w.cells? 0 ((⟨b, o, spot⟩ : Addr).add (i * 3)) 3 = some (bcells s) ∧ 0 ≤ s.tick := fun i hi => by
        obtain ⟨cs', h1, h2⟩ := hx i (by omega)
        obtain ⟨s, rfl, hs⟩ := bcell_read h2
        exact ⟨s, h1, hs⟩
      have hsp : spot = none := by
        obtain ⟨s, h1, _⟩ := hel 0 (by omega)
        have h4 := (World.cells?_some h1).2.2 0 (by omega)
        simpa [Addr.add] using World.cell?_spot h4
      subst hsp
      have hel2 : ∀ i, i < l → ∃ s : Bc, w.cells? 0 ⟨b, o + i * 3, none⟩ 3 = some (bcells s) ∧ 0 ≤ s.tick := fun i hi => by
        obtain ⟨s, h1, h2⟩ := hel i hi
        rw [add_none] at h1
        exact ⟨s, h1, h2⟩
      obtain ⟨f, hf⟩ := choose_fn Bc.zero hel2
      have hlen : ((List.range l).map f).length = l := by simp
      have hcell : ∀ i r u, i < l → r < 3 → (bcells (f i))[r]? = some u → w.cell? ⟨b, o + i * 3 + r, none⟩ = some u := fun i r u hi hr hu => by
        have h1 := (World.cells?_some (hf i hi).1).2.2 r hr
        rw [add_none] at h1
        rw [h1]
        match r, hr with
        | 0, _ | 1, _ | 2, _ => exact hu
      refine ⟨some ⟨b, o, none⟩, m, b, o, (List.range l).map f, by rw [hlen]; exact hcs, ⟨rfl, by rw [hlen]; exact hl, hm, fun _ => ⟨rfl, ?_⟩, fun j u hu => ?_⟩, fun s hs => ?_⟩
      · have := hcell 0 0 _ (by omega) (by omega) rfl
        exact World.block_lt_of_cell? w _ this
      · have hj : j < l * 3 := by
          have := (List.getElem?_eq_some_iff.1 hu).1
          rw [brow_length, hlen] at this
          exact this
        have e : j = j / 3 * 3 + j % 3 := by omega
        rw [e, brow_get _ (j / 3) (j % 3) (by rw [hlen]; omega) (by omega)] at hu
        have hg : ((List.range l).map f).getD (j / 3) Bc.zero = f (j / 3) := by
          have : j / 3 < l := by omega
          simp [List.getD, this]
        rw [hg] at hu
        have := hcell (j / 3) (j % 3) u (by omega) (by omega) hu
        rw [show o + j = o + j / 3 * 3 + j % 3 by omega]
        exact this
      · rw [List.mem_map] at hs
        obtain ⟨i, hi, rfl⟩ := hs
        exact (hf i (List.mem_range.1 hi)).2

theorem take_one {cs : List Value} {o : Nat} {c : Value} (h : (cs.drop o).take 1 = [c]) : cs[o]? = some c := by
  have h1 : ((cs.drop o).take 1)[0]? = some c := by rw [h]; rfl
  simpa using h1

theorem drop_one {cs : List Value} {o : Nat} (h : o < cs.length) : ∃ c, (cs.drop o).take 1 = [c] ∧ cs[o]? = some c := by
  refine ⟨cs[o], ?_, by simp [h]⟩
  rw [List.drop_eq_getElem_cons h]
  rfl

theorem pcells_get (p : Nat → Int) (j : Nat) (hj : j < 20) : (pcells p)[j]? = some (.int .u8 (p j)) := by
  match j, hj with
  | 0, _ | 1, _ | 2, _ | 3, _ | 4, _ | 5, _ | 6, _ | 7, _ | 8, _ | 9, _ | 10, _ | 11, _ | 12, _ | 13, _ | 14, _ | 15, _ | 16, _ | 17, _ | 18, _ | 19, _ => rfl
  | n + 20, h => exact absurd h (by omega)

/-- A peer as it is read. -/
theorem peer_read {H : Type} {enc : TypeId × Value → H} {w : World} {n : Nat} {cs : List Value} {x : DataW H × List MemPlace} (h : DataW.trod enc Try.prog w 0 (fun _ => true) true n 38 cs = some x) : ∃ p : Nat → Int, cs.length = 20 ∧ ∀ i, i < 20 → cs[i]? = some (.int .u8 (p i)) := by
  obtain ⟨xs, m, _, _, hl, hlen, hf⟩ := DataW.trod_array Try.underlying38 h
  rw [cells38] at hl
  have hel : ∀ i, i < 20 → ∃ k : Int, cs[i]? = some (.int .u8 k) := fun i hi => by
    have h1 := hf i hi
    rw [cells5, Nat.mul_one] at h1
    have h2 : xs[i]? = some xs[i] := List.getElem?_eq_getElem (by omega)
    rw [h2] at h1
    obtain ⟨k, e, _⟩ := DataW.trod_int Try.underlying5 h1
    exact ⟨k, take_one e⟩
  obtain ⟨p, hp⟩ := choose_fn (0 : Int) hel
  exact ⟨p, hl, hp⟩

theorem peer_range {w : World} {b o : Nat} {cs : List Value} {p : Nat → Int} (hc : ∀ j, j < 20 → w.cell? ⟨b, o + j, none⟩ = cs[j]?) (hp : ∀ i, i < 20 → cs[i]? = some (.int .u8 (p i))) : w.rangeAt b o (pcells p) := fun j v hv => by
  have hj : j < 20 := (List.getElem?_eq_some_iff.1 hv).1
  rw [pcells_get p j hj] at hv
  rw [hc j hj, hp j hj]
  exact hv

set_option maxRecDepth 100000 in
/-- One link as it is read. -/
theorem lcell_read {H : Type} {enc : TypeId × Value → H} {w : World} {n : Nat} {b o : Nat} {cs : List Value} {x : DataW H × List MemPlace} (hc : w.cells? 0 ⟨b, o, none⟩ 28 = some cs)
    (h : DataW.trod enc Try.prog w 0 (fun _ => true) true n 48 cs = some x) : ∃ l am cm bm om ap cp bp op, LCell w.heap.size w b o l am cm bm om ap cp bp op := by
  obtain ⟨xs, m, _, _, hl, hlen, hf⟩ := DataW.trod_struct Try.underlying48 h
  rw [cells48] at hl
  have hcell : ∀ j, j < 28 → w.cell? ⟨b, o + j, none⟩ = cs[j]? := fun j hj => by
    have h1 := (World.cells?_some hc).2.2 j hj
    rw [add_none] at h1
    exact h1
  match xs, hlen with
  | [y0, y1, y2, y3, y4, y5, y6, y7, y8], _ =>
    have g0 : DataW.trod enc Try.prog w 0 (fun _ => true) true m 38 ((cs.drop 0).take (Try.prog.cellsOf 38)) = some y0 := hf 0 _ rfl
    rw [cells38] at g0
    have g1 : DataW.trod enc Try.prog w 0 (fun _ => true) true m 22 ((cs.drop 20).take (Try.prog.cellsOf 22)) = some y1 := hf 1 _ rfl
    rw [cells22] at g1
    have g2 : DataW.trod enc Try.prog w 0 (fun _ => true) true m 42 ((cs.drop 21).take (Try.prog.cellsOf 42)) = some y2 := hf 2 _ rfl
    rw [cells42] at g2
    have g3 : DataW.trod enc Try.prog w 0 (fun _ => true) true m 42 ((cs.drop 22).take (Try.prog.cellsOf 42)) = some y3 := hf 3 _ rfl
    rw [cells42] at g3
    have g4 : DataW.trod enc Try.prog w 0 (fun _ => true) true m 2 ((cs.drop 23).take (Try.prog.cellsOf 2)) = some y4 := hf 4 _ rfl
    rw [cells2] at g4
    have g5 : DataW.trod enc Try.prog w 0 (fun _ => true) true m 4 ((cs.drop 24).take (Try.prog.cellsOf 4)) = some y5 := hf 5 _ rfl
    rw [cells4] at g5
    have g6 : DataW.trod enc Try.prog w 0 (fun _ => true) true m 2 ((cs.drop 25).take (Try.prog.cellsOf 2)) = some y6 := hf 6 _ rfl
    rw [cells2] at g6
    have g7 : DataW.trod enc Try.prog w 0 (fun _ => true) true m 2 ((cs.drop 26).take (Try.prog.cellsOf 2)) = some y7 := hf 7 _ rfl
    rw [cells2] at g7
    have g8 : DataW.trod enc Try.prog w 0 (fun _ => true) true m 4 ((cs.drop 27).take (Try.prog.cellsOf 4)) = some y8 := hf 8 _ rfl
    rw [cells4] at g8
    obtain ⟨p, _, hp⟩ := peer_read g0
    obtain ⟨c1, e1⟩ := trod_float Try.underlying22 g1
    obtain ⟨d2, q2, r2⟩ := drop_one (cs := cs) (o := 21) (by omega)
    obtain ⟨d3, q3, r3⟩ := drop_one (cs := cs) (o := 22) (by omega)
    rw [q2] at g2
    rw [q3] at g3
    obtain ⟨am, cm, bm, om, ms, hm, hM, _⟩ := brow_read g2
    obtain ⟨ap, cp, bp, op, ps, hq, hP, htk⟩ := brow_read g3
    obtain ⟨c4, e4, _⟩ := DataW.trod_int Try.underlying2 g4
    obtain ⟨c5, e5, _⟩ := DataW.trod_bool Try.underlying4 g5
    obtain ⟨c6, e6, _⟩ := DataW.trod_int Try.underlying2 g6
    obtain ⟨c7, e7, _⟩ := DataW.trod_int Try.underlying2 g7
    obtain ⟨c8, e8, _⟩ := DataW.trod_bool Try.underlying4 g8
    refine ⟨⟨p, c1, ms, ps, c4, c5, c6, c7, c8⟩, am, cm, bm, om, ap, cp, bp, op, ?_, (hcell 20 (by omega)).trans (take_one e1), (hcell 21 (by omega)).trans (r2.trans (congrArg some hm)), (hcell 22 (by omega)).trans (r3.trans (congrArg some hq)), (hcell 23 (by omega)).trans (take_one e4), (hcell 24 (by omega)).trans (take_one e5), (hcell 25 (by omega)).trans (take_one e6), (hcell 26 (by omega)).trans (take_one e7), (hcell 27 (by omega)).trans (take_one e8), hM, hP, htk⟩
    refine peer_range (cs := (cs.drop 0).take 20) (fun j hj => ?_) hp
    rw [hcell j (by omega)]
    simp [hj]

theorem own : ownKnob Try.prog.godebug = none := by kernel_rfl
theorem laidOut : laidOutB Try.prog = true := by kernel_rfl

/-- A []Link as it is read. -/
theorem lrow_read {H : Type} {enc : TypeId × Value → H} {w : World} {a : Option Addr} {len cap : Nat} {d : DataW H} {p : List MemPlace}
    (h : DataW.Trod enc Try.prog w 0 (fun _ => true) true 24 (.slice a len cap) d p) : ∃ b o f, LRow w.heap.size w a len cap b o f := by
  obtain ⟨fuel, hf⟩ := h
  rcases open_slice Try.underlying24 hf with ⟨hcs, _⟩ | ⟨x, l, c, m, n, D, Pl, hcs, _, hl, hm, hmm, _, hx⟩
  · simp [Value.cells] at hcs
    obtain ⟨rfl, rfl, rfl⟩ := hcs
    exact ⟨0, 0, fun _ => ⟨fun _ => 0, 0, [], [], 0, false, 0, 0, false⟩, Nat.le_refl _, Nat.zero_le _, fun h => absurd h (by omega), fun i hi => absurd hi (by omega)⟩
  · simp [Value.cells] at hcs
    obtain ⟨rfl, rfl, rfl⟩ := hcs
    rw [cells48] at hx
    have hm' : m = cap := by simpa using hmm
    subst hm'
    by_cases h0 : len = 0
    · subst h0
      exact ⟨0, 0, fun _ => ⟨fun _ => 0, 0, [], [], 0, false, 0, 0, false⟩, hl, hm, fun h => absurd h (by omega), fun i hi => absurd hi (by omega)⟩
    · obtain ⟨b, o, spot⟩ := x
      have hsp : spot = none := by
        obtain ⟨cs', h1, h2⟩ := hx 0 (by omega)
        have h4 := ((World.cells?_some h1).2.2 0 (by omega)).trans (List.getElem?_eq_getElem (by rw [(World.cells?_some h1).2.1]; omega))
        simpa [Addr.add] using World.cell?_spot h4
      subst hsp
      have hel : ∀ i, i < len → ∃ l : Lk, ∃ am cm bm om ap cp bp op, LCell w.heap.size w b (o + i * 28) l am cm bm om ap cp bp op := fun i hi => by
        obtain ⟨cs', h1, h2⟩ := hx i (by omega)
        rw [add_none] at h1
        exact lcell_read h1 h2
      obtain ⟨f, hfc⟩ := choose_fn (⟨fun _ => 0, 0, [], [], 0, false, 0, 0, false⟩ : Lk) hel
      refine ⟨b, o, f, hl, hm, fun _ => ⟨rfl, ?_⟩, hfc⟩
      obtain ⟨_, _, _, _, _, _, _, _, g0⟩ := hfc 0 (by omega)
      exact World.block_lt_of_cell? w _ g0.c20

/-- A [][20]byte as it is read. -/
theorem grow_read {H : Type} {enc : TypeId × Value → H} {w : World} {a : Option Addr} {len cap : Nat} {d : DataW H} {p : List MemPlace}
    (h : DataW.Trod enc Try.prog w 0 (fun _ => true) true 25 (.slice a len cap) d p) : ∃ b o g, GRow w.heap.size w a len cap b o g := by
  obtain ⟨fuel, hf⟩ := h
  rcases open_slice Try.underlying25 hf with ⟨hcs, _⟩ | ⟨x, l, c, m, n, D, Pl, hcs, _, hl, hm, hmm, _, hx⟩
  · simp [Value.cells] at hcs
    obtain ⟨rfl, rfl, rfl⟩ := hcs
    exact ⟨0, 0, fun _ _ => 0, Nat.le_refl _, Nat.zero_le _, fun h => absurd h (by omega), fun i hi => absurd hi (by omega)⟩
  · simp [Value.cells] at hcs
    obtain ⟨rfl, rfl, rfl⟩ := hcs
    rw [cells38] at hx
    have hm' : m = cap := by simpa using hmm
    subst hm'
    by_cases h0 : len = 0
    · subst h0
      exact ⟨0, 0, fun _ _ => 0, hl, hm, fun h => absurd h (by omega), fun i hi => absurd hi (by omega)⟩
    · obtain ⟨b, o, spot⟩ := x
      have hsp : spot = none := by
        obtain ⟨cs', h1, h2⟩ := hx 0 (by omega)
        have h4 := ((World.cells?_some h1).2.2 0 (by omega)).trans (List.getElem?_eq_getElem (by rw [(World.cells?_some h1).2.1]; omega))
        simpa [Addr.add] using World.cell?_spot h4
      subst hsp
      have hel : ∀ i, i < len → ∃ q : Nat → Int, w.rangeAt b (o + i * 20) (pcells q) ∧ b < w.heap.size := fun i hi => by
        obtain ⟨cs', h1, h2⟩ := hx i (by omega)
        rw [add_none] at h1
        obtain ⟨q, hl2, hq⟩ := peer_read h2
        have hcc : ∀ j, j < 20 → w.cell? ⟨b, o + i * 20 + j, none⟩ = cs'[j]? := fun j hj => by
          have h3 := (World.cells?_some h1).2.2 j hj
          rw [add_none] at h3
          exact h3
        refine ⟨q, peer_range hcc hq, ?_⟩
        have h5 := (hcc 0 (by omega)).trans (hq 0 (by omega))
        exact World.block_lt_of_cell? w _ h5
      obtain ⟨g, hg⟩ := choose_fn (fun _ => (0 : Int)) hel
      exact ⟨b, o, g, hl, hm, fun _ => ⟨rfl, (hg 0 (by omega)).2⟩, fun i hi => (hg i hi).1⟩

end Go.Proofs.Qxb6613544a
