/-
  ZZnewFilter: WHAT IT BUILDS (A FILTER WITH TWO CHILDREN).
-/
import Derived.Test.Qxb6613313aTreeMap
import Derived.RegionTactic
namespace Go.Proofs.Qxb6613313a
open Go.RowKit

/-- What holds at every round's head: block F holds the slice of the first k expressions. -/
def FiltRelT (w : World) (A : List Value) (L : List Ex) (k : Nat) (vx : Value) (wr : World) : Prop :=
  wr.cell? ⟨w.heap.size, 0, none⟩ = some vx ∧ wr.cell? ⟨w.heap.size, 1, none⟩ = some (.map none) ∧ wr.frozen? ⟨w.heap.size, 0, none⟩ = false ∧ wr.frozen? ⟨w.heap.size, 1, none⟩ = false ∧ wr.ownsRow (w.heap.size + 1) 80 14 vx k (flat A L k) ∧ Below w.heap.size w wr ∧ w.heap.size < wr.heap.size

theorem filt_endT {w W1 w1 : World} {A : List Value} {L : List Ex} {k g1 c1 : Nat} {vx : Value} {xs : List Value} (hown : W1.ownsRow (w.heap.size + 1) 80 14 vx k (flat A L k)) (hB : Below w.heap.size w W1) (hz : w.heap.size < W1.heap.size)
    (x0 : W1.cell? ⟨w.heap.size, 0, none⟩ = some vx) (x1 : W1.cell? ⟨w.heap.size, 1, none⟩ = some (.map none)) (xf : W1.frozen? ⟨w.heap.size, 0, none⟩ = false) (xg : W1.frozen? ⟨w.heap.size, 1, none⟩ = false)
    (hF : flat A L (k + 1) = flat A L k ++ xs)
    (hown1 : w1.ownsRow (w.heap.size + 1) 80 14 (.slice (some ⟨g1, 0, none⟩) (k + 1) c1) (k + 1) (flat A L k ++ xs)) (hg1 : W1.grownBy w1 vx.ownBlock) (hb : w.heap.size + 1 ≤ g1) :
    FiltRelT w A L (k + 1) (.slice (some ⟨g1, 0, none⟩) (k + 1) c1) (w1.setCell ⟨w.heap.size, 0, none⟩ (.slice (some ⟨g1, 0, none⟩) (k + 1) c1)) := by
  have hne : some w.heap.size ≠ vx.ownBlock := fun e => by have := (hown.lt _ e.symm).1; omega
  have z0 := hg1.cell x0 hne
  have z1 := hg1.cell x1 hne
  have zf := (World.frozen?_of_block (a := ⟨w.heap.size, 0, none⟩) (hg1.block w.heap.size hz hne)).trans xf
  have zg := (World.frozen?_of_block (a := ⟨w.heap.size, 1, none⟩) (hg1.block w.heap.size hz hne)).trans xg
  refine ⟨World.cell?_setCell_same _ _ _ z0, (World.cell?_setCell_other _ _ _ _ (by simp)).trans z1, by rw [World.frozen?_setCell]; exact zf, by rw [World.frozen?_setCell]; exact zg, ?_, (hB.grown hg1 (by omega) (fun j hj => by have := (hown.lt j hj).1; omega)).setCell (Nat.le_refl _) _, ?_⟩
  · rw [hF]
    exact ownsRow_setCell_other hown1 (by simp [Value.ownBlock]; omega) _
  · have := hg1.size
    have e : (w1.setCell ⟨w.heap.size, 0, none⟩ (.slice (some ⟨g1, 0, none⟩) (k + 1) c1)).heap.size = w1.heap.size := by simp [World.setCell]
    omega

/-- The map's datum behind k of the two stores. -/
def Dk (p q : ByteArray) (F1 F2 : Nat) : Nat → DataW Unit
  | 0 => D0
  | 1 => D1 p F1
  | _ => D2 p q F1 F2

/-- What holds while the children are put in. -/
def TRel (w : World) (A : List Value) (L : List Ex) (vx : Value) (mb : Nat) (p q : ByteArray) (F1 F2 k : Nat) (wr : World) : Prop :=
  wr.cell? ⟨w.heap.size, 0, none⟩ = some vx ∧ wr.cell? ⟨w.heap.size, 1, none⟩ = some (.map (some mb)) ∧ wr.ownsRow (w.heap.size + 1) 80 14 vx L.length (flat A L L.length) ∧ Below w.heap.size w wr ∧ w.heap.size < wr.heap.size ∧ w.heap.size < mb ∧ vx.ownBlock ≠ some mb ∧
    wr.ownsMap Try.prog 9 Rp mb k (Dk p q F1 F2 k)

theorem trel_start {w wr : World} {A : List Value} {L : List Ex} {vx : Value} {p q : ByteArray} {F1 F2 : Nat} {u : Value} (x0 : wr.cell? ⟨w.heap.size, 0, none⟩ = some vx) (x1 : wr.cell? ⟨w.heap.size, 1, none⟩ = some u)
    (hown : wr.ownsRow (w.heap.size + 1) 80 14 vx L.length (flat A L L.length)) (hBel : Below w.heap.size w wr) (hz : w.heap.size < wr.heap.size) :
    TRel w A L vx wr.heap.size p q F1 F2 0 ((wr.setCell ⟨w.heap.size, 1, none⟩ (.map (some wr.heap.size))).alloc (.map #[] 0)) := by
  have e : (wr.setCell ⟨w.heap.size, 1, none⟩ (.map (some wr.heap.size))).heap.size = wr.heap.size := by simp [World.setCell]
  have g := World.grownBy_alloc (wr.setCell ⟨w.heap.size, 1, none⟩ (.map (some wr.heap.size))) (.map #[] 0) none
  refine ⟨g.cell ((World.cell?_setCell_other _ _ _ _ (by simp)).trans x0) (by simp), g.cell (World.cell?_setCell_same _ _ _ x1) (by simp), (ownsRow_setCell_other hown (fun h => ?_) _).alloc _, (hBel.setCell (Nat.le_refl _) _).alloc (by rw [e]; omega) _, by simp [e]; omega, hz, fun h => ?_, ?_⟩
  · have := (hown.lt _ h).1
    simp at this
    omega
  · have := (hown.lt _ h).2
    omega
  · have := World.ownsMap_made (wr.setCell ⟨w.heap.size, 1, none⟩ (.map (some wr.heap.size))) Try.prog 9 Rp
    rw [e] at this
    exact this

theorem trel_step {w wr w1 : World} {A : List Value} {L : List Ex} {vx : Value} {mb : Nat} {p q : ByteArray} {F1 F2 k : Nat} (h : TRel w A L vx mb p q F1 F2 k wr) (hM : w1.ownsMap Try.prog 9 Rp mb (k + 1) (Dk p q F1 F2 (k + 1))) (hg : wr.drew.grownBy w1 (some mb)) :
    TRel w A L vx mb p q F1 F2 (k + 1) w1 := by
  obtain ⟨t0, t1, tO, tB, tz, tm, ta, _⟩ := h
  have hg' : wr.grownBy w1 (some mb) := ⟨hg.os, hg.tape, hg.output, hg.size, hg.block⟩
  exact ⟨hg'.cell t0 (by simp; omega), hg'.cell t1 (by simp; omega), tO.kept hg' (Or.inr ta), tB.grown hg' (by omega) (fun j hj => by cases hj; omega), Nat.lt_of_lt_of_le tz hg'.size, tm, ta, hM⟩

set_option maxHeartbeats 8000000 in
set_option maxRecDepth 10000 in
theorem newFilter_tree (p q : ByteArray) (nb cb F1 F2 : Nat) (base : Nat) (va vo vv : Value) (A : List Value) (L : List Ex) (w : World) (hP : Parts w base va vo vv A L) (hN : L.length ≤ 2097152)
    (n0 : w.cell? ⟨nb, 0, none⟩ = some (.string p)) (n1 : w.cell? ⟨nb, 1, none⟩ = some (.string q)) (m0 : w.cell? ⟨cb, 0, none⟩ = some (.pointer (some ⟨F1, 0, none⟩))) (m1 : w.cell? ⟨cb, 1, none⟩ = some (.pointer (some ⟨F2, 0, none⟩))) (hp : p.size ≤ 1048576) (hq : q.size ≤ 1048576) :
    Calls Try.prog 28 #[va, vo, vv, .slice (some ⟨nb, 0, none⟩) 2 2, .slice (some ⟨cb, 0, none⟩) 2 2] w fun e w' => e = .returned (.pointer (some ⟨w.heap.size, 0, none⟩)) ∧ ∃ vx mb, TRel w A L vx mb p q F1 F2 2 w' := by
  obtain ⟨i80, hi80, hz80, hs80, hb80⟩ := info_parts Try.info80
  have HI : Hid (Try.prog.info? 80 = some i80 ∧ i80.zero = some xzero ∧ i80.size = 14 ∧ i80.bytes = 176) := ⟨hi80, hz80, hs80, hb80⟩
  clear hi80 hz80 hs80 hb80
  obtain ⟨aa, ca, ga, rfl, hca, hma, ha, hac⟩ := own_form hP.attrs
  obtain ⟨ao, co, go, rfl, hco, hmo, ho, hoc⟩ := own_form hP.ops
  obtain ⟨av, cv, gv, rfl, hcv, hmv, hv, hvc⟩ := own_form hP.vals
  have hlen := hP.len
  unfold maxLen at hma hmo hmv
  go_enter Try.func28, Try.ntmps28
  go_wp2_with fail
  go_loopw [18] (fun i wr => ∃ (k : Nat) (vx : Value), k ≤ L.length ∧ i = .int .i64 k ∧ FiltRelT w A L k vx wr) (fun i _ => L.length - (intOf i).toNat)
  case atStart => exact ⟨0, .slice none 0 0, Nat.zero_le _, rfl, by simp [go_sem], by simp [go_sem], by simp [go_sem], by simp [go_sem], World.ownsRow_nil _ _ _ _, (Below.refl _ _).alloc (Nat.le_refl _) _, by simp⟩
  case round =>
    obtain ⟨k, vx, hk, rfl, hRel⟩ := hrel
    by_cases hlt : k < L.length
    · obtain ⟨x0, x1, xf, xg, hown, hBel, hz⟩ := hRel
      obtain ⟨rfl, _, hga⟩ := ha (by omega)
      obtain ⟨rfl, _, hgo⟩ := ho (by omega)
      obtain ⟨rfl, _, hgv⟩ := hv (by omega)
      have y0 := (hBel.cell (p := ⟨ga, 0 + k, none⟩) hga).trans (hac k (A.getD k (.slice none 0 0)) (by simp [List.getD, hlen, hlt]))
      have y1 := (hBel.cell (p := ⟨go, 0 + k, none⟩) hgo).trans (hoc k (.string (L.getD k Ex.zero).op) (by simp [strs, List.getD, hlt]))
      have y2 := (hBel.cell (p := ⟨gv, 0 + k, none⟩) hgv).trans (hvc k (.string (L.getD k Ex.zero).val) (by simp [strs, List.getD, hlt]))
      have HF : Hid (flat A L (k + 1) = flat A L k ++ xcells (A.getD k (.slice none 0 0)) (L.getD k Ex.zero).op (L.getD k Ex.zero).val) := rfl
      obtain ⟨ac, nc, cc, hAc⟩ : ∃ ac nc cc, A.getD k (.slice none 0 0) = .slice ac nc cc := by
        obtain ⟨ac, cc, _, e, _⟩ := own_form (hP.each k (A.getD k (.slice none 0 0)) (L.getD k Ex.zero) (by simp [List.getD, hlen, hlt]) (by simp [List.getD, hlt])).1
        exact ⟨ac, _, cc, e⟩
      rw [hAc] at y0 HF
      clear hAc
      generalize L.getD k Ex.zero = x at *
      simp only [Nat.zero_add] at y0 y1 y2
      have hk2 : k ≤ 2097152 := by omega
      clear ha ho hv hac hoc hvc hP hlen hga hgo hgv hco hcv hmo hmv
      have hne : some w.heap.size ≠ vx.ownBlock := fun e => by have := (hown.lt _ e.symm).1; omega
      have hO : World.ownsRow (wr.alloc (.cells (xcells (.slice ac nc cc) x.op x.val).toArray 80)).drew (w.heap.size + 1) 80 14 vx k (flat A L k) := hown.alloc _
      have hcN : ∀ j u, (xcells (.slice ac nc cc) x.op x.val)[j]? = some u → (wr.alloc (.cells (xcells (.slice ac nc cc) x.op x.val).toArray 80)).drew.cell? ((⟨wr.heap.size, 0, none⟩ : Addr).add j) = some u := cells_new wr _ 80
      have hbs : w.heap.size < (wr.alloc (.cells (xcells (.slice ac nc cc) x.op x.val).toArray 80)).drew.heap.size := by simp; omega
      have hB0 : Below w.heap.size w (wr.alloc (.cells (xcells (.slice ac nc cc) x.op x.val).toArray 80)).drew := (hBel.alloc (by omega) _).drew
      have hx0 : (wr.alloc (.cells (xcells (.slice ac nc cc) x.op x.val).toArray 80)).drew.cell? ⟨w.heap.size, 0, none⟩ = some vx := (World.grownBy_alloc wr _ none).cell x0 (by simp)
      have hx1 : (wr.alloc (.cells (xcells (.slice ac nc cc) x.op x.val).toArray 80)).drew.cell? ⟨w.heap.size, 1, none⟩ = some (.map none) := (World.grownBy_alloc wr _ none).cell x1 (by simp)
      have hxf : (wr.alloc (.cells (xcells (.slice ac nc cc) x.op x.val).toArray 80)).drew.frozen? ⟨w.heap.size, 0, none⟩ = false := (World.frozen?_of_block ((World.grownBy_alloc wr _ none).block w.heap.size hz (by simp))).trans xf
      have hxg : (wr.alloc (.cells (xcells (.slice ac nc cc) x.op x.val).toArray 80)).drew.frozen? ⟨w.heap.size, 1, none⟩ = false := (World.frozen?_of_block ((World.grownBy_alloc wr _ none).block w.heap.size hz (by simp))).trans xg
      have hone := xcells_one ac nc cc x.op x.val
      simp only [xcells] at hO hcN hbs hB0 hx0 hx1 hxf hxg hone HF
      have HH : Hid (_ ∧ _ ∧ _ ∧ _ ∧ _ ∧ _ ∧ _ ∧ _ ∧ _) := ⟨hO, hcN, hbs, hB0, hx0, hx1, hxf, hone, hne⟩
      have HG : Hid _ := hxg
      clear hO hcN hbs hB0 hx0 hx1 hxf hxg hone hne x1 xf xg hown hBel n0 n1 m0 m1
      go_wp2_with fail
      go_region_law (first | (refine step_append_own rfl (.tmp 25) (.tmp 39) 67 rfl (w.heap.size + 1) 80 i80 xzero 14 176 Try.underlying67 HI.out.1 HI.out.2.1 HI.out.2.2.1 HI.out.2.2.2 rfl (by decide) vx k (flat A L k) rfl HH.out.1 ⟨wr.heap.size, 0, none⟩ 1 1 _ rfl rfl HH.out.2.1 HH.out.2.2.2.2.2.2.2.1 (by unfold maxLen; omega) (by omega) HH.out.2.2.1 ?_; intro v1 w1 hown1 hg1 hl1; obtain ⟨g1, c1, hv1, hbg1, hlt1⟩ := own_some hown1; subst hv1; have z0 := hg1.cell HH.out.2.2.2.2.1 HH.out.2.2.2.2.2.2.2.2; have zf := (World.frozen?_of_block (a := ⟨w.heap.size, 0, none⟩) (hg1.block w.heap.size HH.out.2.2.1 HH.out.2.2.2.2.2.2.2.2)).trans HH.out.2.2.2.2.2.2.1))
      all_goals
        go_wp2
        go_roundw
        case rel => exact ⟨k + 1, _, by omega, by go_num, filt_endT HH.out.1 HH.out.2.2.2.1 HH.out.2.2.1 HH.out.2.2.2.2.1 HH.out.2.2.2.2.2.1 HH.out.2.2.2.2.2.2.1 HG.out HF.out hown1 hg1 hbg1⟩
        case measure => simp [intOf]; omega
    · obtain rfl : k = L.length := by omega
      obtain ⟨x0, x1, xf, xg, hown, hBel, hz⟩ := hRel
      have hmm := run_makeMap2
      have hT0 : TRel w A L vx wr.heap.size p q F1 F2 0 ((wr.setCell ⟨w.heap.size, 1, none⟩ (.map (some wr.heap.size))).alloc (.map #[] 0)) := trel_start x0 x1 hown hBel hz
      obtain ⟨wo, hwo⟩ : ∃ wo, wo = wr := ⟨_, rfl⟩
      subst hwo
      have HT0 : Hid _ := hT0
      clear hT0
      go_wp2_with fail
      go_loopw [13, 55] (fun _ i wr => ∃ k : Nat, k ≤ 2 ∧ i = .int .i64 k ∧ TRel w A L vx wo.heap.size p q F1 F2 k wr) (fun _ i _ => 2 - (intOf i).toNat)
      case atStart => exact ⟨0, by omega, rfl, HT0.out⟩
      case round =>
        obtain ⟨k, hk, rfl, hT⟩ := hrel
        obtain ⟨t0, t1, tO, tB, tz, tm, ta, tM⟩ := hT
        have N0 := (tB.cell (p := ⟨nb, 0, none⟩) (World.block_lt_of_cell? _ _ n0)).trans n0
        have N1 := (tB.cell (p := ⟨nb, 1, none⟩) (World.block_lt_of_cell? _ _ n1)).trans n1
        have M0 := (tB.cell (p := ⟨cb, 0, none⟩) (World.block_lt_of_cell? _ _ m0)).trans m0
        have M1 := (tB.cell (p := ⟨cb, 1, none⟩) (World.block_lt_of_cell? _ _ m1)).trans m1
        match k, hk with
        | 0, _ =>
          obtain ⟨w1, hr, hM1, hg1⟩ := store_p (w := wr.drew) (F1 := F1) hp tM
          have HQ : Hid (TRel w A L vx wo.heap.size p q F1 F2 1 w1) := trel_step ⟨t0, t1, tO, tB, tz, tm, ta, tM⟩ hM1 hg1
          clear tO tB tM hM1 hg1 n0 n1 m0 m1
          go_wp2_with fail
          go_region
          all_goals
            go_wp2
            go_roundw
            case rel => exact ⟨1, by omega, rfl, HQ.out⟩
            case measure => simp [intOf]
        | 1, _ =>
          obtain ⟨w1, hr, hM1, hg1⟩ := store_q (w := wr.drew) (F2 := F2) hq tM
          have HQ : Hid (TRel w A L vx wo.heap.size p q F1 F2 2 w1) := trel_step ⟨t0, t1, tO, tB, tz, tm, ta, tM⟩ hM1 hg1
          clear tO tB tM hM1 hg1 n0 n1 m0 m1
          go_wp2_with fail
          go_region
          all_goals
            go_wp2
            go_roundw
            case rel => exact ⟨2, by omega, rfl, HQ.out⟩
            case measure => simp [intOf]
        | 2, _ =>
          go_wp2
          go_ret
          exact ⟨rfl, vx, wo.heap.size, t0, t1, tO, tB, tz, tm, ta, tM⟩

end Go.Proofs.Qxb6613313a
