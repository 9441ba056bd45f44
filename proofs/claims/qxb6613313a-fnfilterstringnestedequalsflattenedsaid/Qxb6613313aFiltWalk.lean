/-
  ZZnewFilter: WHAT IT BUILDS (A LEAF).
-/
import Derived.Test.Qxb6613313aFiltData
namespace Go.Proofs.Qxb6613313a
open Go.RowKit

/-- What holds at every round's head: block F holds the slice of the first k expressions. -/
def FiltRel (w : World) (A : List Value) (L : List Ex) (k : Nat) (vx : Value) (wr : World) : Prop :=
  wr.cell? ⟨w.heap.size, 0, none⟩ = some vx ∧ wr.cell? ⟨w.heap.size, 1, none⟩ = some (.map none) ∧ wr.frozen? ⟨w.heap.size, 0, none⟩ = false ∧ wr.ownsRow (w.heap.size + 1) 80 14 vx k (flat A L k) ∧ Below w.heap.size w wr ∧ w.heap.size < wr.heap.size

theorem filt_end {w W1 w1 : World} {A : List Value} {L : List Ex} {k g1 c1 : Nat} {vx : Value} {xs : List Value} (hown : W1.ownsRow (w.heap.size + 1) 80 14 vx k (flat A L k)) (hB : Below w.heap.size w W1) (hz : w.heap.size < W1.heap.size)
    (x0 : W1.cell? ⟨w.heap.size, 0, none⟩ = some vx) (x1 : W1.cell? ⟨w.heap.size, 1, none⟩ = some (.map none)) (xf : W1.frozen? ⟨w.heap.size, 0, none⟩ = false)
    (hF : flat A L (k + 1) = flat A L k ++ xs)
    (hown1 : w1.ownsRow (w.heap.size + 1) 80 14 (.slice (some ⟨g1, 0, none⟩) (k + 1) c1) (k + 1) (flat A L k ++ xs)) (hg1 : W1.grownBy w1 vx.ownBlock) (hb : w.heap.size + 1 ≤ g1) :
    FiltRel w A L (k + 1) (.slice (some ⟨g1, 0, none⟩) (k + 1) c1) (w1.setCell ⟨w.heap.size, 0, none⟩ (.slice (some ⟨g1, 0, none⟩) (k + 1) c1)) := by
  have hne : some w.heap.size ≠ vx.ownBlock := fun e => by have := (hown.lt _ e.symm).1; omega
  have z0 := hg1.cell x0 hne
  have z1 := hg1.cell x1 hne
  have zf := (World.frozen?_of_block (a := ⟨w.heap.size, 0, none⟩) (hg1.block w.heap.size hz hne)).trans xf
  refine ⟨World.cell?_setCell_same _ _ _ z0, (World.cell?_setCell_other _ _ _ _ (by simp)).trans z1, by rw [World.frozen?_setCell]; exact zf, ?_, (hB.grown hg1 (by omega) (fun j hj => by have := (hown.lt j hj).1; omega)).setCell (Nat.le_refl _) _, ?_⟩
  · rw [hF]
    exact ownsRow_setCell_other hown1 (by simp [Value.ownBlock]; omega) _
  · have := hg1.size
    have e : (w1.setCell ⟨w.heap.size, 0, none⟩ (.slice (some ⟨g1, 0, none⟩) (k + 1) c1)).heap.size = w1.heap.size := by simp [World.setCell]
    omega

set_option maxHeartbeats 8000000 in
set_option maxRecDepth 10000 in
theorem newFilter_leaf (base : Nat) (va vo vv : Value) (A : List Value) (L : List Ex) (w : World) (hP : Parts w base va vo vv A L) (hN : L.length ≤ 2097152) :
    Calls Try.prog 28 #[va, vo, vv, .slice none 0 0, .slice none 0 0] w fun e w' => e = .returned (.pointer (some ⟨w.heap.size, 0, none⟩)) ∧ ∃ vx, FiltRel w A L L.length vx w' := by
  obtain ⟨i80, hi80, hz80, hs80, hb80⟩ := info_parts Try.info80
  have HI : Hid (Try.prog.info? 80 = some i80 ∧ i80.zero = some xzero ∧ i80.size = 14 ∧ i80.bytes = 176) := ⟨hi80, hz80, hs80, hb80⟩
  clear hi80 hz80 hs80 hb80
  obtain ⟨aa, ca, ga, rfl, hca, hma, ha, hac⟩ := own_form hP.attrs
  obtain ⟨ao, co, go, rfl, hco, hmo, ho, hoc⟩ := own_form hP.ops
  obtain ⟨av, cv, gv, rfl, hcv, hmv, hv, hvc⟩ := own_form hP.vals
  have hlen := hP.len
  unfold maxLen at hma hmo hmv
  go_enter Try.func28, Try.ntmps28
  go_wp2_with fail
  go_loopw [18] (fun i wr => ∃ (k : Nat) (vx : Value), k ≤ L.length ∧ i = .int .i64 k ∧ FiltRel w A L k vx wr) (fun i _ => L.length - (intOf i).toNat)
  case atStart => exact ⟨0, .slice none 0 0, Nat.zero_le _, rfl, by simp [go_sem], by simp [go_sem], by simp [go_sem], World.ownsRow_nil _ _ _ _, (Below.refl _ _).alloc (Nat.le_refl _) _, by simp⟩
  case round =>
    obtain ⟨k, vx, hk, rfl, hRel⟩ := hrel
    by_cases hlt : k < L.length
    · obtain ⟨x0, x1, xf, hown, hBel, hz⟩ := hRel
      obtain ⟨rfl, _, hga⟩ := ha (by omega)
      obtain ⟨rfl, _, hgo⟩ := ho (by omega)
      obtain ⟨rfl, _, hgv⟩ := hv (by omega)
      have y0 := (hBel.cell (p := ⟨ga, 0 + k, none⟩) hga).trans (hac k (A.getD k (.slice none 0 0)) (by simp [List.getD, hlen, hlt]))
      have y1 := (hBel.cell (p := ⟨go, 0 + k, none⟩) hgo).trans (hoc k (.string (L.getD k Ex.zero).op) (by simp [strs, List.getD, hlt]))
      have y2 := (hBel.cell (p := ⟨gv, 0 + k, none⟩) hgv).trans (hvc k (.string (L.getD k Ex.zero).val) (by simp [strs, List.getD, hlt]))
      have HF : Hid (flat A L (k + 1) = flat A L k ++ xcells (A.getD k (.slice none 0 0)) (L.getD k Ex.zero).op (L.getD k Ex.zero).val) := rfl
      obtain ⟨ac, nc, cc, hAc⟩ : ∃ ac nc cc, A.getD k (.slice none 0 0) = .slice ac nc cc := by
        obtain ⟨ac, cc, _, e, _⟩ := own_form (hP.each k (A.getD k (.slice none 0 0)) (L.getD k Ex.zero) (by simp [List.getD, hlen, hlt]) (by simp [List.getD, hlt])).1
        exact ⟨ac, _, cc, e⟩
      rw [hAc] at y0 HF
      clear hAc
      generalize L.getD k Ex.zero = x at *
      simp only [Nat.zero_add] at y0 y1 y2
      have hk2 : k ≤ 2097152 := by omega
      clear ha ho hv hac hoc hvc hP hlen hga hgo hgv hco hcv hmo hmv
      have hne : some w.heap.size ≠ vx.ownBlock := fun e => by have := (hown.lt _ e.symm).1; omega
      have hO : World.ownsRow (wr.alloc (.cells (xcells (.slice ac nc cc) x.op x.val).toArray 80)).drew (w.heap.size + 1) 80 14 vx k (flat A L k) := hown.alloc _
      have hcN : ∀ j u, (xcells (.slice ac nc cc) x.op x.val)[j]? = some u → (wr.alloc (.cells (xcells (.slice ac nc cc) x.op x.val).toArray 80)).drew.cell? ((⟨wr.heap.size, 0, none⟩ : Addr).add j) = some u := cells_new wr _ 80
      have hbs : w.heap.size < (wr.alloc (.cells (xcells (.slice ac nc cc) x.op x.val).toArray 80)).drew.heap.size := by simp; omega
      have hB0 : Below w.heap.size w (wr.alloc (.cells (xcells (.slice ac nc cc) x.op x.val).toArray 80)).drew := (hBel.alloc (by omega) _).drew
      have hx0 : (wr.alloc (.cells (xcells (.slice ac nc cc) x.op x.val).toArray 80)).drew.cell? ⟨w.heap.size, 0, none⟩ = some vx := (World.grownBy_alloc wr _ none).cell x0 (by simp)
      have hx1 : (wr.alloc (.cells (xcells (.slice ac nc cc) x.op x.val).toArray 80)).drew.cell? ⟨w.heap.size, 1, none⟩ = some (.map none) := (World.grownBy_alloc wr _ none).cell x1 (by simp)
      have hxf : (wr.alloc (.cells (xcells (.slice ac nc cc) x.op x.val).toArray 80)).drew.frozen? ⟨w.heap.size, 0, none⟩ = false := (World.frozen?_of_block ((World.grownBy_alloc wr _ none).block w.heap.size hz (by simp))).trans xf
      have hone := xcells_one ac nc cc x.op x.val
      simp only [xcells] at hO hcN hbs hB0 hx0 hx1 hxf hone HF
      have HH : Hid (_ ∧ _ ∧ _ ∧ _ ∧ _ ∧ _ ∧ _ ∧ _ ∧ _) := ⟨hO, hcN, hbs, hB0, hx0, hx1, hxf, hone, hne⟩
      clear hO hcN hbs hB0 hx0 hx1 hxf hone hne x1 xf hown hBel
      go_wp2_with fail
      go_region_law (first | (refine step_append_own rfl (.tmp 25) (.tmp 39) 67 rfl (w.heap.size + 1) 80 i80 xzero 14 176 Try.underlying67 HI.out.1 HI.out.2.1 HI.out.2.2.1 HI.out.2.2.2 rfl (by decide) vx k (flat A L k) rfl HH.out.1 ⟨wr.heap.size, 0, none⟩ 1 1 _ rfl rfl HH.out.2.1 HH.out.2.2.2.2.2.2.2.1 (by unfold maxLen; omega) (by omega) HH.out.2.2.1 ?_; intro v1 w1 hown1 hg1 hl1; obtain ⟨g1, c1, hv1, hbg1, hlt1⟩ := own_some hown1; subst hv1; have z0 := hg1.cell HH.out.2.2.2.2.1 HH.out.2.2.2.2.2.2.2.2; have zf := (World.frozen?_of_block (a := ⟨w.heap.size, 0, none⟩) (hg1.block w.heap.size HH.out.2.2.1 HH.out.2.2.2.2.2.2.2.2)).trans HH.out.2.2.2.2.2.2.1))
      all_goals
        go_wp2
        go_roundw
        case rel => exact ⟨k + 1, _, by omega, by go_num, filt_end HH.out.1 HH.out.2.2.2.1 HH.out.2.2.1 HH.out.2.2.2.2.1 HH.out.2.2.2.2.2.1 HH.out.2.2.2.2.2.2.1 HF.out hown1 hg1 hbg1⟩
        case measure => simp [intOf]; omega
    · obtain rfl : k = L.length := by omega
      go_wp2
      go_ret
      exact ⟨rfl, vx, hRel⟩

end Go.Proofs.Qxb6613313a
