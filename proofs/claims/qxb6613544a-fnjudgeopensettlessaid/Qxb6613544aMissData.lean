/-
  (*link).miss: WHAT IT LEAVES.
-/
import Derived.Test.Qxb6613544aStepCall
namespace Go.Proofs.Qxb6613544a
open Go.RowKit

/-- append TO A ROW OF THE CALL's OWN, as one step of a region that draws. -/
theorem step_append_own {P : Program} {ops : Array Oper} {o : Oper} {a : Act} {w : World} {K : Act → World → Prop} {Q : Exit → Act → World → Prop} {E : Prop}
    (hg : o.guard = none) (s x : Operand) (t : TypeId) (hop : o.op = Op.call { callee := Callee.builtin Builtin.append, args := #[s, x], argTypes := #[t, t] })
    (base : Nat) (e : TypeId) (i : TypeInfo) (z : Value) (size bytes : Nat) (h1 : P.underlying t = some (.slice e)) (h2 : P.info? e = some i) (h3 : i.zero = some z) (h4 : i.size = size) (h5 : i.bytes = bytes) (h6 : z.cells.size = size) (h7 : 0 < size)
    (v : Value) (n : Nat) (xs : List Value) (hs : a.eval s = v) (hown : w.ownsRow base e size v n xs)
    (ad : Addr) (m c : Nat) (news : List Value) (hx : a.eval x = .slice (some ad) m c) (hn : news.length = m * size) (hc : ∀ j u, news[j]? = some u → w.cell? (ad.add j) = some u) (h1c : ∀ u ∈ news, u.oneCell' = true)
    (b1 : n + m ≤ maxLen) (b2 : (n + m) * bytes ≤ 140737488355328) (b3 : base ≤ w.heap.size)
    (hK : ∀ v' w', w'.ownsRow base e size v' (n + m) (xs ++ news) → w.grownBy w' v.ownBlock → (v'.ownBlock = v.ownBlock ∨ v'.ownBlock = some w.heap.size) → K (a.put o.dst v') w') :
    if Region.wanted o (yielded ops a.tmps) = true then Oper.wp P o a w K Q else E := by
  have hw : Region.wanted o (yielded ops a.tmps) = true := by simp [Region.wanted, hg]
  rw [if_pos hw]
  obtain ⟨v', w', hrun, r1, r2, _, r4⟩ := run_append_own_at (P := P) w base t o.type e i z size bytes h1 h2 h3 h4 h5 h6 h7 v n xs hown ad m c news hn hc h1c b1 b2 b3
  unfold Oper.wp
  simp [execOp, hop, resolve, invoke, builtin, hs, hx, hrun, Result.andThen]
  exact hK v' w' r1 r2 r4

/-- New cells, as they were laid. -/
theorem cells_new (w : World) (xs : List Value) (t : TypeId) : ∀ j u, xs[j]? = some u → (w.alloc (.cells xs.toArray t)).cell? ((⟨w.heap.size, 0, none⟩ : Addr).add j) = some u := by
  intro j u hj
  have hadd : (⟨w.heap.size, 0, none⟩ : Addr).add j = ⟨w.heap.size, j, none⟩ := by unfold Addr.add; split <;> simp_all
  rw [hadd, cell_of_row _ w.heap.size j xs.toArray t (0, 0) (heap_alloc_new w _)]
  simpa using hj

theorem cells_set {w : World} {F : Nat} {xs : List Value} (h : ∀ j u, xs[j]? = some u → w.cell? ⟨F, j, none⟩ = some u) (r : Nat) (v : Value) : ∀ j u, (xs.set r v)[j]? = some u → (w.setCell ⟨F, r, none⟩ v).cell? ⟨F, j, none⟩ = some u := by
  intro j u hu
  by_cases hj : r = j
  · subst hj
    rw [List.getElem?_set_self'] at hu
    cases hx : xs[r]? with
    | none => rw [hx] at hu; simp at hu
    | some y =>
      rw [hx] at hu
      simp at hu
      subst hu
      exact World.cell?_setCell_same _ _ _ (h r y hx)
  · rw [List.getElem?_set_ne hj] at hu
    exact (World.cell?_setCell_other _ _ _ _ (by simp; first | done | omega)).trans (h j u hu)

theorem le_alloc {B : Nat} {w : World} (h : B ≤ w.heap.size) (o : Obj) : B ≤ (w.alloc o).heap.size := by simp; omega
theorem lt_alloc {B : Nat} {w : World} (h : B < w.heap.size) (o : Obj) : B < (w.alloc o).heap.size := by simp; omega
theorem Only.undrew {S : Nat → Prop} {a w : World} (h : Only S a.drew w) : Only S a w := ⟨h.os, h.tape, h.output, h.size, h.block⟩

/-- Another row for the beacons missed. -/
theorem EntAt.setMissed {w W w2 : World} {B F : Nat} {l : Lk} {vm vp v' : Value} {m' : List Bc} (h : EntAt w B F l vm vp) (hW : Only (fun k => vm.ownBlock = some k) w W) (hown : w2.ownsRow B 79 3 v' m'.length (brow m')) (hg : W.grownBy w2 vm.ownBlock) (hl : v'.ownBlock = vm.ownBlock ∨ v'.ownBlock = some W.heap.size) :
    EntAt (w2.setCell ⟨F, 21, none⟩ v') B F { l with missed := m' } v' vp ∧ Only (foot F vm vp) w (w2.setCell ⟨F, 21, none⟩ v') ∧ ∀ k, v'.ownBlock = some k → vm.ownBlock = some k ∨ w.heap.size ≤ k := by
  have hFW : F < W.heap.size := Nat.lt_of_lt_of_le h.hi hW.size
  have h2 : Only (fun k => vm.ownBlock = some k) W w2 := Only.ofGrown hg
  have h12 : Only (fun k => vm.ownBlock = some k) w w2 := hW.trans h2 (fun x hx => .inl hx)
  have hnew : ∀ k, v'.ownBlock = some k → vm.ownBlock = some k ∨ W.heap.size ≤ k := fun k hk => by
    rcases hl with hl | hl
    · exact .inl (hl ▸ hk)
    · rw [hl] at hk
      cases hk
      exact .inr (Nat.le_refl _)
  have hz : (w2.setCell ⟨F, 21, none⟩ v').heap.size = w2.heap.size := by simp [World.setCell]
  refine ⟨⟨h.lo, by rw [hz]; exact Nat.lt_of_lt_of_le h.hi h12.size, ?_, ?_, ?_, ?_, ?_, h.ap, ?_, ?_⟩, ?_, ?_⟩
  · exact cells_set (xs := lcells l vm vp) (fun j u hu => (h12.cell (p := ⟨F, j, none⟩) h.hi h.am).trans (h.cell j u hu)) 21 v'
  · intro j
    rw [World.frozen?_setCell]
    exact (h12.frozen (p := ⟨F, j, none⟩) h.hi h.am).trans (h.frozen j)
  · refine ownsRow_setCell_other hown (fun hk => ?_) _
    rcases hnew F hk with h3 | h3
    · exact h.am h3
    · omega
  · refine ownsRow_setCell_other (h12.own h.prow (fun k hk hm => h.amp k hm hk)) ?_ _
    exact h.ap
  · intro hk
    rcases hnew F hk with h3 | h3
    · exact h.am h3
    · omega
  · intro g hg1 hg2
    rcases hnew g hg1 with h3 | h3
    · exact h.amp g h3 hg2
    · have := (h.prow.lt g hg2).2
      have := hW.size
      omega
  · refine blk_set ?_ _ _ _
    obtain ⟨c, hc⟩ := h.blk
    exact ⟨c, (h12.block F h.hi h.am).trans hc⟩
  · refine Only.setCell ?_ (.inl (.inl rfl)) _
    exact h12.mono (fun x hx => .inr (.inl hx))
  · intro k hk
    rcases hnew k hk with h3 | h3
    · exact .inl h3
    · exact .inr (Nat.le_trans hW.size h3)

/-- What miss leaves. -/
def Missed (w : World) (B F : Nat) (l : Lk) (vm vp : Value) (e : Ending) (w' : World) : Prop :=
  ∃ r m' v', e = .returned (.bool r) ∧ m'.length ≤ 6 ∧ EntAt w' B F { l with missed := m' } v' vp ∧ Only (foot F vm vp) w w' ∧ ∀ k, v'.ownBlock = some k → vm.ownBlock = some k ∨ w.heap.size ≤ k

end Go.Proofs.Qxb6613544a
