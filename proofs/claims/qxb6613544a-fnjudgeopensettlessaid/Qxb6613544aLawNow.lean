/-
  THE LAW: A ROUND OF NOTING.
-/
import Derived.Test.Qxb6613544aLawRecs
namespace Go.Proofs.Qxb6613544a
open Go.RowKit

structure Now (wg wx : World) (base pb mb lb len np nm nl : Nat) (es : Nat → Ent) (P M : List Value) : Prop where
  recs : Recs wx base pb mb lb len np nm nl es P M
  below : Below pb wg wx
  size : base ≤ wx.heap.size
  plo : pb ≤ wg.heap.size
  mlo : pb ≤ mb
  llo : pb ≤ lb

theorem Now.psize {wg wx : World} {base pb mb lb len np nm nl : Nat} {es : Nat → Ent} {P M : List Value} (h : Now wg wx base pb mb lb len np nm nl es P M) : pb ≤ wx.heap.size := by
  have := h.recs.pl
  have := h.size
  omega

theorem Now.later {wg wx wy : World} {base pb mb lb len np nm nl : Nat} {es : Nat → Ent} {P M : List Value} (h : Now wg wx base pb mb lb len np nm nl es P M) (hB : Below wx.heap.size wx wy) : Now wg wy base pb mb lb len np nm nl es P M where
  recs := h.recs.later (S := fun _ => False) (Only.ofBelow hB) (fun _ hf => hf.elim)
  below := h.below.trans (hB.mono h.psize)
  size := Nat.le_trans h.size hB.size
  plo := h.plo
  mlo := h.mlo
  llo := h.llo

theorem Now.alloc {wg wx : World} {base pb mb lb len np nm nl : Nat} {es : Nat → Ent} {P M : List Value} (h : Now wg wx base pb mb lb len np nm nl es P M) (o : Obj) : Now wg (wx.alloc o) base pb mb lb len np nm nl es P M :=
  h.later ((Below.refl _ _).alloc (Nat.le_refl _) _)

theorem Now.drewN {wg wx : World} {base pb mb lb len np nm nl : Nat} {es : Nat → Ent} {P M : List Value} (h : Now wg wx base pb mb lb len np nm nl es P M) (n : Nat) : Now wg (wx.drewN n) base pb mb lb len np nm nl es P M :=
  h.later ⟨rfl, rfl, rfl, Nat.le_refl _, fun _ _ => rfl⟩

theorem Now.pend {wg wx wy : World} {base pb mb lb len np nm nl : Nat} {es : Nat → Ent} {P M : List Value} {v : Value} (h : Now wg wx base pb mb lb len np nm nl es P M) (hv : wx.ownsRow base 50 3 v (es np).l.pending.length (brow (es np).l.pending))
    (ho : wy.ownsRow 0 42 1 (.slice (some ⟨pb, 0, none⟩) (np + 1) len) (np + 1) (P ++ [v])) (hg : wx.grownBy wy (some pb)) : Now wg wy base pb mb lb len (np + 1) nm nl es (P ++ [v]) M where
  recs := h.recs.pend hv ho hg
  below := h.below.grown hg h.psize (fun j hj => by cases hj; exact Nat.le_refl _)
  size := Nat.le_trans h.size hg.size
  plo := h.plo
  mlo := h.mlo
  llo := h.llo

theorem Now.miss {wg wx wy : World} {base pb mb lb len np nm nl : Nat} {es : Nat → Ent} {P M : List Value} {v : Value} (h : Now wg wx base pb mb lb len np nm nl es P M) (hv : wx.ownsRow base 50 3 v (es nm).l.missed.length (brow (es nm).l.missed))
    (ho : wy.ownsRow 0 42 1 (.slice (some ⟨mb, 0, none⟩) (nm + 1) len) (nm + 1) (M ++ [v])) (hg : wx.grownBy wy (some mb)) : Now wg wy base pb mb lb len np (nm + 1) nl es P (M ++ [v]) where
  recs := h.recs.miss hv ho hg
  below := h.below.grown hg h.psize (fun j hj => by cases hj; exact h.mlo)
  size := Nat.le_trans h.size hg.size
  plo := h.plo
  mlo := h.mlo
  llo := h.llo

theorem Now.lose {wg wx wy : World} {base pb mb lb len np nm nl : Nat} {es : Nat → Ent} {P M : List Value} (h : Now wg wx base pb mb lb len np nm nl es P M)
    (ho : wy.ownsRow 0 22 1 (.slice (some ⟨lb, 0, none⟩) (nl + 1) len) (nl + 1) ((List.range nl).map (fun z => Value.float .f64 (es z).l.loss) ++ [Value.float .f64 (es nl).l.loss])) (hg : wx.grownBy wy (some lb)) : Now wg wy base pb mb lb len np nm (nl + 1) es P M where
  recs := h.recs.lose ho hg
  below := h.below.grown hg h.psize (fun j hj => by cases hj; exact h.llo)
  size := Nat.le_trans h.size hg.size
  plo := h.plo
  mlo := h.mlo
  llo := h.llo

theorem only_none {w w' : World} (h : w.grownBy w' none) : Only (fun _ => False) w w' := ⟨h.os, h.tape, h.output, h.size, fun i hi _ => h.block i hi (by simp)⟩

theorem now_start {wg wp wm wl : World} {pb mb lb base len : Nat} {es : Nat → Ent} (hp : wp.ownsRow 0 42 1 (.slice (some ⟨pb, 0, none⟩) 0 len) 0 []) (hm : wm.ownsRow 0 42 1 (.slice (some ⟨mb, 0, none⟩) 0 len) 0 []) (hl : wl.ownsRow 0 22 1 (.slice (some ⟨lb, 0, none⟩) 0 len) 0 [])
    (gp : wg.grownBy wp none) (gm : wp.grownBy wm none) (gl : wm.grownBy wl none) (hpb : pb = wg.heap.size) (hmb : mb = wp.heap.size) (hlb : lb = wm.heap.size) (hb : base = wl.heap.size) :
    Now wg wl base pb mb lb len 0 0 0 es [] [] := by
  have o1 := only_none gp
  have o2 := only_none gm
  have o3 := only_none gl
  have l1 := (hp.lt pb rfl).2
  have l2 := (hm.lt mb rfl).2
  have l3 := (hl.lt lb rfl).2
  have s1 := o1.size
  have s2 := o2.size
  have s3 := o3.size
  refine ⟨⟨by omega, by omega, by omega, by omega, by omega, by omega, o3.own (o2.own hp (fun _ _ hf => hf)) (fun _ _ hf => hf), o3.own hm (fun _ _ hf => hf), hl, fun z v hv => by simp at hv, fun z v hv => by simp at hv⟩, ?_, by omega, by omega, by omega, by omega⟩
  have o : Only (fun _ => False) wg wl := (o1.trans o2 (fun _ hf => hf.elim)).trans o3 (fun _ hf => hf.elim)
  exact o.below (by omega) (fun _ hf => hf.elim)

/-- The first beacon of a row, whatever the row's type. -/
theorem head_cells' {w : World} {B gp n cp : Nat} {e : TypeId} {s : Bc} {rest : List Bc} (h : w.ownsRow B e 3 (.slice (some ⟨gp, 0, none⟩) n cp) n (brow (s :: rest))) :
    w.cell? ⟨gp, 0, none⟩ = some (.int .u64 s.num) ∧ w.cell? ⟨gp, 1, none⟩ = some (.int .u64 s.tick) ∧ w.cell? ⟨gp, 2, none⟩ = some (.bool s.acked) := by
  have key : ∀ j u, (brow (s :: rest))[j]? = some u → w.cell? ⟨gp, j, none⟩ = some u := fun j u hu => by
    have h1 := h.cells (g := gp) rfl j u hu
    rw [Addr.add_mid, Nat.zero_add] at h1
    exact h1
  exact ⟨key 0 _ rfl, key 1 _ rfl, key 2 _ rfl⟩

end Go.Proofs.Qxb6613544a
