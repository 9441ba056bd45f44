/-
  THE LAW: WHAT IT NOTES OF EACH LINK BETWEEN THE JUDGINGS.
-/
import Derived.Test.Qxb6613544aLawEnv
namespace Go.Proofs.Qxb6613544a
open Go.RowKit

/-- The rows pend1, miss1, loss1. -/
structure Recs (wx : World) (base pb mb lb len np nm nl : Nat) (es : Nat → Ent) (P M : List Value) : Prop where
  pl : pb < base
  ml : mb < base
  ll : lb < base
  pm : pb ≠ mb
  pq : pb ≠ lb
  mq : mb ≠ lb
  pr : wx.ownsRow 0 42 1 (.slice (some ⟨pb, 0, none⟩) np len) np P
  mr : wx.ownsRow 0 42 1 (.slice (some ⟨mb, 0, none⟩) nm len) nm M
  lr : wx.ownsRow 0 22 1 (.slice (some ⟨lb, 0, none⟩) nl len) nl ((List.range nl).map (fun z => Value.float .f64 (es z).l.loss))
  pe : ∀ z v, P[z]? = some v → wx.ownsRow base 50 3 v (es z).l.pending.length (brow (es z).l.pending)
  me : ∀ z v, M[z]? = some v → wx.ownsRow base 50 3 v (es z).l.missed.length (brow (es z).l.missed)

theorem Recs.later {wx wy : World} {base pb mb lb len np nm nl : Nat} {es : Nat → Ent} {P M : List Value} (h : Recs wx base pb mb lb len np nm nl es P M) {S : Nat → Prop} (ho : Only S wx wy) (hs : ∀ x, S x → x < base ∧ x ≠ pb ∧ x ≠ mb ∧ x ≠ lb) : Recs wy base pb mb lb len np nm nl es P M where
  pl := h.pl
  ml := h.ml
  ll := h.ll
  pm := h.pm
  pq := h.pq
  mq := h.mq
  pr := ho.own h.pr (fun x hx hc => by have e : pb = x := Option.some.inj hx; have := hs x hc; omega)
  mr := ho.own h.mr (fun x hx hc => by have e : mb = x := Option.some.inj hx; have := hs x hc; omega)
  lr := ho.own h.lr (fun x hx hc => by have e : lb = x := Option.some.inj hx; have := hs x hc; omega)
  pe := fun z v hv => ho.own (h.pe z v hv) (fun x hx hc => by have a := ((h.pe z v hv).lt x hx).1; have := hs x hc; omega)
  me := fun z v hv => ho.own (h.me z v hv) (fun x hx hc => by have a := ((h.me z v hv).lt x hx).1; have := hs x hc; omega)

theorem only_grown {w w' : World} {g : Nat} (h : w.grownBy w' (some g)) : Only (fun x => x = g) w w' := ⟨h.os, h.tape, h.output, h.size, fun i hi hn => h.block i hi (fun e => hn (Option.some.inj e))⟩

theorem Recs.pend {wx wy : World} {base pb mb lb len np nm nl : Nat} {es : Nat → Ent} {P M : List Value} {v : Value} (h : Recs wx base pb mb lb len np nm nl es P M) (hv : wx.ownsRow base 50 3 v (es np).l.pending.length (brow (es np).l.pending))
    (ho : wy.ownsRow 0 42 1 (.slice (some ⟨pb, 0, none⟩) (np + 1) len) (np + 1) (P ++ [v])) (hg : wx.grownBy wy (some pb)) : Recs wy base pb mb lb len (np + 1) nm nl es (P ++ [v]) M := by
  have hoo := only_grown hg
  have hpl : P.length = np := by have := h.pr.1; omega
  have hpl2 := h.pl
  refine ⟨h.pl, h.ml, h.ll, h.pm, h.pq, h.mq, ho, hoo.own h.mr (fun x hx hc => ?_), hoo.own h.lr (fun x hx hc => ?_), fun z u hu => ?_, fun z u hu => hoo.own (h.me z u hu) (fun x hx hc => ?_)⟩
  · have e : mb = x := Option.some.inj hx
    exact h.pm (by omega)
  · have e : lb = x := Option.some.inj hx
    exact h.pq (by omega)
  · have key : ∀ z u, (P ++ [v])[z]? = some u → wx.ownsRow base 50 3 u (es z).l.pending.length (brow (es z).l.pending) := fun z u hu => by
      by_cases hz : z < P.length
      · rw [List.getElem?_append_left hz] at hu
        exact h.pe z u hu
      · rw [List.getElem?_append_right (by omega)] at hu
        have hz0 : z - P.length = 0 := by
          have := (List.getElem?_eq_some_iff.1 hu).1
          simp at this
          omega
        rw [hz0] at hu
        simp at hu
        have : z = np := by omega
        rw [this, ← hu]
        exact hv
    exact hoo.own (key z u hu) (fun x hx hc => by have a := ((key z u hu).lt x hx).1; omega)
  · have a := ((h.me z u hu).lt x hx).1
    omega

theorem Recs.miss {wx wy : World} {base pb mb lb len np nm nl : Nat} {es : Nat → Ent} {P M : List Value} {v : Value} (h : Recs wx base pb mb lb len np nm nl es P M) (hv : wx.ownsRow base 50 3 v (es nm).l.missed.length (brow (es nm).l.missed))
    (ho : wy.ownsRow 0 42 1 (.slice (some ⟨mb, 0, none⟩) (nm + 1) len) (nm + 1) (M ++ [v])) (hg : wx.grownBy wy (some mb)) : Recs wy base pb mb lb len np (nm + 1) nl es P (M ++ [v]) := by
  have hoo := only_grown hg
  have hpl : M.length = nm := by have := h.mr.1; omega
  have hpl2 := h.ml
  refine ⟨h.pl, h.ml, h.ll, h.pm, h.pq, h.mq, hoo.own h.pr (fun x hx hc => ?_), ho, hoo.own h.lr (fun x hx hc => ?_), fun z u hu => hoo.own (h.pe z u hu) (fun x hx hc => ?_), fun z u hu => ?_⟩
  · have e : pb = x := Option.some.inj hx
    exact h.pm (by omega)
  · have e : lb = x := Option.some.inj hx
    exact h.mq (by omega)
  · have a := ((h.pe z u hu).lt x hx).1
    omega
  · have key : ∀ z u, (M ++ [v])[z]? = some u → wx.ownsRow base 50 3 u (es z).l.missed.length (brow (es z).l.missed) := fun z u hu => by
      by_cases hz : z < M.length
      · rw [List.getElem?_append_left hz] at hu
        exact h.me z u hu
      · rw [List.getElem?_append_right (by omega)] at hu
        have hz0 : z - M.length = 0 := by
          have := (List.getElem?_eq_some_iff.1 hu).1
          simp at this
          omega
        rw [hz0] at hu
        simp at hu
        have : z = nm := by omega
        rw [this, ← hu]
        exact hv
    exact hoo.own (key z u hu) (fun x hx hc => by have a := ((key z u hu).lt x hx).1; omega)

theorem Recs.lose {wx wy : World} {base pb mb lb len np nm nl : Nat} {es : Nat → Ent} {P M : List Value} (h : Recs wx base pb mb lb len np nm nl es P M)
    (ho : wy.ownsRow 0 22 1 (.slice (some ⟨lb, 0, none⟩) (nl + 1) len) (nl + 1) ((List.range nl).map (fun z => Value.float .f64 (es z).l.loss) ++ [Value.float .f64 (es nl).l.loss])) (hg : wx.grownBy wy (some lb)) : Recs wy base pb mb lb len np nm (nl + 1) es P M := by
  have hoo := only_grown hg
  have hpl2 := h.ll
  refine ⟨h.pl, h.ml, h.ll, h.pm, h.pq, h.mq, hoo.own h.pr (fun x hx hc => ?_), hoo.own h.mr (fun x hx hc => ?_), ?_, fun z u hu => hoo.own (h.pe z u hu) (fun x hx hc => ?_), fun z u hu => hoo.own (h.me z u hu) (fun x hx hc => ?_)⟩
  · have e : pb = x := Option.some.inj hx
    exact h.pq (by omega)
  · have e : mb = x := Option.some.inj hx
    exact h.mq (by omega)
  · rw [range_map_succ]
    exact ho
  · have a := ((h.pe z u hu).lt x hx).1
    omega
  · have a := ((h.me z u hu).lt x hx).1
    omega

theorem Try.info42 : (Try.prog.info? 42).map (fun i => (i.zero, i.size, i.bytes)) = some (some (.slice none 0 0), 1, 24) := by kernel_rfl
theorem Try.info22 : (Try.prog.info? 22).map (fun i => (i.zero, i.size, i.bytes)) = some (some (.float .f64 0), 1, 8) := by kernel_rfl
theorem Try.info38 : (Try.prog.info? 38).map (fun i => (i.zero, i.size, i.bytes)) = some (some zero20, 20, 20) := by kernel_rfl

theorem grow_take_succ (gs : List (Nat → Int)) (j : Nat) (h : j < gs.length) : grow (gs.take (j + 1)) = grow (gs.take j) ++ pcells gs[j] := by
  rw [List.take_succ_eq_append_getElem h, grow_append]
  show _ ++ (pcells gs[j] ++ []) = _
  rw [List.append_nil]

theorem grow_length : ∀ gs : List (Nat → Int), (grow gs).length = gs.length * 20
  | [] => rfl
  | p :: ps => by
    simp only [grow, List.length_append, grow_length ps, List.length_cons, pcells_length]
    omega

theorem grow_at : ∀ (gs : List (Nat → Int)) (i j : Nat) (hi : i < gs.length), j < 20 → (grow gs)[i * 20 + j]? = (pcells gs[i])[j]?
  | p :: ps, 0, j, _, hj => by
    rw [grow, List.getElem?_append_left (by rw [pcells_length]; omega)]
    simp
  | p :: ps, i + 1, j, hi, hj => by
    have e : (i + 1) * 20 + j = (i * 20 + j) + 20 := by omega
    rw [grow, e, List.getElem?_append_right (by rw [pcells_length]; omega), pcells_length, Nat.add_sub_cancel, grow_at ps i j (by simpa using hi) hj]
    simp

/-- The i-th peer of a row of the call's own. -/
theorem own_peer {w : World} {base : Nat} {e : TypeId} {g c : Nat} {gs : List (Nat → Int)} (h : w.ownsRow base e 20 (.slice (some ⟨g, 0, none⟩) gs.length c) gs.length (grow gs)) (i : Nat) (hi : i < gs.length) : w.rangeAt g (i * 20) (pcells gs[i]) := fun j v hv => by
  have hj : j < 20 := (List.getElem?_eq_some_iff.1 hv).1
  have h1 := h.cells (g := g) rfl (i * 20 + j) v (by rw [grow_at gs i j hi hj]; exact hv)
  rw [Addr.add_mid, Nat.zero_add] at h1
  exact h1

end Go.Proofs.Qxb6613544a
