/-
  buildJudge: THE LINKS AS THEY ARE BUILT, ONE BY ONE.
-/
import Derived.Test.Qxb6613544aAddLink
import Derived.Test.Qxb6613544aBeacons
namespace Go.Proofs.Qxb6613544a
open Go.RowKit

theorem own_mono {w : World} {base base' : Nat} {e : TypeId} {size : Nat} {v : Value} {n : Nat} {xs : List Value} (h : w.ownsRow base e size v n xs) (hb : base' ≤ base) : w.ownsRow base' e size v n xs := by
  refine ⟨h.1, ?_⟩
  rcases h.2 with h0 | ⟨g, cap, cur, rfl, hbg, r⟩
  · exact .inl h0
  · exact .inr ⟨g, cap, cur, rfl, Nat.le_trans hb hbg, r⟩

/-- The first k links are built. -/
structure Built (w wr : World) (B k : Nat) (f : Nat → Lk) (Fs : Nat → Nat) (es : Nat → Ent) (lsb cap : Nat) : Prop where
  ent : ∀ i, i < k → EntAt wr B (Fs i) (es i).l (es i).vm (es i).vp
  link : ∀ i, i < k → (es i).l = f i
  apart : ∀ i j x, i < k → j < k → i ≠ j → (es i).foot (Fs i) x → ¬ (es j).foot (Fs j) x
  off : ∀ i, i < k → ¬ (es i).foot (Fs i) lsb
  row : wr.ownsRow B 35 1 (.slice (some ⟨lsb, 0, none⟩) k cap) k ((List.range k).map (fun i => ptrV (Fs i)))
  below : Below B w wr
  size : B ≤ wr.heap.size

/-- A new link's blocks. -/
theorem ent_new {w2 w3 : World} {B sz : Nat} {l : Lk} {v2 v3 : Value} (h2 : w2.ownsRow sz 79 3 v2 l.missed.length (brow l.missed)) (h3 : w3.ownsRow w2.heap.size 79 3 v3 l.pending.length (brow l.pending)) (h23 : Below w2.heap.size w2 w3) (hB : B ≤ sz) (hs : sz ≤ w2.heap.size) :
    EntAt ((w3.alloc (.cells (pcells l.peer).toArray 39)).alloc (.cells (lcells l v2 v3).toArray 83)) B (w3.heap.size + 1) l v2 v3 := by
  have hsz := h23.size
  have hal : Only (fun _ => False) w3 ((w3.alloc (.cells (pcells l.peer).toArray 39)).alloc (.cells (lcells l v2 v3).toArray 83)) := ((Only.refl _ w3).alloc _).alloc _
  have e1 : (w3.alloc (.cells (pcells l.peer).toArray 39)).heap.size = w3.heap.size + 1 := by simp
  have hblk := heap_alloc_new (w3.alloc (.cells (pcells l.peer).toArray 39)) (.cells (lcells l v2 v3).toArray 83)
  rw [e1] at hblk
  have h2' : w3.ownsRow sz 79 3 v2 l.missed.length (brow l.missed) := Only.own (S := fun _ => False) (Only.ofBelow h23) h2 (fun _ _ hf => hf)
  have hl2 : ∀ g, v2.ownBlock = some g → g < w2.heap.size := fun g hg => (h2.lt g hg).2
  have hl3 : ∀ g, v3.ownBlock = some g → w2.heap.size ≤ g ∧ g < w3.heap.size := fun g hg => h3.lt g hg
  refine ⟨by omega, by simp, ?_, ?_, ?_, ?_, ?_, ?_, ?_, ⟨_, hblk⟩⟩
  · intro j u hu
    have h := cells_new (w3.alloc (.cells (pcells l.peer).toArray 39)) (lcells l v2 v3) 83 j u hu
    rw [e1, Addr.add_mid, Nat.zero_add] at h
    exact h
  · intro j
    unfold World.frozen?
    rw [hblk]
    simp
  · exact own_mono (hal.own h2' (fun _ _ hf => hf)) hB
  · exact own_mono (hal.own h3 (fun _ _ hf => hf)) (by omega)
  · intro e
    have := hl2 _ e
    omega
  · intro e
    have := (hl3 _ e).2
    omega
  · intro g hg hg3
    have a1 := hl2 g hg
    have a2 := (hl3 g hg3).1
    omega

theorem range_map_succ (k : Nat) (g : Nat → Value) : (List.range (k + 1)).map g = (List.range k).map g ++ [g k] := by rw [List.range_succ, List.map_append]; rfl

theorem Built.next {w wr w2 w3 w6 : World} {B k : Nat} {f : Nat → Lk} {Fs : Nat → Nat} {es : Nat → Ent} {lsb cap : Nat} {v2 v3 : Value} (h : Built w wr B k f Fs es lsb cap)
    (h2 : w2.ownsRow wr.heap.size 79 3 v2 (f k).missed.length (brow (f k).missed)) (hB2 : Below wr.heap.size wr w2) (h3 : w3.ownsRow w2.heap.size 79 3 v3 (f k).pending.length (brow (f k).pending)) (hB3 : Below w2.heap.size w2 w3)
    (h6 : w6.ownsRow B 35 1 (.slice (some ⟨lsb, 0, none⟩) (k + 1) cap) (k + 1) ((List.range k).map (fun i => ptrV (Fs i)) ++ [ptrV (w3.heap.size + 1)]))
    (hg : (((w3.alloc (.cells (pcells (f k).peer).toArray 39)).alloc (.cells (lcells (f k) v2 v3).toArray 83)).alloc (.cells #[ptrV (w3.heap.size + 1)] 35)).grownBy w6 (some lsb)) :
    Built w w6 B (k + 1) f (fun i => if i = k then w3.heap.size + 1 else Fs i) (upd es k ⟨f k, v2, v3⟩) lsb cap := by
  have hs2 := hB2.size
  have hs3 := hB3.size
  have hlsb : lsb < wr.heap.size := (h.row.lt lsb rfl).2
  have hlB : B ≤ lsb := (h.row.lt lsb rfl).1
  have hE := ent_new h2 h3 hB3 h.size hs2
  have o3 : Only (fun _ => False) wr w3 := (Only.ofBelow (S := fun _ => False) hB2).trans (Only.ofBelow (S := fun _ => False) hB3) (fun _ hf => hf.elim)
  have o4 : Only (fun _ => False) ((w3.alloc (.cells (pcells (f k).peer).toArray 39)).alloc (.cells (lcells (f k) v2 v3).toArray 83)) (((w3.alloc (.cells (pcells (f k).peer).toArray 39)).alloc (.cells (lcells (f k) v2 v3).toArray 83)).alloc (.cells #[ptrV (w3.heap.size + 1)] 35)) := (Only.refl _ _).alloc _
  have o6 : Only (fun x => x = lsb) (((w3.alloc (.cells (pcells (f k).peer).toArray 39)).alloc (.cells (lcells (f k) v2 v3).toArray 83)).alloc (.cells #[ptrV (w3.heap.size + 1)] 35)) w6 := ⟨hg.os, hg.tape, hg.output, hg.size, fun i hi hn => hg.block i hi (fun e => hn (Option.some.inj e))⟩
  have o46 : Only (fun x => x = lsb) ((w3.alloc (.cells (pcells (f k).peer).toArray 39)).alloc (.cells (lcells (f k) v2 v3).toArray 83)) w6 := (o4.mono (fun _ hf => hf.elim)).trans o6 (fun _ hx => .inl hx)
  have o36 : Only (fun x => x = lsb) w3 w6 := ((((Only.refl _ w3).alloc _).alloc _)).trans o46 (fun _ hx => .inl hx)
  have o06 : Only (fun x => x = lsb) wr w6 := (o3.mono (fun _ hf => hf.elim)).trans o36 (fun _ hx => .inl hx)
  have hfl : ∀ i x, i < k → (es i).foot (Fs i) x → x < wr.heap.size := fun i x hi hf => (h.ent i hi).foot_lt hf
  have hnew : ∀ x, foot (w3.heap.size + 1) v2 v3 x → wr.heap.size ≤ x := fun x hx => by
    rcases hx with rfl | hx | hx
    · omega
    · exact (h2.lt x hx).1
    · have := (h3.lt x hx).1
      omega
  refine ⟨?_, ?_, ?_, ?_, ?_, ?_, ?_⟩
  · intro i hi
    by_cases e : i = k
    · subst e
      rw [upd_same, if_pos rfl]
      exact hE.kept o46 (fun x hx hc => by have := hnew x hx; omega)
    · rw [upd_other _ _ e, if_neg e]
      exact (h.ent i (by omega)).kept o06 (fun x hx hc => h.off i (by omega) (hc ▸ hx))
  · intro i hi
    by_cases e : i = k
    · subst e
      rw [upd_same]
    · rw [upd_other _ _ e]
      exact h.link i (by omega)
  · intro i j x hi hj hne hf
    by_cases e : i = k
    · subst e
      have hji : j ≠ i := fun e2 => hne e2.symm
      simp only [if_pos, if_neg hji, upd_same, upd_other _ _ hji] at hf ⊢
      intro hc
      have a1 := hnew x hf
      have a2 := hfl j x (by omega) hc
      omega
    · by_cases e2 : j = k
      · subst e2
        simp only [if_pos, if_neg e, upd_same, upd_other _ _ e] at hf ⊢
        intro hc
        have a1 := hnew x hc
        have a2 := hfl i x (by omega) hf
        omega
      · simp only [if_neg e, if_neg e2, upd_other _ _ e, upd_other _ _ e2] at hf ⊢
        exact h.apart i j x (by omega) (by omega) hne hf
  · intro i hi
    by_cases e : i = k
    · subst e
      simp only [if_pos, upd_same]
      intro hc
      have := hnew lsb hc
      omega
    · simp only [if_neg e, upd_other _ _ e]
      exact h.off i (by omega)
  · rw [range_map_succ]
    have e1 : (List.range k).map (fun i => ptrV (if i = k then w3.heap.size + 1 else Fs i)) = (List.range k).map (fun i => ptrV (Fs i)) := List.map_congr_left (fun i hi => by
      have : i ≠ k := by have := List.mem_range.1 hi; omega
      rw [if_neg this])
    rw [e1, if_pos rfl]
    exact h6
  · exact h.below.trans (o06.below h.size (fun x hx => by omega))
  · have := o06.size
    have := h.size
    omega

end Go.Proofs.Qxb6613544a
