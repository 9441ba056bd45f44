/-
  judgeOpen: ALL LINKS, THE OPEN LIST AND THE PEERS GONE IN MEMORY.
-/
import Derived.Test.Qxb6613544aJudge
namespace Go.Proofs.Qxb6613544a
open Go.RowKit

/-- One link with its two rows. -/
structure Ent where
  l : Lk
  vm : Value
  vp : Value

def Ent.foot (e : Ent) (F k : Nat) : Prop := Qxb6613544a.foot F e.vm e.vp k

theorem EntAt.foot_lt {w : World} {B F : Nat} {l : Lk} {vm vp : Value} (h : EntAt w B F l vm vp) {k : Nat} (hk : foot F vm vp k) : k < w.heap.size := by
  rcases hk with rfl | hk | hk
  · exact h.hi
  · exact (h.mrow.lt k hk).2
  · exact (h.prow.lt k hk).2

def ptrV (F : Nat) : Value := .pointer (some ⟨F, 0, none⟩)

/-- The peers of a row of IDs. -/
def grow : List (Nat → Int) → List Value
  | [] => []
  | p :: ps => pcells p ++ grow ps

theorem grow_append : ∀ ps qs : List (Nat → Int), grow (ps ++ qs) = grow ps ++ grow qs
  | [], _ => rfl
  | p :: ps, qs => by simp only [List.cons_append, grow, grow_append ps qs, List.append_assoc]

theorem pcells_length (p : Nat → Int) : (pcells p).length = 20 := rfl
theorem pcells_one (p : Nat → Int) : ∀ u ∈ pcells p, u.oneCell' = true := by
  intro u hu
  simp only [pcells, List.mem_cons, List.not_mem_nil, or_false] at hu
  rcases hu with rfl | rfl | rfl | rfl | rfl | rfl | rfl | rfl | rfl | rfl | rfl | rfl | rfl | rfl | rfl | rfl | rfl | rfl | rfl | rfl <;> rfl

/-- The blocks that judging may write. -/
def Zone (n : Nat) (Fs : Nat → Nat) (es : Nat → Ent) (bb go : Nat) (vg : Value) (k : Nat) : Prop :=
  (∃ i, i < n ∧ (es i).foot (Fs i) k) ∨ k = bb ∨ k = go ∨ vg.ownBlock = some k

structure Net (w : World) (B n : Nat) (Fs : Nat → Nat) (es : Nat → Ent) (bb go : Nat) (vg : Value) : Prop where
  ent : ∀ i, i < n → EntAt w B (Fs i) (es i).l (es i).vm (es i).vp
  apart : ∀ i j k, i < n → j < n → i ≠ j → (es i).foot (Fs i) k → ¬ (es j).foot (Fs j) k
  nb : ∀ i, i < n → ¬ (es i).foot (Fs i) bb
  no : ∀ i, i < n → ¬ (es i).foot (Fs i) go
  ng : ∀ i k, i < n → vg.ownBlock = some k → ¬ (es i).foot (Fs i) k
  gb : vg.ownBlock ≠ some bb
  gg : vg.ownBlock ≠ some go
  bo : bb ≠ go

/-- What holds of the memory all along; w0: the world at the call, es0, vg0: the links and the peers gone there. -/
structure Core (w0 : World) (B n : Nat) (Fs : Nat → Nat) (es0 : Nat → Ent) (bb go : Nat) (vg0 : Value) (period tick : Int) (hyst : Nat) (ticks : Int) (L cap : Nat) (vo : Value) (w : World) (es : Nat → Ent) (vg : Value) (gs : List (Nat → Int)) (xs : List Value) : Prop where
  net : Net w B n Fs es bb go vg
  box : BoxAt w B bb period tick hyst ticks
  c7 : w.cell? ⟨bb, 7, none⟩ = some vo
  c9 : w.cell? ⟨bb, 9, none⟩ = some vg
  opn : w.ownsRow B 35 1 (.slice (some ⟨go, 0, none⟩) L cap) L xs
  gone : w.ownsRow B 39 20 vg gs.length (grow gs)
  only : Only (Zone n Fs es0 bb go vg0) w0 w
  new : ∀ k, Zone n Fs es bb go vg k → Zone n Fs es0 bb go vg0 k ∨ w0.heap.size ≤ k
  good : ∀ i, i < n → (es i).l.Good ticks
  alike : ∀ i, i < n → (es0 i).l.Alike (es i).l

section
variable {w0 : World} {B n : Nat} {Fs : Nat → Nat} {es0 : Nat → Ent} {bb go : Nat} {vg0 : Value} {period tick : Int} {hyst : Nat} {ticks : Int} {L cap : Nat} {vo : Value} {w : World} {es : Nat → Ent} {vg : Value} {gs : List (Nat → Int)} {xs : List Value}

/-- A step that leaves all of the zone as it was. -/
theorem Core.later {w' : World} (h : Core w0 B n Fs es0 bb go vg0 period tick hyst ticks L cap vo w es vg gs xs) (ho : Only (fun _ => False) w w') : Core w0 B n Fs es0 bb go vg0 period tick hyst ticks L cap vo w' es vg gs xs where
  net := ⟨fun i hi => (h.net.ent i hi).kept ho (fun _ _ hf => hf), h.net.apart, h.net.nb, h.net.no, h.net.ng, h.net.gb, h.net.gg, h.net.bo⟩
  box := h.box.kept ho (fun hf => hf)
  c7 := (ho.cell (p := ⟨bb, 7, none⟩) h.box.hi (fun hf => hf)).trans h.c7
  c9 := (ho.cell (p := ⟨bb, 9, none⟩) h.box.hi (fun hf => hf)).trans h.c9
  opn := ho.own h.opn (fun _ _ hf => hf)
  gone := ho.own h.gone (fun _ _ hf => hf)
  only := h.only.trans ho (fun _ hf => hf.elim)
  new := h.new
  good := h.good
  alike := h.alike

def upd (es : Nat → Ent) (k : Nat) (e : Ent) (i : Nat) : Ent := if i = k then e else es i

theorem upd_same (es : Nat → Ent) (k : Nat) (e : Ent) : upd es k e k = e := by simp [upd]
theorem upd_other (es : Nat → Ent) {k i : Nat} (e : Ent) (h : i ≠ k) : upd es k e i = es i := by simp [upd, h]

/-- One link is judged. -/
theorem Core.judge {w' : World} {k : Nat} {g : Bool} {l' : Lk} {vm' vp' : Value} (h : Core w0 B n Fs es0 bb go vg0 period tick hyst ticks L cap vo w es vg gs xs) (hk : k < n)
    (hj : Judged w B (Fs k) (es k).l (es k).vm (es k).vp period tick ticks g w' l' vm' vp') :
    Core w0 B n Fs es0 bb go vg0 period tick hyst ticks L cap vo w' (upd es k ⟨l', vm', vp'⟩) vg gs xs := by
  have hfl : ∀ i j, i < n → (es i).foot (Fs i) j → j < w.heap.size := fun i j hi hf => (h.net.ent i hi).foot_lt hf
  have hnew : ∀ j, (upd es k ⟨l', vm', vp'⟩ k).foot (Fs k) j → (es k).foot (Fs k) j ∨ w.heap.size ≤ j := fun j hf => by
    rw [upd_same] at hf
    exact hj.new j hf
  have hgl : ∀ j, vg.ownBlock = some j → j < w.heap.size := fun j hg => (h.gone.lt j hg).2
  have hol : go < w.heap.size := (h.opn.lt go rfl).2
  refine ⟨⟨?_, ?_, ?_, ?_, ?_, h.net.gb, h.net.gg, h.net.bo⟩, ?_, ?_, ?_, ?_, ?_, ?_, ?_, ?_, ?_⟩
  · intro i hi
    by_cases e : i = k
    · subst e
      rw [upd_same]
      exact hj.ent
    · rw [upd_other _ _ e]
      exact (h.net.ent i hi).kept hj.only (fun j hf hc => h.net.apart i k j hi hk e hf hc)
  · intro i j b hi hj2 hne hf
    by_cases e : i = k
    · subst e
      rw [upd_other _ _ (fun e => hne e.symm)]
      rcases hnew b hf with h1 | h1
      · exact h.net.apart i j b hi hj2 hne h1
      · intro hc
        have := hfl j b hj2 hc
        omega
    · rw [upd_other _ _ e] at hf
      by_cases e2 : j = k
      · subst e2
        intro hc
        rcases hnew b hc with h1 | h1
        · exact h.net.apart i j b hi hj2 hne hf h1
        · have := hfl i b hi hf
          omega
      · rw [upd_other _ _ e2]
        exact h.net.apart i j b hi hj2 hne hf
  · intro i hi
    by_cases e : i = k
    · subst e
      intro hc
      rcases hnew bb hc with h1 | h1
      · exact h.net.nb i hi h1
      · have := h.box.hi
        omega
    · rw [upd_other _ _ e]
      exact h.net.nb i hi
  · intro i hi
    by_cases e : i = k
    · subst e
      intro hc
      rcases hnew go hc with h1 | h1
      · exact h.net.no i hi h1
      · omega
    · rw [upd_other _ _ e]
      exact h.net.no i hi
  · intro i b hi hg
    by_cases e : i = k
    · subst e
      intro hc
      rcases hnew b hc with h1 | h1
      · exact h.net.ng i b hi hg h1
      · have := hgl b hg
        omega
    · rw [upd_other _ _ e]
      exact h.net.ng i b hi hg
  · exact h.box.kept hj.only (h.net.nb k hk)
  · exact (hj.only.cell (p := ⟨bb, 7, none⟩) h.box.hi (h.net.nb k hk)).trans h.c7
  · exact (hj.only.cell (p := ⟨bb, 9, none⟩) h.box.hi (h.net.nb k hk)).trans h.c9
  · exact hj.only.own h.opn (fun b hb hc => by cases hb; exact h.net.no k hk hc)
  · exact hj.only.own h.gone (fun b hb hc => h.net.ng k b hk hb hc)
  · exact h.only.trans hj.only (fun b hb => h.new b (.inl ⟨k, hk, hb⟩))
  · rintro b (⟨i, hi, hf⟩ | hb)
    · by_cases e : i = k
      · subst e
        rcases hnew b hf with h1 | h1
        · exact h.new b (.inl ⟨i, hi, h1⟩)
        · exact .inr (Nat.le_trans h.only.size h1)
      · rw [upd_other _ _ e] at hf
        exact h.new b (.inl ⟨i, hi, hf⟩)
    · exact h.new b (.inr hb)
  · intro i hi
    by_cases e : i = k
    · subst e
      rw [upd_same]
      exact hj.good
    · rw [upd_other _ _ e]
      exact h.good i hi
  · intro i hi
    by_cases e : i = k
    · subst e
      rw [upd_same]
      have a := h.alike i hi
      have b := hj.alike
      exact ⟨b.peer.trans a.peer, b.rtt.trans a.rtt, b.timed.trans a.timed, b.srtt.trans a.srtt, b.rttvar.trans a.rttvar, b.dropped.trans a.dropped⟩
    · rw [upd_other _ _ e]
      exact h.alike i hi

theorem box_set {w : World} {B bb : Nat} {period tick : Int} {hyst : Nat} {ticks : Int} (h : BoxAt w B bb period tick hyst ticks) (r : Nat) (hr : 5 ≤ r) (v : Value) : BoxAt (w.setCell ⟨bb, r, none⟩ v) B bb period tick hyst ticks where
  lo := h.lo
  hi := by simpa [World.setCell] using h.hi
  c0 := (World.cell?_setCell_other _ _ _ _ (fun e => by have := congrArg Addr.off e; simp at this; omega)).trans h.c0
  c1 := (World.cell?_setCell_other _ _ _ _ (fun e => by have := congrArg Addr.off e; simp at this; omega)).trans h.c1
  c2 := (World.cell?_setCell_other _ _ _ _ (fun e => by have := congrArg Addr.off e; simp at this; omega)).trans h.c2
  c4 := (World.cell?_setCell_other _ _ _ _ (fun e => by have := congrArg Addr.off e; simp at this; omega)).trans h.c4
  frozen := fun j => by rw [World.frozen?_setCell]; exact h.frozen j

/-- One more peer is gone. -/
theorem Core.noteGone {w2 : World} {v' : Value} {p : Nat → Int} (h : Core w0 B n Fs es0 bb go vg0 period tick hyst ticks L cap vo w es vg gs xs)
    (hown : w2.ownsRow B 39 20 v' (gs.length + 1) (grow gs ++ pcells p)) (hg : w.grownBy w2 vg.ownBlock) (hl : v'.ownBlock = vg.ownBlock ∨ v'.ownBlock = some w.heap.size) :
    Core w0 B n Fs es0 bb go vg0 period tick hyst ticks L cap vo (w2.setCell ⟨bb, 9, none⟩ v') es v' (gs ++ [p]) xs := by
  have h2 : Only (fun k => vg.ownBlock = some k) w w2 := Only.ofGrown hg
  have hz : (w2.setCell ⟨bb, 9, none⟩ v').heap.size = w2.heap.size := by simp [World.setCell]
  have h3 : Only (fun k => vg.ownBlock = some k ∨ k = bb) w (w2.setCell ⟨bb, 9, none⟩ v') := Only.setCell (h2.mono (fun _ hx => .inl hx)) (.inl (.inr rfl)) _
  have hnew : ∀ k, v'.ownBlock = some k → vg.ownBlock = some k ∨ w.heap.size ≤ k := fun k hk => by
    rcases hl with hl | hl
    · exact .inl (hl ▸ hk)
    · rw [hl] at hk
      cases hk
      exact .inr (Nat.le_refl _)
  have hbox : BoxAt w2 B bb period tick hyst ticks := h.box.kept h2 h.net.gb
  have hb' : v'.ownBlock ≠ some bb := fun e => by
    rcases hnew bb e with h1 | h1
    · exact h.net.gb h1
    · have := h.box.hi
      omega
  refine ⟨⟨?_, h.net.apart, h.net.nb, h.net.no, ?_, hb', ?_, h.net.bo⟩, box_set hbox 9 (by omega) _, ?_, ?_, ?_, ?_, ?_, ?_, h.good, h.alike⟩
  · intro i hi
    refine (h.net.ent i hi).kept h3 (fun k hf hc => ?_)
    rcases hc with hc | rfl
    · exact h.net.ng i k hi hc hf
    · exact h.net.nb i hi hf
  · intro i k hi hk hf
    rcases hnew k hk with h1 | h1
    · exact h.net.ng i k hi h1 hf
    · have := (h.net.ent i hi).foot_lt hf
      omega
  · intro e
    rcases hnew go e with h1 | h1
    · exact h.net.gg h1
    · have := (h.opn.lt go rfl).2
      omega
  · exact (World.cell?_setCell_other _ _ _ _ (by simp)).trans ((h2.cell (p := ⟨bb, 7, none⟩) h.box.hi h.net.gb).trans h.c7)
  · exact World.cell?_setCell_same _ _ _ ((h2.cell (p := ⟨bb, 9, none⟩) h.box.hi h.net.gb).trans h.c9)
  · refine h3.own h.opn (fun k hk hc => ?_)
    cases hk
    rcases hc with hc | hc
    · exact h.net.gg hc
    · exact h.net.bo hc.symm
  · rw [List.length_append, grow_append]
    have e : grow [p] = pcells p := List.append_nil _
    rw [e]
    exact ownsRow_setCell_other hown hb' _
  · refine h.only.trans h3 (fun k hk => h.new k ?_)
    rcases hk with hk | hk
    · exact .inr (.inr (.inr hk))
    · exact .inr (.inl hk)
  · rintro k (hk | hk | hk | hk)
    · exact h.new k (.inl hk)
    · exact h.new k (.inr (.inl hk))
    · exact h.new k (.inr (.inr (.inl hk)))
    · rcases hnew k hk with h1 | h1
      · exact h.new k (.inr (.inr (.inr h1)))
      · exact .inr (Nat.le_trans h.only.size h1)

theorem own_set {w : World} {base : Nat} {e : TypeId} {g n cap m : Nat} {xs : List Value} (h : w.ownsRow base e 1 (.slice (some ⟨g, 0, none⟩) n cap) n xs) (v : Value) : (w.setCell ⟨g, m, none⟩ v).ownsRow base e 1 (.slice (some ⟨g, 0, none⟩) n cap) n (xs.set m v) := by
  refine ⟨by rw [List.length_set]; exact h.1, ?_⟩
  rcases h.2 with ⟨h0, _⟩ | ⟨g', cap', cur, hv, hb, hg, hc, hmx, hs, ht⟩
  · cases h0
  · cases hv
    refine .inr ⟨g, cap, cur.setIfInBounds m v, rfl, hb, ?_, hc, hmx, by simpa using hs, ?_⟩
    · simp [World.setCell, Array.getElem?_modify, hg]
    · rw [← ht, Array.toList_setIfInBounds, List.take_set]

/-- A link is kept open. -/
theorem Core.put {m : Nat} (h : Core w0 B n Fs es0 bb go vg0 period tick hyst ticks L cap vo w es vg gs xs) (v : Value) :
    Core w0 B n Fs es0 bb go vg0 period tick hyst ticks L cap vo (w.setCell ⟨go, m, none⟩ v) es vg gs (xs.set m v) := by
  have h3 : Only (fun k => k = go) w (w.setCell ⟨go, m, none⟩ v) := Only.setCell (Only.refl (fun k => k = go) w) (p := ⟨go, m, none⟩) (.inl rfl) _
  exact ⟨⟨fun i hi => (h.net.ent i hi).kept h3 (fun k hf hc => h.net.no i hi (hc ▸ hf)), h.net.apart, h.net.nb, h.net.no, h.net.ng, h.net.gb, h.net.gg, h.net.bo⟩, h.box.kept h3 h.net.bo,
    (h3.cell (p := ⟨bb, 7, none⟩) h.box.hi h.net.bo).trans h.c7, (h3.cell (p := ⟨bb, 9, none⟩) h.box.hi h.net.bo).trans h.c9, own_set h.opn v, h3.own h.gone (fun k hk hc => h.net.gg (hc ▸ hk)), h.only.trans h3 (fun k hk => h.new k (.inr (.inr (.inl hk)))), h.new, h.good, h.alike⟩

end

end Go.Proofs.Qxb6613544a
