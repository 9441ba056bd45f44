/-
  judge: WHAT A STEP DOES TO A LINK.
-/
import Derived.Test.Qxb6613544aMissData
namespace Go.Proofs.Qxb6613544a
open Go.RowKit

/-- Nothing of the link is judged any more. -/
def Settled (period tick ticks : Int) (l : Lk) : Prop :=
  match l.pending with
  | [] => True
  | s :: _ => s.acked = false ∧ (ticks - s.tick) * tick < l.due period tick

/-- What judging keeps of a link. -/
structure Lk.Alike (l l' : Lk) : Prop where
  peer : l'.peer = l.peer
  rtt : l'.rtt = l.rtt
  timed : l'.timed = l.timed
  srtt : l'.srtt = l.srtt
  rttvar : l'.rttvar = l.rttvar
  dropped : l'.dropped = l.dropped

theorem Lk.Alike.due {l l' : Lk} (h : l.Alike l') (p t : Int) : l'.due p t = l.due p t := by
  unfold Lk.due
  rw [h.rtt, h.timed, h.srtt, h.rttvar]

structure Lk.Good (l : Lk) (ticks : Int) : Prop where
  ok : l.Ok ticks
  m6 : l.missed.length ≤ 6
  loss : ∃ K, Fl K l.loss ∧ K + l.pending.length ≤ 1048576

structure Judged (w : World) (B F : Nat) (l : Lk) (vm vp : Value) (period tick ticks : Int) (g : Bool) (w' : World) (l' : Lk) (vm' vp' : Value) : Prop where
  ent : EntAt w' B F l' vm' vp'
  only : Only (foot F vm vp) w w'
  new : ∀ k, foot F vm' vp' k → foot F vm vp k ∨ w.heap.size ≤ k
  good : l'.Good ticks
  alike : l.Alike l'
  stay : Settled period tick ticks l → l' = l ∧ g = false

theorem Judged.start {w : World} {B F : Nat} {l : Lk} {vm vp : Value} {period tick ticks : Int} (h : EntAt w B F l vm vp) (hg : l.Good ticks) : Judged w B F l vm vp period tick ticks false w l vm vp :=
  ⟨h, Only.refl _ _, fun _ h => .inl h, hg, ⟨rfl, rfl, rfl, rfl, rfl, rfl⟩, fun _ => ⟨rfl, rfl⟩⟩

theorem EntAt.setLoss {w : World} {B F : Nat} {l : Lk} {vm vp : Value} (h : EntAt w B F l vm vp) (x : Nat) : EntAt (w.setCell ⟨F, 20, none⟩ (.float .f64 x)) B F { l with loss := x } vm vp where
  lo := h.lo
  hi := by simpa [World.setCell] using h.hi
  cell := cells_set (xs := lcells l vm vp) h.cell 20 (.float .f64 x)
  frozen := fun j => by rw [World.frozen?_setCell]; exact h.frozen j
  mrow := ownsRow_setCell_other h.mrow h.am _
  prow := ownsRow_setCell_other h.prow h.ap _
  am := h.am
  ap := h.ap
  amp := h.amp
  blk := blk_set h.blk _ _ _

theorem EntAt.setPending {w w2 : World} {B F : Nat} {l : Lk} {vm vp v' : Value} {p' : List Bc} (h : EntAt w B F l vm vp) (hW : Only (fun k => vp.ownBlock = some k) w w2) (hown : w2.ownsRow B 79 3 v' p'.length (brow p')) (hv : v'.ownBlock = vp.ownBlock) :
    EntAt (w2.setCell ⟨F, 23, none⟩ v') B F { l with pending := p' } vm v' where
  lo := h.lo
  hi := by have := hW.size; have := h.hi; simp [World.setCell]; omega
  cell := cells_set (xs := lcells l vm vp) (fun j u hu => (hW.cell (p := ⟨F, j, none⟩) h.hi h.ap).trans (h.cell j u hu)) 23 v'
  frozen := fun j => by rw [World.frozen?_setCell]; exact (hW.frozen (p := ⟨F, j, none⟩) h.hi h.ap).trans (h.frozen j)
  mrow := ownsRow_setCell_other (hW.own h.mrow (fun k hk hm => h.amp k hk hm)) h.am _
  prow := ownsRow_setCell_other hown (by rw [hv]; exact h.ap) _
  am := h.am
  ap := by rw [hv]; exact h.ap
  amp := fun g hg => by rw [hv]; exact h.amp g hg
  blk := blk_set (by
    obtain ⟨c, hc⟩ := h.blk
    exact ⟨c, (hW.block F h.hi h.ap).trans hc⟩) _ _ _

theorem EntAt.cutMissed {w : World} {B F : Nat} {l : Lk} {vm vp v' : Value} (h : EntAt w B F l vm vp) (hown : w.ownsRow B 79 3 v' 0 []) (hv : v'.ownBlock = vm.ownBlock) :
    EntAt (w.setCell ⟨F, 21, none⟩ v') B F { l with missed := [] } v' vp where
  lo := h.lo
  hi := by simpa [World.setCell] using h.hi
  cell := cells_set (xs := lcells l vm vp) h.cell 21 v'
  frozen := fun j => by rw [World.frozen?_setCell]; exact h.frozen j
  mrow := ownsRow_setCell_other hown (by rw [hv]; exact h.am) _
  prow := ownsRow_setCell_other h.prow h.ap _
  am := by rw [hv]; exact h.am
  ap := h.ap
  amp := fun g hg => h.amp g (by rw [← hv]; exact hg)
  blk := blk_set h.blk _ _ _

/-- One more beacon is judged: the link behind it. -/
theorem Judged.round {w wr w4 : World} {B F : Nat} {l l1 : Lk} {vm vp vm1 vp1 vm2 vp2 : Value} {period tick ticks : Int} {g g' : Bool} {s : Bc} {rest m' : List Bc} {x : Nat}
    (h : Judged w B F l vm vp period tick ticks g wr l1 vm1 vp1) (hp : l1.pending = s :: rest) (hns : ¬ (s.acked = false ∧ (ticks - s.tick) * tick < l1.due period tick))
    (he : EntAt w4 B F { l1 with missed := m', loss := x, pending := rest } vm2 vp2) (ho : Only (foot F vm1 vp1) wr w4) (hn : ∀ k, foot F vm2 vp2 k → foot F vm1 vp1 k ∨ wr.heap.size ≤ k)
    (hm : m'.length ≤ 6) (hx : ∀ K, Fl K l1.loss → K + 1 ≤ 2 ^ 52 → Fl (K + 1) x) :
    Judged w B F l vm vp period tick ticks g' w4 { l1 with missed := m', loss := x, pending := rest } vm2 vp2 where
  ent := he
  only := h.only.trans ho (fun k hk => h.new k hk)
  new := fun k hk => by
    rcases hn k hk with h1 | h1
    · exact h.new k h1
    · exact .inr (Nat.le_trans h.only.size h1)
  good := by
    obtain ⟨⟨r0, r1, s0, s1, v0, v1, hpd⟩, _, K, hK, hb⟩ := h.good
    rw [hp] at hb hpd
    simp at hb
    exact ⟨⟨r0, r1, s0, s1, v0, v1, fun b hb => hpd b (List.mem_cons_of_mem _ hb)⟩, hm, K + 1, hx K hK (by omega), by show K + 1 + rest.length ≤ 1048576; omega⟩
  alike := ⟨h.alike.peer, h.alike.rtt, h.alike.timed, h.alike.srtt, h.alike.rttvar, h.alike.dropped⟩
  stay := fun hs => by
    have h1 := (h.stay hs).1
    subst h1
    unfold Settled at hs
    rw [hp] at hs
    exact (hns hs).elim

end Go.Proofs.Qxb6613544a
