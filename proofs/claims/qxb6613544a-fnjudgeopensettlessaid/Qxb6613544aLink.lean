/-
  A LINK AND THE BEACONING IN MEMORY; due.
-/
import Derived.Test.Qxb6613544aDelete
namespace Go.Proofs.Qxb6613544a
open Go.RowKit

/-- One link. -/
structure Lk where
  peer : Nat → Int
  loss : Nat
  missed : List Bc
  pending : List Bc
  rtt : Int
  timed : Bool
  srtt : Int
  rttvar : Int
  dropped : Bool

def pcells (p : Nat → Int) : List Value := [.int .u8 (p 0), .int .u8 (p 1), .int .u8 (p 2), .int .u8 (p 3), .int .u8 (p 4), .int .u8 (p 5), .int .u8 (p 6), .int .u8 (p 7), .int .u8 (p 8), .int .u8 (p 9), .int .u8 (p 10), .int .u8 (p 11), .int .u8 (p 12), .int .u8 (p 13), .int .u8 (p 14), .int .u8 (p 15), .int .u8 (p 16), .int .u8 (p 17), .int .u8 (p 18), .int .u8 (p 19)]

/-- The 37 cells of a link. -/
def lcells (l : Lk) (vm vp : Value) : List Value :=
  [.int .u8 (l.peer 0), .int .u8 (l.peer 1), .int .u8 (l.peer 2), .int .u8 (l.peer 3), .int .u8 (l.peer 4), .int .u8 (l.peer 5), .int .u8 (l.peer 6), .int .u8 (l.peer 7), .int .u8 (l.peer 8), .int .u8 (l.peer 9), .int .u8 (l.peer 10), .int .u8 (l.peer 11), .int .u8 (l.peer 12), .int .u8 (l.peer 13), .int .u8 (l.peer 14), .int .u8 (l.peer 15), .int .u8 (l.peer 16), .int .u8 (l.peer 17), .int .u8 (l.peer 18), .int .u8 (l.peer 19),
   .float .f64 l.loss, vm, .int .u64 0, vp, .int .u64 0, .int .u64 0, .bool false, .int .u64 0, .int .u64 0, .bool false, .int .i64 l.rtt, .bool l.timed, .int .i64 l.srtt, .int .i64 l.rttvar, .int .u64 0, .int .u64 0, .bool l.dropped]

/-- A link in block F, its two rows in blocks of their own. -/
structure EntAt (w : World) (B F : Nat) (l : Lk) (vm vp : Value) : Prop where
  lo : B ≤ F
  hi : F < w.heap.size
  cell : ∀ j u, (lcells l vm vp)[j]? = some u → w.cell? ⟨F, j, none⟩ = some u
  frozen : ∀ j, w.frozen? ⟨F, j, none⟩ = false
  mrow : w.ownsRow B 79 3 vm l.missed.length (brow l.missed)
  prow : w.ownsRow B 79 3 vp l.pending.length (brow l.pending)
  am : vm.ownBlock ≠ some F
  ap : vp.ownBlock ≠ some F
  amp : ∀ g, vm.ownBlock = some g → vp.ownBlock ≠ some g
  blk : ∃ c, w.heap[F]? = some (.cells c 83 (0, 0))

theorem blk_set {w : World} {F : Nat} (h : ∃ c, w.heap[F]? = some (.cells c 83 (0, 0))) (b r : Nat) (v : Value) : ∃ c, (w.setCell ⟨b, r, none⟩ v).heap[F]? = some (.cells c 83 (0, 0)) := by
  obtain ⟨c, hc⟩ := h
  by_cases e : b = F
  · subst e
    exact ⟨c.setIfInBounds r v, by simp [World.setCell, Array.getElem?_modify, hc]⟩
  · exact ⟨c, by rw [Below.heap_setCell _ _ _ _ (fun e2 => e e2.symm)]; exact hc⟩

/-- The blocks of a link. -/
def foot (F : Nat) (vm vp : Value) (k : Nat) : Prop := k = F ∨ vm.ownBlock = some k ∨ vp.ownBlock = some k

theorem EntAt.kept {w w' : World} {B F : Nat} {l : Lk} {vm vp : Value} {S : Nat → Prop} (h : EntAt w B F l vm vp) (ho : Only S w w') (hn : ∀ k, foot F vm vp k → ¬ S k) : EntAt w' B F l vm vp where
  lo := h.lo
  hi := Nat.lt_of_lt_of_le h.hi ho.size
  cell := fun j u hu => (ho.cell (p := ⟨F, j, none⟩) h.hi (hn F (.inl rfl))).trans (h.cell j u hu)
  frozen := fun j => (ho.frozen (p := ⟨F, j, none⟩) h.hi (hn F (.inl rfl))).trans (h.frozen j)
  mrow := ho.own h.mrow (fun k hk => hn k (.inr (.inl hk)))
  prow := ho.own h.prow (fun k hk => hn k (.inr (.inr hk)))
  am := h.am
  ap := h.ap
  amp := h.amp
  blk := by
    obtain ⟨c, hc⟩ := h.blk
    exact ⟨c, (ho.block F h.hi (hn F (.inl rfl))).trans hc⟩

/-- The four settings of the beaconing in block bb. -/
structure BoxAt (w : World) (B bb : Nat) (period tick : Int) (hyst : Nat) (ticks : Int) : Prop where
  lo : B ≤ bb
  hi : bb < w.heap.size
  c0 : w.cell? ⟨bb, 0, none⟩ = some (.int .i64 period)
  c1 : w.cell? ⟨bb, 1, none⟩ = some (.int .i64 tick)
  c2 : w.cell? ⟨bb, 2, none⟩ = some (.float .f64 hyst)
  c4 : w.cell? ⟨bb, 4, none⟩ = some (.int .u64 ticks)
  frozen : ∀ j, w.frozen? ⟨bb, j, none⟩ = false

theorem BoxAt.kept {w w' : World} {B bb : Nat} {period tick : Int} {hyst : Nat} {ticks : Int} {S : Nat → Prop} (h : BoxAt w B bb period tick hyst ticks) (ho : Only S w w') (hn : ¬ S bb) : BoxAt w' B bb period tick hyst ticks where
  lo := h.lo
  hi := Nat.lt_of_lt_of_le h.hi ho.size
  c0 := (ho.cell (p := ⟨bb, 0, none⟩) h.hi hn).trans h.c0
  c1 := (ho.cell (p := ⟨bb, 1, none⟩) h.hi hn).trans h.c1
  c2 := (ho.cell (p := ⟨bb, 2, none⟩) h.hi hn).trans h.c2
  c4 := (ho.cell (p := ⟨bb, 4, none⟩) h.hi hn).trans h.c4
  frozen := fun j => (ho.frozen (p := ⟨bb, j, none⟩) h.hi hn).trans (h.frozen j)

/-- When an acknowledgement is overdue. -/
def dueN (period tick : Int) (rtt : Int) (timed : Bool) (srtt rttvar : Int) : Int :=
  let d := (if timed then rtt else period) + period / 4
  if 0 < srtt then max d (srtt + max tick (4 * rttvar)) else d

def Lk.due (l : Lk) (period tick : Int) : Int := dueN period tick l.rtt l.timed l.srtt l.rttvar

/-- The numbers that the premise allows. -/
structure Cfg (period tick ticks : Int) : Prop where
  p0 : 1 ≤ period
  p1 : period ≤ 1099511627776
  t0 : 1 ≤ tick
  t1 : tick ≤ 8589934592
  k0 : 0 ≤ ticks
  k1 : ticks ≤ 536870912

structure Lk.Ok (l : Lk) (ticks : Int) : Prop where
  r0 : 0 ≤ l.rtt
  r1 : l.rtt ≤ 1099511627776
  s0 : 0 ≤ l.srtt
  s1 : l.srtt ≤ 1099511627776
  v0 : 0 ≤ l.rttvar
  v1 : l.rttvar ≤ 274877906944
  pend : ∀ b ∈ l.pending, 0 ≤ b.tick ∧ b.tick ≤ ticks

set_option maxHeartbeats 2000000 in
set_option maxRecDepth 10000 in
theorem due_any (B bb F : Nat) (period tick : Int) (hyst : Nat) (ticks : Int) (l : Lk) (vm vp : Value) (w : World) (hb : BoxAt w B bb period tick hyst ticks) (hl : EntAt w B F l vm vp) (hc : Cfg period tick ticks) (hk : l.Ok ticks) :
    Calls Try.prog 39 #[.pointer (some ⟨bb, 0, none⟩), .pointer (some ⟨F, 0, none⟩)] w fun e w' => e = .returned (.int .i64 (l.due period tick)) ∧ Below w.heap.size w w' := by
  have c0 := hb.c0
  have c1 := hb.c1
  have l30 := hl.cell 30 _ rfl
  have l31 := hl.cell 31 _ rfl
  have l32 := hl.cell 32 _ rfl
  have l33 := hl.cell 33 _ rfl
  obtain ⟨p0, p1, t0, t1, _, _⟩ := hc
  obtain ⟨r0, r1, s0, s1, v0, v1, _⟩ := hk
  unfold Lk.due dueN
  clear hb hl
  by_cases ht : l.timed = true
  · rw [ht] at l31
    by_cases hs : 0 < l.srtt
    · rw [if_pos ht, if_pos hs]
      go_enter Try.func39, Try.ntmps39
      go_wp2_with fail
      go_region
      all_goals go_wp2
      all_goals go_ret
      all_goals exact ⟨congrArg (fun z => Ending.returned (Value.int .i64 z)) (by omega), (Below.refl _ _).drew⟩
    · rw [if_pos ht, if_neg hs]
      go_enter Try.func39, Try.ntmps39
      go_wp2
      go_ret
      exact ⟨rfl, Below.refl _ _⟩
  · have ht' : l.timed = false := by simpa using ht
    rw [ht'] at l31
    by_cases hs : 0 < l.srtt
    · rw [if_neg ht, if_pos hs]
      go_enter Try.func39, Try.ntmps39
      go_wp2_with fail
      go_region
      all_goals go_wp2
      all_goals go_ret
      all_goals exact ⟨congrArg (fun z => Ending.returned (Value.int .i64 z)) (by omega), (Below.refl _ _).drew⟩
    · rw [if_neg ht, if_neg hs]
      go_enter Try.func39, Try.ntmps39
      go_wp2
      go_ret
      exact ⟨rfl, Below.refl _ _⟩

end Go.Proofs.Qxb6613544a
