/-
  THE LINKS AND THE PEERS GONE, AS THEY COME IN; dueOf.
-/
import Derived.Test.Qxb6613544aIn
namespace Go.Proofs.Qxb6613544a
open Go.RowKit

/-- One link that came in: 28 cells from offset o of block b on. -/
structure LCell (B : Nat) (w : World) (b o : Nat) (l : Lk) (am : Option Addr) (cm bm om : Nat) (ap : Option Addr) (cp bp op : Nat) : Prop where
  peer : w.rangeAt b o (pcells l.peer)
  c20 : w.cell? ⟨b, o + 20, none⟩ = some (.float .f64 l.loss)
  c21 : w.cell? ⟨b, o + 21, none⟩ = some (.slice am l.missed.length cm)
  c22 : w.cell? ⟨b, o + 22, none⟩ = some (.slice ap l.pending.length cp)
  c23 : w.cell? ⟨b, o + 23, none⟩ = some (.int .i64 l.rtt)
  c24 : w.cell? ⟨b, o + 24, none⟩ = some (.bool l.timed)
  c25 : w.cell? ⟨b, o + 25, none⟩ = some (.int .i64 l.srtt)
  c26 : w.cell? ⟨b, o + 26, none⟩ = some (.int .i64 l.rttvar)
  c27 : w.cell? ⟨b, o + 27, none⟩ = some (.bool l.dropped)
  mrow : BRow B w am l.missed.length cm bm om l.missed
  prow : BRow B w ap l.pending.length cp bp op l.pending
  ptick : ∀ x ∈ l.pending, 0 ≤ x.tick

theorem rangeAt_kept {B : Nat} {w w' : World} {b o : Nat} {cs : List Value} (h : w.rangeAt b o cs) (hlt : b < B) (hb : Below B w w') : w'.rangeAt b o cs := fun j v hv => (hb.cell (p := ⟨b, o + j, none⟩) hlt).trans (h j v hv)

theorem LCell.kept {B : Nat} {w w' : World} {b o : Nat} {l : Lk} {am : Option Addr} {cm bm om : Nat} {ap : Option Addr} {cp bp op : Nat} (h : LCell B w b o l am cm bm om ap cp bp op) (hlt : b < B) (hb : Below B w w') : LCell B w' b o l am cm bm om ap cp bp op where
  peer := rangeAt_kept h.peer hlt hb
  c20 := (hb.cell (p := ⟨b, o + 20, none⟩) hlt).trans h.c20
  c21 := (hb.cell (p := ⟨b, o + 21, none⟩) hlt).trans h.c21
  c22 := (hb.cell (p := ⟨b, o + 22, none⟩) hlt).trans h.c22
  c23 := (hb.cell (p := ⟨b, o + 23, none⟩) hlt).trans h.c23
  c24 := (hb.cell (p := ⟨b, o + 24, none⟩) hlt).trans h.c24
  c25 := (hb.cell (p := ⟨b, o + 25, none⟩) hlt).trans h.c25
  c26 := (hb.cell (p := ⟨b, o + 26, none⟩) hlt).trans h.c26
  c27 := (hb.cell (p := ⟨b, o + 27, none⟩) hlt).trans h.c27
  mrow := h.mrow.kept hb
  prow := h.prow.kept hb
  ptick := h.ptick

/-- A []Link in blocks below B: link number i is f i. -/
structure LRow (B : Nat) (w : World) (a : Option Addr) (len cap b o : Nat) (f : Nat → Lk) : Prop where
  lc : len ≤ cap
  cm : cap ≤ maxLen
  at_ : 0 < len → a = some ⟨b, o, none⟩ ∧ b < B
  link : ∀ i, i < len → ∃ am cm bm om ap cp bp op, LCell B w b (o + i * 28) (f i) am cm bm om ap cp bp op

theorem LRow.kept {B : Nat} {w w' : World} {a : Option Addr} {len cap b o : Nat} {f : Nat → Lk} (h : LRow B w a len cap b o f) (hb : Below B w w') : LRow B w' a len cap b o f where
  lc := h.lc
  cm := h.cm
  at_ := h.at_
  link := fun i hi => by
    obtain ⟨am, cm, bm, om, ap, cp, bp, op, hl⟩ := h.link i hi
    exact ⟨am, cm, bm, om, ap, cp, bp, op, hl.kept (h.at_ (by omega)).2 hb⟩

/-- A [][20]byte in blocks below B. -/
structure GRow (B : Nat) (w : World) (a : Option Addr) (len cap b o : Nat) (g : Nat → Nat → Int) : Prop where
  lc : len ≤ cap
  cm : cap ≤ maxLen
  at_ : 0 < len → a = some ⟨b, o, none⟩ ∧ b < B
  id : ∀ i, i < len → w.rangeAt b (o + i * 20) (pcells (g i))

theorem GRow.kept {B : Nat} {w w' : World} {a : Option Addr} {len cap b o : Nat} {g : Nat → Nat → Int} (h : GRow B w a len cap b o g) (hb : Below B w w') : GRow B w' a len cap b o g where
  lc := h.lc
  cm := h.cm
  at_ := h.at_
  id := fun i hi => rangeAt_kept (h.id i hi) (h.at_ (by omega)).2 hb

set_option maxHeartbeats 4000000 in
set_option maxRecDepth 10000 in
theorem dueOf_any (b o : Nat) (period tick ticks : Int) (l : Lk) (w : World) (hc : Cfg period tick ticks) (hk : l.Ok ticks)
    (c23 : w.cell? ⟨b, o + 23, none⟩ = some (.int .i64 l.rtt)) (c24 : w.cell? ⟨b, o + 24, none⟩ = some (.bool l.timed)) (c25 : w.cell? ⟨b, o + 25, none⟩ = some (.int .i64 l.srtt)) (c26 : w.cell? ⟨b, o + 26, none⟩ = some (.int .i64 l.rttvar)) :
    Calls Try.prog 18 #[.int .i64 period, .int .i64 tick, .pointer (some ⟨b, o, none⟩)] w fun e w' => e = .returned (.int .i64 (l.due period tick)) ∧ w' = w := by
  obtain ⟨p0, p1, t0, t1, _, _⟩ := hc
  obtain ⟨r0, r1, s0, s1, v0, v1, _⟩ := hk
  unfold Lk.due dueN
  generalize l.rtt = rtt at *
  generalize l.srtt = srtt at *
  generalize l.rttvar = rv at *
  cases ht : l.timed with
  | true =>
    rw [ht] at c24
    go_enter Try.func18, Try.ntmps18
    go_wp2
    all_goals go_ret
    all_goals exact ⟨congrArg (fun z => Ending.returned (Value.int .i64 z)) (by first | omega | (simp; done) | (simp; omega) | (split <;> omega)), rfl⟩
  | false =>
    rw [ht] at c24
    go_enter Try.func18, Try.ntmps18
    go_wp2
    all_goals go_ret
    all_goals exact ⟨congrArg (fun z => Ending.returned (Value.int .i64 z)) (by first | omega | (simp; done) | (simp; omega) | (split <;> omega)), rfl⟩

end Go.Proofs.Qxb6613544a
