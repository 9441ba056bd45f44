/-
  THE INPUT AS IT LIES IN MEMORY; ONE BEACON MADE, ITS PARTS READ.
-/
import Derived.Test.Qxb6613544aOpenWalk
import Derived.Handy
namespace Go.Proofs.Qxb6613544a
open Go.RowKit

/-- A []Beacon in blocks below B. -/
structure BRow (B : Nat) (w : World) (a : Option Addr) (len cap b o : Nat) (bs : List Bc) : Prop where
  ln : bs.length = len
  lc : len ≤ cap
  cm : cap ≤ maxLen
  at_ : 0 < len → a = some ⟨b, o, none⟩ ∧ b < B
  cell : ∀ j u, (brow bs)[j]? = some u → w.cell? ⟨b, o + j, none⟩ = some u

theorem BRow.kept {B : Nat} {w w' : World} {a : Option Addr} {len cap b o : Nat} {bs : List Bc} (h : BRow B w a len cap b o bs) (hb : Below B w w') : BRow B w' a len cap b o bs where
  ln := h.ln
  lc := h.lc
  cm := h.cm
  at_ := h.at_
  cell := fun j u hu => by
    have hj := (List.getElem?_eq_some_iff.1 hu).1
    rw [brow_length, h.ln] at hj
    rw [hb.cell (p := ⟨b, o + j, none⟩) (h.at_ (by omega)).2]
    exact h.cell j u hu

theorem BRow.elem {B : Nat} {w : World} {a : Option Addr} {len cap b o : Nat} {bs : List Bc} (h : BRow B w a len cap b o bs) (k : Nat) (hk : k < len) :
    w.cell? ⟨b, o + k * 3, none⟩ = some (.int .u64 (bs.getD k Bc.zero).num) ∧ w.cell? ⟨b, o + k * 3 + 1, none⟩ = some (.int .u64 (bs.getD k Bc.zero).tick) ∧ w.cell? ⟨b, o + k * 3 + 2, none⟩ = some (.bool (bs.getD k Bc.zero).acked) := by
  have hl := h.ln
  refine ⟨?_, ?_, ?_⟩
  · have := h.cell (k * 3 + 0) _ (by rw [brow_get bs k 0 (by omega) (by omega)]; rfl)
    rwa [← Nat.add_assoc] at this
  · have := h.cell (k * 3 + 1) _ (by rw [brow_get bs k 1 (by omega) (by omega)]; rfl)
    rwa [← Nat.add_assoc] at this
  · have := h.cell (k * 3 + 2) _ (by rw [brow_get bs k 2 (by omega) (by omega)]; rfl)
    rwa [← Nat.add_assoc] at this

theorem brow_take_succ (bs : List Bc) (k : Nat) (hk : k < bs.length) : brow (bs.take (k + 1)) = brow (bs.take k) ++ bcells (bs.getD k Bc.zero) := by
  have e : bs.take (k + 1) = bs.take k ++ [bs.getD k Bc.zero] := by
    rw [List.take_succ_eq_append_getElem hk]
    simp [List.getD, hk]
  rw [e, brow_append]
  show brow (bs.take k) ++ (bcells (bs.getD k Bc.zero) ++ []) = _
  rw [List.append_nil]

set_option maxHeartbeats 1000000 in
set_option maxRecDepth 10000 in
theorem newSent_any (n t : Int) (a : Bool) (w : World) : Calls Try.prog 37 #[.int .u64 n, .int .u64 t, .bool a] w fun e w' => e = .returned (.agg #[.int .u64 n, .int .u64 t, .bool a]) ∧ w' = w.alloc (.cells #[.int .u64 n, .int .u64 t, .bool a] 79) := by
  go_enter Try.func37, Try.ntmps37
  go_wp2
  go_returns
  exact ⟨rfl, rfl⟩

set_option maxHeartbeats 1000000 in
set_option maxRecDepth 10000 in
theorem sentNum_any (s : Bc) (w : World) : Calls Try.prog 33 #[.agg #[.int .u64 s.num, .int .u64 s.tick, .bool s.acked]] w fun e w' => e = .returned (.int .u64 s.num) ∧ w' = w.alloc (.cells #[.int .u64 s.num, .int .u64 s.tick, .bool s.acked] 79) := by
  go_enter Try.func33, Try.ntmps33
  go_wp2
  go_ret
  exact ⟨rfl, rfl⟩

set_option maxHeartbeats 1000000 in
set_option maxRecDepth 10000 in
theorem sentTick_any (s : Bc) (w : World) : Calls Try.prog 34 #[.agg #[.int .u64 s.num, .int .u64 s.tick, .bool s.acked]] w fun e w' => e = .returned (.int .u64 s.tick) ∧ w' = w.alloc (.cells #[.int .u64 s.num, .int .u64 s.tick, .bool s.acked] 79) := by
  go_enter Try.func34, Try.ntmps34
  go_wp2
  go_ret
  exact ⟨rfl, rfl⟩

set_option maxHeartbeats 1000000 in
set_option maxRecDepth 10000 in
theorem sentAcked_any (s : Bc) (w : World) : Calls Try.prog 35 #[.agg #[.int .u64 s.num, .int .u64 s.tick, .bool s.acked]] w fun e w' => e = .returned (.bool s.acked) ∧ w' = w.alloc (.cells #[.int .u64 s.num, .int .u64 s.tick, .bool s.acked] 79) := by
  go_enter Try.func35, Try.ntmps35
  go_wp2
  go_ret
  exact ⟨rfl, rfl⟩

end Go.Proofs.Qxb6613544a
