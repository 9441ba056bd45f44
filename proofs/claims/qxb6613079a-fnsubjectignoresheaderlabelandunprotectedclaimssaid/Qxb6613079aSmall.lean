/-
  THE SMALL FUNCTIONS' CONTRACTS.
-/
import Derived.Test.Qxb6613079aMaps
namespace Go.Proofs.Qxb6613079a
open Go.RowKit

set_option maxHeartbeats 400000 in
theorem claimText_any (w : World) (b : Nat) (m : Int → Option Value) (k : Int) (s : ByteArray) (h : IMap w b m) :
    Calls Try.prog 33 #[.map (some b), .int .i64 k, .string s] w fun e w' => e = .returned (.tuple #[]) ∧ IMap w' b (putM m k (.iface 9 (.string s))) ∧ w.grownBy w' (some b) := by
  obtain ⟨w1, hr, hm, hg⟩ := h.update k (.iface 9 (.string s))
  unfold ikey at hr
  go_enter Try.func33, Try.ntmps33
  go_wp2
  go_end0
  exact ⟨rfl, hm, hg⟩

set_option maxHeartbeats 400000 in
theorem claimInt_any (w : World) (b : Nat) (m : Int → Option Value) (k n : Int) (h : IMap w b m) :
    Calls Try.prog 36 #[.map (some b), .int .i64 k, .int .i64 n] w fun e w' => e = .returned (.tuple #[]) ∧ IMap w' b (putM m k (.iface 2 (.int .i64 n))) ∧ w.grownBy w' (some b) := by
  obtain ⟨w1, hr, hm, hg⟩ := h.update k (.iface 2 (.int .i64 n))
  unfold ikey at hr
  go_enter Try.func36, Try.ntmps36
  go_wp2
  go_end0
  exact ⟨rfl, hm, hg⟩

set_option maxHeartbeats 400000 in
theorem claimBool_any (w : World) (b : Nat) (m : Int → Option Value) (k : Int) (x : Bool) (h : IMap w b m) :
    Calls Try.prog 37 #[.map (some b), .int .i64 k, .bool x] w fun e w' => e = .returned (.tuple #[]) ∧ IMap w' b (putM m k (.iface 4 (.bool x))) ∧ w.grownBy w' (some b) := by
  obtain ⟨w1, hr, hm, hg⟩ := h.update k (.iface 4 (.bool x))
  unfold ikey at hr
  go_enter Try.func37, Try.ntmps37
  go_wp2
  go_end0
  exact ⟨rfl, hm, hg⟩

set_option maxHeartbeats 400000 in
theorem putMap_any (w : World) (mb pb hb : Nat) (m : Int → Option Value) (k : Int) (hc : w.cell? ⟨mb, 2, none⟩ = some (.map (some pb))) (h : IMap w pb m) :
    Calls Try.prog 22 #[.pointer (some ⟨mb, 0, none⟩), .int .i64 k, .map (some hb)] w fun e w' => e = .returned (.tuple #[]) ∧ IMap w' pb (putM m k (.iface 41 (.map (some hb)))) ∧ w.grownBy w' (some pb) := by
  obtain ⟨w1, hr, hm, hg⟩ := h.update k (.iface 41 (.map (some hb)))
  unfold ikey at hr
  go_enter Try.func22, Try.ntmps22
  go_wp2
  go_end0
  exact ⟨rfl, hm, hg⟩

set_option maxHeartbeats 400000 in
theorem putText_any (w : World) (mb pb : Nat) (s : ByteArray) (m : Int → Option Value) (k : Int) (hc : w.cell? ⟨mb, 2, none⟩ = some (.map (some pb))) (h : IMap w pb m) :
    Calls Try.prog 27 #[.pointer (some ⟨mb, 0, none⟩), .int .i64 k, .string s] w fun e w' => e = .returned (.tuple #[]) ∧ IMap w' pb (putM m k (.iface 9 (.string s))) ∧ w.grownBy w' (some pb) := by
  obtain ⟨w1, hr, hm, hg⟩ := h.update k (.iface 9 (.string s))
  unfold ikey at hr
  go_enter Try.func27, Try.ntmps27
  go_wp2
  go_end0
  exact ⟨rfl, hm, hg⟩

set_option maxHeartbeats 400000 in
theorem putUnprot_any (w : World) (mb pb hb : Nat) (m : Int → Option Value) (k : Int) (hc : w.cell? ⟨mb, 3, none⟩ = some (.map (some pb))) (h : IMap w pb m) :
    Calls Try.prog 28 #[.pointer (some ⟨mb, 0, none⟩), .int .i64 k, .map (some hb)] w fun e w' => e = .returned (.tuple #[]) ∧ IMap w' pb (putM m k (.iface 41 (.map (some hb)))) ∧ w.grownBy w' (some pb) := by
  obtain ⟨w1, hr, hm, hg⟩ := h.update k (.iface 41 (.map (some hb)))
  unfold ikey at hr
  go_enter Try.func28, Try.ntmps28
  go_wp2
  go_end0
  exact ⟨rfl, hm, hg⟩

set_option maxHeartbeats 400000 in
theorem newHeader_any (w : World) :
    Calls Try.prog 32 #[] w fun e w' => e = .returned (.map (some w.heap.size)) ∧ w' = w.alloc (.map #[] 0) := by
  have hmm := @run_makeMap Try.prog
  go_enter Try.func32, Try.ntmps32
  go_wp2
  go_ret
  exact ⟨rfl, rfl⟩

set_option maxHeartbeats 400000 in
theorem newSign1_any (w : World) :
    Calls Try.prog 20 #[] w fun e w' => e = .returned (.pointer (some ⟨w.heap.size + 2, 0, none⟩)) ∧ ∃ o, w' = ((w.alloc (.map #[] 0)).alloc (.map #[] 0)).alloc o ∧ w'.cell? ⟨w.heap.size + 2, 2, none⟩ = some (.map (some w.heap.size)) ∧ w'.cell? ⟨w.heap.size + 2, 3, none⟩ = some (.map (some (w.heap.size + 1))) := by
  have hmm := @run_makeMap Try.prog
  go_enter Try.func20, Try.ntmps20
  go_wp2
  go_ret
  exact ⟨rfl, _, rfl, by simp [go_sem], by simp [go_sem]⟩

end Go.Proofs.Qxb6613079a
