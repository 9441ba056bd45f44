/-
  ZZnewLink: THE WALK.
-/
import Derived.Test.Qxb6613544aLinks
namespace Go.Proofs.Qxb6613544a
open Go.RowKit

theorem rangeAt_new (w : World) (cs : List Value) (t : TypeId) : (w.alloc (.cells cs.toArray t)).rangeAt w.heap.size 0 cs := fun j u hu => by
  have h := cells_new w cs t j u hu
  rwa [Addr.add_mid] at h

set_option maxHeartbeats 8000000 in
set_option maxRecDepth 10000 in
theorem newLink_any (l : Lk) (am ap : Option Addr) (nm cm np cp : Nat) (w : World) :
    Calls Try.prog 28 #[.agg (pcells l.peer).toArray, .float .f64 l.loss, .slice am nm cm, .slice ap np cp, .int .i64 l.rtt, .bool l.timed, .int .i64 l.srtt, .int .i64 l.rttvar, .bool l.dropped] w fun e w' =>
      e = .returned (.pointer (some ⟨w.heap.size + 1, 0, none⟩)) ∧ w' = (w.alloc (.cells (pcells l.peer).toArray 39)).alloc (.cells (lcells l (.slice am nm cm) (.slice ap np cp)).toArray 83) := by
  have hr := rangeAt_new w (pcells l.peer) 39
  have HRg : Hid _ := hr
  clear hr
  obtain ⟨p, hp⟩ : ∃ p, p = l.peer := ⟨_, rfl⟩
  rw [← hp] at HRg ⊢
  unfold lcells
  rw [← hp]
  clear hp
  go_enter Try.func28, Try.ntmps28
  go_upto_region 1 with fail
  go_wp2_with (refine wpList_load_mid rfl 39 (.tmp 9) rfl w.heap.size 0 rfl (pcells p) _ HRg.out Try.underlying39 rfl Try.size39 ?_; simp only [pcells])
  go_ret
  exact ⟨rfl, rfl⟩
end Go.Proofs.Qxb6613544a
