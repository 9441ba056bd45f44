/-
  sameBeacons: THE WALK.
-/
import Derived.Test.Qxb6613544aToBeacons
namespace Go.Proofs.Qxb6613544a
open Go.RowKit

theorem cut3_below {B : Nat} {w wr : World} (x : Bc) (h : Below B w wr) (hB : B ≤ wr.heap.size) : Below B w (cut3 wr x) :=
  (((h.alloc hB _).alloc (Nat.le_trans hB (by simp)) _).alloc (Nat.le_trans hB (by simp; omega)) _)

set_option maxHeartbeats 8000000 in
set_option maxRecDepth 10000 in
theorem sameBeacons_true (B : Nat) (a : Option Addr) (len cap b o : Nat) (a' : Option Addr) (cap' b' o' : Nat) (bs : List Bc) (w : World) (hR : BRow B w a len cap b o bs) (hR' : BRow B w a' len cap' b' o' bs) (hB : B ≤ w.heap.size) (hlen : len ≤ 1048576) :
    Calls Try.prog 19 #[.slice a len cap, .slice a' len cap'] w fun e w' => e = .returned (.bool true) ∧ Below w.heap.size w w' := by
  have HR : Hid (BRow B w a len cap b o bs) := hR
  have HR' : Hid (BRow B w a' len cap' b' o' bs) := hR'
  have hlc := hR.lc
  have hcm := hR.cm
  have hlc' := hR'.lc
  have hcm' := hR'.cm
  unfold maxLen at hcm hcm'
  have hat := hR.at_
  have hat' := hR'.at_
  clear hR hR'
  go_enter Try.func19, Try.ntmps19
  go_wp2_with fail
  go_loopw [13] (fun i wr => ∃ k : Nat, k ≤ len ∧ i = .int .i64 k ∧ Below w.heap.size w wr) (fun i _ => len - (intOf i).toNat)
  case atStart => exact ⟨0, Nat.zero_le _, rfl, Below.refl _ _⟩
  case round =>
    obtain ⟨k, hk, rfl, hBel⟩ := hrel
    by_cases hlt : k < len
    · obtain ⟨hada, hbB⟩ := hat (by omega)
      subst hada
      obtain ⟨hada', hbB'⟩ := hat' (by omega)
      subst hada'
      obtain ⟨e0, e1, e2⟩ := (HR.out.kept (hBel.mono hB)).elem k hlt
      obtain ⟨d0, d1, d2⟩ := (HR'.out.kept (hBel.mono hB)).elem k hlt
      generalize hxg : bs.getD k Bc.zero = x at e0 e1 e2 d0 d1 d2
      have hB3 := cut3_below x hBel hBel.size
      obtain ⟨f0, f1, f2⟩ := (HR.out.kept (hB3.mono hB)).elem k hlt
      obtain ⟨g0, g1, g2⟩ := (HR'.out.kept (hB3.mono hB)).elem k hlt
      rw [hxg] at f0 f1 f2 g0 g1 g2
      have HB3 : Hid (Below w.heap.size w (cut3 wr x)) := hB3
      simp only [bcells, cut3] at f0 f1 f2 g0 g1 g2 HB3
      clear hxg hBel hB3
      go_upto_region 6 with fail
      go_region_held3 (fun w' => w'.cell? ⟨b, o + k * 3, none⟩ = some (.int .u64 x.num) ∧ w'.cell? ⟨b, o + k * 3 + 1, none⟩ = some (.int .u64 x.tick) ∧ w'.cell? ⟨b, o + k * 3 + 2, none⟩ = some (.bool x.acked) ∧ w'.cell? ⟨b', o' + k * 3, none⟩ = some (.int .u64 x.num) ∧ w'.cell? ⟨b', o' + k * 3 + 1, none⟩ = some (.int .u64 x.tick) ∧ w'.cell? ⟨b', o' + k * 3 + 2, none⟩ = some (.bool x.acked)) (go_keep) (first | (go_at_call 33; refine Calls.mono (sentNum_any x _) ?_; rintro e w2 ⟨rfl, rfl⟩) | (go_at_call 34; refine Calls.mono (sentTick_any x _) ?_; rintro e w2 ⟨rfl, rfl⟩) | (go_at_call 35; refine Calls.mono (sentAcked_any x _) ?_; rintro e w2 ⟨rfl, rfl⟩))
      all_goals
        go_wp2
        go_roundw
        case rel => exact ⟨k + 1, by omega, by go_num, HB3.out.drew⟩
        case measure => simp [intOf]; omega
    · obtain rfl : k = len := by omega
      go_wp2
      go_ret
      exact ⟨rfl, hBel⟩

end Go.Proofs.Qxb6613544a
