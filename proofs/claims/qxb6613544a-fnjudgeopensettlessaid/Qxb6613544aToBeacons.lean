/-
  toBeacons: THE WALK.
-/
import Derived.Test.Qxb6613544aBeacons
namespace Go.Proofs.Qxb6613544a
open Go.RowKit

theorem Try.info50 : (Try.prog.info? 50).map (fun i => (i.zero, i.size, i.bytes)) = some (some (.agg #[.int .u64 0, .int .u64 0, .bool false]), 3, 24) := by kernel_rfl

def cut3 (wr : World) (x : Bc) : World := (((wr.alloc (.cells (bcells x).toArray 79)).alloc (.cells (bcells x).toArray 79)).alloc (.cells (bcells x).toArray 79))

set_option maxHeartbeats 8000000 in
set_option maxRecDepth 10000 in
theorem toBeacons_any (B : Nat) (a : Option Addr) (len cap b o : Nat) (bs : List Bc) (w : World) (hR : BRow B w a len cap b o bs) (hB : B ≤ w.heap.size) (hlen : len ≤ 1048576) :
    Calls Try.prog 14 #[.slice a len cap] w fun e w' => ∃ v, e = .returned v ∧ w'.ownsRow w.heap.size 50 3 v len (brow bs) ∧ Below w.heap.size w w' := by
  obtain ⟨i50, hi50, hz50, hs50, hb50⟩ := info_parts Try.info50
  have HI : Hid (Try.prog.info? 50 = some i50 ∧ i50.zero = some (.agg #[.int .u64 0, .int .u64 0, .bool false]) ∧ i50.size = 3 ∧ i50.bytes = 24) := ⟨hi50, hz50, hs50, hb50⟩
  have HR : Hid (BRow B w a len cap b o bs) := hR
  have hln := hR.ln
  have hlc := hR.lc
  have hcm := hR.cm
  unfold maxLen at hcm
  have hat := hR.at_
  clear hR
  go_enter Try.func14, Try.ntmps14
  go_wp2_with (at_make; refine wpList_make_own _ rfl _ _ 42 rfl w.heap.size 50 i50 (.agg #[.int .u64 0, .int .u64 0, .bool false]) 3 Try.underlying42 hi50 hz50 hs50 .i64 .i64 _ len rfl rfl (by omega) (by rw [hb50]; omega) (by unfold maxLen; omega) (Nat.le_refl _) ?_; intro w1 hown1 hgrow1)
  clear hi50 hz50 hs50 hb50
  go_loopw [3, 10] (fun v i wr => ∃ k : Nat, k ≤ len ∧ i = .int .i64 k ∧ wr.ownsRow w.heap.size 50 3 v k (brow (bs.take k)) ∧ Below w.heap.size w wr) (fun _ i _ => len - (intOf i).toNat)
  case atStart => exact ⟨0, Nat.zero_le _, rfl, by simpa [brow] using hown1, (Below.refl _ _).grown hgrow1 (Nat.le_refl _) (fun j hj => by simp at hj)⟩
  case round =>
    obtain ⟨k, hk, rfl, hown, hBel⟩ := hrel
    by_cases hlt : k < len
    · obtain ⟨hada, hbB⟩ := hat (by omega)
      subst hada
      obtain ⟨e0, e1, e2⟩ := (HR.out.kept (hBel.mono hB)).elem k hlt
      generalize hxg : bs.getD k Bc.zero = x at e0 e1 e2
      have HX : Hid (brow (bs.take (k + 1)) = brow (bs.take k) ++ bcells x) := by rw [← hxg]; exact brow_take_succ bs k (by omega)
      have hO : ((cut3 wr x).alloc (.cells (bcells x).toArray 50)).drew.ownsRow w.heap.size 50 3 u3 k (brow (bs.take k)) := (((hown.alloc _).alloc _).alloc _).alloc _
      have hcN : ∀ j u, (bcells x)[j]? = some u → ((cut3 wr x).alloc (.cells (bcells x).toArray 50)).drew.cell? ((⟨wr.heap.size + 1 + 1 + 1, 0, none⟩ : Addr).add j) = some u := by
        have h := cells_new (cut3 wr x) (bcells x) 50
        have e : (cut3 wr x).heap.size = wr.heap.size + 1 + 1 + 1 := by simp [cut3]
        rw [e] at h
        exact h
      have hB0 : Below w.heap.size w ((cut3 wr x).alloc (.cells (bcells x).toArray 50)).drew := ((((hBel.alloc hBel.size _).alloc (Nat.le_trans hBel.size (by simp)) _).alloc (Nat.le_trans hBel.size (by simp; omega)) _).alloc (Nat.le_trans hBel.size (by simp; omega)) _).drew
      have hone : ∀ u ∈ bcells x, u.oneCell' = true := by have := brow_one [x]; simpa [brow] using this
      have hlo : ∀ j, u3.ownBlock = some j → w.heap.size ≤ j := fun j hj => (hown.lt j hj).1
      have hb4 := (HR.out.kept (hB0.mono hB)).elem k hlt
      rw [hxg] at hb4
      have hB3 : Below w.heap.size w (cut3 wr x) := (((hBel.alloc hBel.size _).alloc (Nat.le_trans hBel.size (by simp)) _).alloc (Nat.le_trans hBel.size (by simp; omega)) _)
      obtain ⟨f0, f1, f2⟩ := (HR.out.kept (hB3.mono hB)).elem k hlt
      rw [hxg] at f0 f1 f2
      simp only [bcells, cut3] at hO hcN hone hB0 HX hb4 f0 f1 f2
      have HO : Hid (_ ∧ _ ∧ _ ∧ _ ∧ _) := ⟨hO, hcN, hone, hB0, hlo⟩
      have HB4 : Hid _ := hb4
      have hbs : b < w.heap.size := by omega
      have HB4n : Hid (some b ≠ u3.ownBlock) := fun e => by have := hlo b e.symm; omega
      have hbx : ¬ wr.heap.size = b := by have := hBel.size; omega
      clear hxg hown hone hown1 hgrow1 hO hcN hB0 hlo hBel hb4 hB3
      go_upto_region 5 with fail
      go_region_held3 (fun w' => w'.cell? ⟨b, o + k * 3, none⟩ = some (.int .u64 x.num) ∧ w'.cell? ⟨b, o + k * 3 + 1, none⟩ = some (.int .u64 x.tick) ∧ w'.cell? ⟨b, o + k * 3 + 2, none⟩ = some (.bool x.acked)) (go_keep) (first | (go_at_call 33; refine Calls.mono (sentNum_any x _) ?_; rintro e w2 ⟨rfl, rfl⟩) | (go_at_call 34; refine Calls.mono (sentTick_any x _) ?_; rintro e w2 ⟨rfl, rfl⟩) | (go_at_call 35; refine Calls.mono (sentAcked_any x _) ?_; rintro e w2 ⟨rfl, rfl⟩) | (refine step_append_own rfl (.tmp 13) (.tmp 30) 42 rfl w.heap.size 50 i50 (.agg #[.int .u64 0, .int .u64 0, .bool false]) 3 24 Try.underlying42 HI.out.1 HI.out.2.1 HI.out.2.2.1 HI.out.2.2.2 rfl (by decide) u3 k (brow (bs.take k)) rfl HO.out.1 ⟨wr.heap.size + 1 + 1 + 1, 0, none⟩ 1 1 _ rfl rfl HO.out.2.1 HO.out.2.2.1 (by unfold maxLen; omega) (by omega) HO.out.2.2.2.1.size ?_; intro v4 w4 hown4 hg4 hl4; have s0 := (hg4.cell HB4.out.1 HB4n.out); have s1 := (hg4.cell HB4.out.2.1 HB4n.out); have s2 := (hg4.cell HB4.out.2.2 HB4n.out)))
      all_goals
        go_wp2
        go_roundw
        case rel => exact ⟨k + 1, by omega, by go_num, by rw [HX.out]; exact hown4, HO.out.2.2.2.1.grown hg4 HO.out.2.2.2.1.size HO.out.2.2.2.2⟩
        case measure => simp [intOf]; omega
    · obtain rfl : k = len := by omega
      rw [show bs.take k = bs by rw [← hln]; exact List.take_length] at hown
      go_wp2
      go_ret
      exact ⟨_, rfl, hown, hBel⟩

end Go.Proofs.Qxb6613544a
