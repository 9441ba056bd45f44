/-
  (*Filter).texts OF A LEAF, ONCE MORE: what it hands back is not nil.
-/
import Derived.Test.Qxb6613313aTexts
namespace Go.Proofs.Qxb6613313a
open Go.RowKit

set_option maxHeartbeats 8000000 in
set_option maxRecDepth 10000 in
theorem texts_leafN (H F : Nat) (L : List Ex) (p : ByteArray) (w : World) (hL : LeafAt H w F L) (hH : H ≤ w.heap.size) (hN : L.length ≤ 2097152) (hp : p.size ≤ 4194304) (hA : ∀ i, i < L.length → esize (L.getD i Ex.zero) ≤ 4194304) :
    Calls Try.prog 33 #[.pointer (some ⟨F, 0, none⟩), .string p] w fun e w' => ∃ v, e = .returned v ∧ w'.ownsRow w.heap.size 9 1 v L.length (strs (L.map (txtP p))) ∧ Below w.heap.size w w' ∧ w.heap.size ≤ w'.heap.size ∧ v ≠ .slice none 0 0 := by
  obtain ⟨i9, hi9, hz9, hs9, hb9⟩ := info_parts Try.info9
  obtain ⟨hF, ax, cx, gx, f0, f1, hcx, hmx, hgx, hX⟩ := hL
  unfold maxLen at hmx
  go_enter Try.func33, Try.ntmps33
  go_wp2_with (first
    | (at_make; refine wpList_make_own _ rfl _ _ 32 rfl w.heap.size 9 i9 (.string ⟨#[]⟩) 1 Try.underlying32 hi9 hz9 hs9 .i64 .i64 _ L.length rfl rfl rfl (by rw [hb9]; omega) (by unfold maxLen; omega) (Nat.le_refl _) ?_; intro w1 hown1 hgrow1; have g0 := hgrow1.cell f0 (by simp)))
  go_loopw [5, 21] (fun v i wr => ∃ k : Nat, k ≤ L.length ∧ i = .int .i64 k ∧ wr.ownsRow w.heap.size 9 1 v k (strs ((L.take k).map (txtP p))) ∧ Below w.heap.size w wr ∧ w.heap.size ≤ wr.heap.size ∧ v ≠ .slice none 0 0) (fun _ i _ => L.length - (intOf i).toNat)
  case atStart => exact ⟨0, Nat.zero_le _, rfl, by simpa [strs] using hown1, (Below.refl _ _).grown hgrow1 (Nat.le_refl _) (fun k h => by cases h), hgrow1.size, by simp⟩
  case round =>
    obtain ⟨k, hk, rfl, hown, hBel, hz, hnn⟩ := hrel
    by_cases hlt : k < L.length
    · obtain ⟨rfl, hgH⟩ := hgx (by omega)
      obtain ⟨a', len', cap', b', o', hs, hcells⟩ := hX k hlt
      have hAk := hA k hlt
      have HT : Hid (strs ((L.take (k + 1)).map (txtP p)) = strs ((L.take k).map (txtP p)) ++ [.string (txtP p (L.getD k Ex.zero))]) := by
        show strs ((L.take (k + 1)).map (txtP p)) = _
        rw [take_succ_getD L k hlt]
        simp [strs]
      generalize L.getD k Ex.zero = x at *
      have hgw : gx < w.heap.size := by omega
      have hc : ∀ j u, (xcells (.slice a' len' cap') x.op x.val)[j]? = some u → wr.cell? ⟨gx, k * 14 + j, none⟩ = some u := fun j u hu => (hBel.cell (p := ⟨gx, k * 14 + j, none⟩) hgw).trans (hcells j u hu)
      have y0 := hc 0 _ rfl
      have y1 := hc 1 _ rfl
      have y2 := hc 2 _ rfl
      have y3 := hc 3 _ rfl
      have y4 := hc 4 _ rfl
      have y5 := hc 5 _ rfl
      have y6 := hc 6 _ rfl
      have y7 := hc 7 _ rfl
      have y8 := hc 8 _ rfl
      have y9 := hc 9 _ rfl
      have y10 := hc 10 _ rfl
      have y11 := hc 11 _ rfl
      have y12 := hc 12 _ rfl
      have y13 := hc 13 _ rfl
      simp only [Nat.add_zero] at y0
      clear hc hcells hX
      have hz1 : 16 * (x.attr.length : Int) + lens x.attr + (x.op.size : Int) + (x.val.size : Int) ≤ 4194304 := hAk
      have hz2 := lens_nonneg x.attr
      have hz3 : (joinB x.attr ⟨#[46]⟩).size ≤ 4194304 := by have := joinB_size x.attr ⟨#[46]⟩ rfl; omega
      have hz4 : x.op.size ≤ 4194304 := by omega
      have hz5 : x.val.size ≤ 4194304 := by omega
      have hal : x.attr.length = len' := hs.1
      have HB : Hid (Below w.heap.size w wr ∧ w.heap.size ≤ wr.heap.size ∧ wr.ownsRow w.heap.size 9 1 u5 k (strs ((L.take k).map (txtP p)))) := ⟨hBel, hz, hown⟩
      have HS : Hid (SRow H w a' len' cap' b' o' x.attr) := hs
      have HI : Hid (Try.prog.info? 9 = some i9 ∧ i9.zero = some (.string ⟨#[]⟩) ∧ i9.size = 1 ∧ i9.bytes = 16) := ⟨hi9, hz9, hs9, hb9⟩
      have HL : Hid (x.attr.length = len') := hal
      clear hnn hBel hown hs hi9 hz9 hs9 hb9 hal hA hAk f0 f1 hown1 hgrow1 g0
      go_wp2_with fail
      have HJ : Hid (Calls Try.prog 32 #[.slice a' len' cap', .string ⟨#[46]⟩] (wr.alloc (.cells (xcells (.slice a' len' cap') x.op x.val).toArray 80)).drew fun e w' => e = .returned (.string (joinB x.attr ⟨#[46]⟩)) ∧ Held w wr w' (xcells (.slice a' len' cap') x.op x.val) u5 k (strs ((L.take k).map (txtP p)))) := by
        refine (join_any H a' len' cap' b' o' x.attr ⟨#[46]⟩ _ (HS.out.kept (((HB.out.1.mono hH).alloc (by have := HB.out.2.1; omega) _).drew)) (by have := HB.out.2.1; simp; omega) rfl (by have := HL.out; omega)).mono ?_
        rintro e w' ⟨rfl, hb⟩
        exact ⟨rfl, held_of HB.out.1 HB.out.2.1 HB.out.2.2 hb⟩
      simp only [xcells] at HJ
      have hk2 : k ≤ 2097151 := by omega
      have q1 : ∀ wx, (Op.stringOp .add p (joinB x.attr ⟨#[46]⟩)).run Try.prog wx = .ok (.string (p ++ joinB x.attr ⟨#[46]⟩)) wx := fun wx => run_string_add_sum wx _ _ (by omega)
      have q2 : ∀ wx, (Op.stringOp .add (p ++ joinB x.attr ⟨#[46]⟩) x.op).run Try.prog wx = .ok (.string (p ++ joinB x.attr ⟨#[46]⟩ ++ x.op)) wx := fun wx => run_string_add_sum wx _ _ (by rw [ByteArray.size_append]; omega)
      have q3 : ∀ wx, (Op.stringOp .add (p ++ joinB x.attr ⟨#[46]⟩ ++ x.op) x.val).run Try.prog wx = .ok (.string (p ++ joinB x.attr ⟨#[46]⟩ ++ x.op ++ x.val)) wx := fun wx => run_string_add_sum wx _ _ (by rw [ByteArray.size_append, ByteArray.size_append]; omega)
      go_region_held3 (fun w' => w'.cell? ⟨wr.heap.size, 0, none⟩ = some (.slice a' len' cap') ∧ w'.cell? ⟨wr.heap.size, 2, none⟩ = some (.string x.op) ∧ w'.cell? ⟨wr.heap.size, 3, none⟩ = some (.string x.val)) (go_keep) (first | (go_at_call 32; refine Calls.mono HJ.out ?_; rintro e w2 ⟨rfl, hd⟩; have s0 := hd.cell 0 _ rfl; have s2 := hd.cell 2 _ rfl; have s3 := hd.cell 3 _ rfl) | (refine step_append_own rfl (.tmp 25) (.tmp 37) 32 rfl w.heap.size 9 i9 (.string ⟨#[]⟩) 1 16 Try.underlying32 HI.out.1 HI.out.2.1 HI.out.2.2.1 HI.out.2.2.2 rfl (by decide) u5 k _ rfl (hd.own.alloc _) ⟨w2.heap.size, 0, none⟩ 1 1 [.string (p ++ joinB x.attr ⟨#[46]⟩ ++ x.op ++ x.val)] rfl rfl (cell_one_new _ _ _) (one_cell_str _) (by unfold maxLen; omega) (by omega) (hd.more _) ?_; intro v4 w4 hown4 hg4 hl4; obtain ⟨t, tb, tz⟩ := held_app hd hg4; have t0 := t 0 _ rfl; have t2 := t 2 _ rfl; have t3 := t 3 _ rfl))
      go_wp2
      go_roundw
      case rel =>
        refine ⟨k + 1, by omega, by go_num, ?_, tb, tz, fun hn => by obtain ⟨g, c, e, _⟩ := own_some hown4; rw [e] at hn; cases hn⟩
        rw [HT.out]
        exact hown4
      case measure => simp [intOf]; omega
    · obtain rfl : k = L.length := by omega
      have hFw : F < w.heap.size := by omega
      have g1 := (hBel.cell (p := ⟨F, 1, none⟩) hFw).trans f1
      go_wp2_with fail
      refine (callsIn_wide.1 (Try.maps_Keys_39 none wr)).mono ?_
      rintro e w2 ⟨rfl, rfl⟩
      go_wp2_with fail
      refine (callsIn_wide.1 (Try.slices_Sorted_keys_nil_38_39 wr)).mono ?_
      rintro e w3 ⟨v3, ss, rfl, hss, hrow, hnil, hb3⟩
      have hv3 : v3 = .slice none 0 0 := hnil.2 hss
      subst hv3
      clear hrow hnil hss
      go_wp2_with fail
      refine wp_loop_rounds 1 ?_
      rw [rounds_succ]
      go_wp2
      go_ret
      have hB4 : Below wr.heap.size wr w3 := ((Below.refl _ _).alloc (Nat.le_refl _) _).trans (hb3.mono (by simp))
      rw [List.take_length] at hown
      refine ⟨_, rfl, ?_, hBel.trans (hB4.mono hz), Nat.le_trans hz hB4.size, hnn⟩
      exact hown.kept (grown_of_below hB4) (by cases (u5.ownBlock) <;> simp)


end Go.Proofs.Qxb6613313a
