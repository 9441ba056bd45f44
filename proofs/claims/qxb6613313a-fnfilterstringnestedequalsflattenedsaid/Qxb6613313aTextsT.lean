/-
  (*Filter).texts OF A FILTER WITH TWO CHILDREN: THE WALK.
-/
import Derived.Test.Qxb6613313aTextsN
import Derived.Test.Qxb6613313aTreeMap
namespace Go.Proofs.Qxb6613313a
open Go.RowKit

/-- A filter whose map holds two children, in blocks below H. -/
def TreeAt (H : Nat) (w : World) (F : Nat) (L : List Ex) (mb : Nat) (D : DataW Unit) : Prop :=
  F < H ∧ mb < H ∧ ∃ ax cx gx, w.cell? ⟨F, 0, none⟩ = some (.slice ax L.length cx) ∧ w.cell? ⟨F, 1, none⟩ = some (.map (some mb)) ∧ L.length ≤ cx ∧ cx ≤ maxLen ∧ (0 < L.length → ax = some ⟨gx, 0, none⟩ ∧ gx < H) ∧
    (∀ k, k < L.length → XAt H w gx (k * 14) (L.getD k Ex.zero)) ∧ w.ownsMap Try.prog 9 Rp mb 2 D

theorem enc_self (n : ByteArray) : encStr n.data.toList = .string n := by
  show Value.string ⟨n.data.toList.toArray⟩ = _
  rw [Array.toArray_toList]

theorem strs_one (xs : List ByteArray) : ∀ u ∈ strs xs, u.oneCell' = true := by
  intro u hu
  unfold strs at hu
  obtain ⟨s, _, rfl⟩ := List.mem_map.1 hu
  rfl

theorem strs_app (xs ys : List ByteArray) : strs xs ++ strs ys = strs (xs ++ ys) := by simp [strs]

/-- What holds at the head of every round over the names. -/
def NRel (w : World) (g : Nat) (n1 n2 : ByteArray) (v : Value) (n : Nat) (T : List ByteArray) (wr : World) : Prop :=
  wr.ownsRow w.heap.size 9 1 v n (strs T) ∧ v.ownBlock ≠ some g ∧ wr.cell? ⟨g, 0, none⟩ = some (.string n1) ∧ wr.cell? ⟨g, 1, none⟩ = some (.string n2) ∧ Below w.heap.size w wr ∧ w.heap.size ≤ wr.heap.size ∧ w.heap.size ≤ g ∧ g < wr.heap.size

/-- Behind the child's texts. -/
theorem nrel_mid {w wr w5 : World} {g : Nat} {n1 n2 : ByteArray} {v : Value} {n : Nat} {T : List ByteArray} (h : NRel w g n1 n2 v n T wr) (hb : Below wr.heap.size wr w5) : NRel w g n1 n2 v n T w5 ∧ ∀ h', v.ownBlock = some h' → h' < wr.heap.size := by
  obtain ⟨h1, h2, h3, h4, h5, h6, h7, h8⟩ := h
  have hg := grown_of_below hb
  exact ⟨⟨h1.kept hg (by cases v.ownBlock <;> simp), h2, hg.cell h3 (by simp), hg.cell h4 (by simp), h5.trans (hb.mono h6), Nat.le_trans h6 hb.size, h7, Nat.lt_of_lt_of_le h8 hb.size⟩, fun h' e => (h1.lt h' e).2⟩

/-- Behind the append. -/
theorem nrel_step {w w5 w6 : World} {g : Nat} {n1 n2 : ByteArray} {v v6 : Value} {n m : Nat} {T S : List ByteArray} (h : NRel w g n1 n2 v n T w5) (hown : w6.ownsRow w.heap.size 9 1 v6 (n + m) (strs T ++ strs S)) (hg : w5.grownBy w6 v.ownBlock)
    (hl : v6.ownBlock = v.ownBlock ∨ v6.ownBlock = some w5.heap.size) : NRel w g n1 n2 v6 (n + m) (T ++ S) w6 := by
  obtain ⟨h1, h2, h3, h4, h5, h6, h7, h8⟩ := h
  rw [strs_app] at hown
  refine ⟨hown, ?_, hg.cell h3 (fun e => h2 e.symm), hg.cell h4 (fun e => h2 e.symm), h5.grown hg h6 (fun j hj => (h1.lt j hj).1), Nat.le_trans h6 hg.size, h7, Nat.lt_of_lt_of_le h8 hg.size⟩
  rcases hl with hl | hl
  · rw [hl]; exact h2
  · rw [hl]
    intro e
    cases e
    omega

set_option maxHeartbeats 40000000 in
set_option maxRecDepth 10000 in
theorem texts_tree (H F : Nat) (L : List Ex) (p : ByteArray) (mb G1 G2 : Nat) (n1 n2 : ByteArray) (L1 L2 : List Ex) (D : DataW Unit) (w : World) (hL : TreeAt H w F L mb D) (hH : H ≤ w.heap.size) (hN : L.length ≤ 2097152) (hp : p.size ≤ 1048576) (hA : ∀ i, i < L.length → esize (L.getD i Ex.zero) ≤ 4194304)
    (hD : Maps.size D = 2) (hlook : ∀ wx : World, wx.ownsMap Try.prog 9 Rp mb 2 D → (Instr.lookup 68 (.map (some mb)) (.string n1) false).run Try.prog wx = .ok (.pointer (some ⟨G1, 0, none⟩)) wx ∧ (Instr.lookup 68 (.map (some mb)) (.string n2) false).run Try.prog wx = .ok (.pointer (some ⟨G2, 0, none⟩)) wx)
    (hsort : ∀ ss : List (List UInt8), ss.Perm (Go.strKeys D) → ss.length = 2 ∧ ss.mergeSort (fun x y => decide (x ≤ y)) = [n1.data.toList, n2.data.toList])
    (hL1 : LeafAt H w G1 L1) (hL2 : LeafAt H w G2 L2) (hN1 : L1.length ≤ 1048576) (hN2 : L2.length ≤ 1048576) (hn1 : n1.size ≤ 1048576) (hn2 : n2.size ≤ 1048576)
    (hA1 : ∀ i, i < L1.length → esize (L1.getD i Ex.zero) ≤ 4194304) (hA2 : ∀ i, i < L2.length → esize (L2.getD i Ex.zero) ≤ 4194304) :
    Calls Try.prog 33 #[.pointer (some ⟨F, 0, none⟩), .string p] w fun e w' => ∃ v, e = .returned v ∧ w'.ownsRow w.heap.size 9 1 v (L.length + L1.length + L2.length) (strs (L.map (txtP p) ++ L1.map (txtP (p ++ n1 ++ ⟨#[46]⟩)) ++ L2.map (txtP (p ++ n2 ++ ⟨#[46]⟩)))) ∧ Below w.heap.size w w' := by
  obtain ⟨i9, hi9, hz9, hs9, hb9⟩ := info_parts Try.info9
  obtain ⟨hF, hmb, ax, cx, gx, f0, f1, hcx, hmx, hgx, hX, hM⟩ := hL
  unfold maxLen at hmx
  go_enter Try.func33, Try.ntmps33
  go_wp2_with (first
    | (at_make; refine wpList_make_own _ rfl _ _ 32 rfl w.heap.size 9 i9 (.string ⟨#[]⟩) 1 Try.underlying32 hi9 hz9 hs9 .i64 .i64 _ L.length rfl rfl rfl (by rw [hb9]; omega) (by unfold maxLen; omega) (Nat.le_refl _) ?_; intro w1 hown1 hgrow1; have g0 := hgrow1.cell f0 (by simp)))
  go_loopw [5, 21] (fun v i wr => ∃ k : Nat, k ≤ L.length ∧ i = .int .i64 k ∧ wr.ownsRow w.heap.size 9 1 v k (strs ((L.take k).map (txtP p))) ∧ Below w.heap.size w wr ∧ w.heap.size ≤ wr.heap.size ∧ v ≠ .slice none 0 0) (fun _ i _ => L.length - (intOf i).toNat)
  case atStart => exact ⟨0, Nat.zero_le _, rfl, by simpa [strs] using hown1, (Below.refl _ _).grown hgrow1 (Nat.le_refl _) (fun k h => by cases h), hgrow1.size, by simp⟩
  case round =>
    obtain ⟨k, hk, rfl, hown, hBel, hz, hnn⟩ := hrel
    by_cases hlt : k < L.length
    · obtain ⟨rfl, hgH⟩ := hgx (by omega)
      obtain ⟨a', len', cap', b', o', hs, hcells⟩ := hX k hlt
      have hAk := hA k hlt
      have HT : Hid (strs ((L.take (k + 1)).map (txtP p)) = strs ((L.take k).map (txtP p)) ++ [.string (txtP p (L.getD k Ex.zero))]) := by
        show strs ((L.take (k + 1)).map (txtP p)) = _
        rw [take_succ_getD L k hlt]
        simp [strs]
      generalize L.getD k Ex.zero = x at *
      have hgw : gx < w.heap.size := by omega
      have hc : ∀ j u, (xcells (.slice a' len' cap') x.op x.val)[j]? = some u → wr.cell? ⟨gx, k * 14 + j, none⟩ = some u := fun j u hu => (hBel.cell (p := ⟨gx, k * 14 + j, none⟩) hgw).trans (hcells j u hu)
      have y0 := hc 0 _ rfl
      have y1 := hc 1 _ rfl
      have y2 := hc 2 _ rfl
      have y3 := hc 3 _ rfl
      have y4 := hc 4 _ rfl
      have y5 := hc 5 _ rfl
      have y6 := hc 6 _ rfl
      have y7 := hc 7 _ rfl
      have y8 := hc 8 _ rfl
      have y9 := hc 9 _ rfl
      have y10 := hc 10 _ rfl
      have y11 := hc 11 _ rfl
      have y12 := hc 12 _ rfl
      have y13 := hc 13 _ rfl
      simp only [Nat.add_zero] at y0
      clear hc hcells hX
      have hz1 : 16 * (x.attr.length : Int) + lens x.attr + (x.op.size : Int) + (x.val.size : Int) ≤ 4194304 := hAk
      have hz2 := lens_nonneg x.attr
      have hz3 : (joinB x.attr ⟨#[46]⟩).size ≤ 4194304 := by have := joinB_size x.attr ⟨#[46]⟩ rfl; omega
      have hz4 : x.op.size ≤ 4194304 := by omega
      have hz5 : x.val.size ≤ 4194304 := by omega
      have hal : x.attr.length = len' := hs.1
      have HB : Hid (Below w.heap.size w wr ∧ w.heap.size ≤ wr.heap.size ∧ wr.ownsRow w.heap.size 9 1 u5 k (strs ((L.take k).map (txtP p)))) := ⟨hBel, hz, hown⟩
      have HS : Hid (SRow H w a' len' cap' b' o' x.attr) := hs
      have HI : Hid (Try.prog.info? 9 = some i9 ∧ i9.zero = some (.string ⟨#[]⟩) ∧ i9.size = 1 ∧ i9.bytes = 16) := ⟨hi9, hz9, hs9, hb9⟩
      have HL : Hid (x.attr.length = len') := hal
      clear hnn hBel hown hs hi9 hz9 hs9 hb9 hal hA hAk f0 f1 hown1 hgrow1 g0 hlook hsort hL1 hL2 hA1 hA2 hM
      go_wp2_with fail
      have HJ : Hid (Calls Try.prog 32 #[.slice a' len' cap', .string ⟨#[46]⟩] (wr.alloc (.cells (xcells (.slice a' len' cap') x.op x.val).toArray 80)).drew fun e w' => e = .returned (.string (joinB x.attr ⟨#[46]⟩)) ∧ Held w wr w' (xcells (.slice a' len' cap') x.op x.val) u5 k (strs ((L.take k).map (txtP p)))) := by
        refine (join_any H a' len' cap' b' o' x.attr ⟨#[46]⟩ _ (HS.out.kept (((HB.out.1.mono hH).alloc (by have := HB.out.2.1; omega) _).drew)) (by have := HB.out.2.1; simp; omega) rfl (by have := HL.out; omega)).mono ?_
        rintro e w' ⟨rfl, hb⟩
        exact ⟨rfl, held_of HB.out.1 HB.out.2.1 HB.out.2.2 hb⟩
      simp only [xcells] at HJ
      have hk2 : k ≤ 2097151 := by omega
      have q1 : ∀ wx, (Op.stringOp .add p (joinB x.attr ⟨#[46]⟩)).run Try.prog wx = .ok (.string (p ++ joinB x.attr ⟨#[46]⟩)) wx := fun wx => run_string_add_sum wx _ _ (by omega)
      have q2 : ∀ wx, (Op.stringOp .add (p ++ joinB x.attr ⟨#[46]⟩) x.op).run Try.prog wx = .ok (.string (p ++ joinB x.attr ⟨#[46]⟩ ++ x.op)) wx := fun wx => run_string_add_sum wx _ _ (by rw [ByteArray.size_append]; omega)
      have q3 : ∀ wx, (Op.stringOp .add (p ++ joinB x.attr ⟨#[46]⟩ ++ x.op) x.val).run Try.prog wx = .ok (.string (p ++ joinB x.attr ⟨#[46]⟩ ++ x.op ++ x.val)) wx := fun wx => run_string_add_sum wx _ _ (by rw [ByteArray.size_append, ByteArray.size_append]; omega)
      go_region_held3 (fun w' => w'.cell? ⟨wr.heap.size, 0, none⟩ = some (.slice a' len' cap') ∧ w'.cell? ⟨wr.heap.size, 2, none⟩ = some (.string x.op) ∧ w'.cell? ⟨wr.heap.size, 3, none⟩ = some (.string x.val)) (go_keep) (first | (go_at_call 32; refine Calls.mono HJ.out ?_; rintro e w2 ⟨rfl, hd⟩; have s0 := hd.cell 0 _ rfl; have s2 := hd.cell 2 _ rfl; have s3 := hd.cell 3 _ rfl) | (refine step_append_own rfl (.tmp 25) (.tmp 37) 32 rfl w.heap.size 9 i9 (.string ⟨#[]⟩) 1 16 Try.underlying32 HI.out.1 HI.out.2.1 HI.out.2.2.1 HI.out.2.2.2 rfl (by decide) u5 k _ rfl (hd.own.alloc _) ⟨w2.heap.size, 0, none⟩ 1 1 [.string (p ++ joinB x.attr ⟨#[46]⟩ ++ x.op ++ x.val)] rfl rfl (cell_one_new _ _ _) (one_cell_str _) (by unfold maxLen; omega) (by omega) (hd.more _) ?_; intro v4 w4 hown4 hg4 hl4; obtain ⟨t, tb, tz⟩ := held_app hd hg4; have t0 := t 0 _ rfl; have t2 := t 2 _ rfl; have t3 := t 3 _ rfl))
      go_wp2
      go_roundw
      case rel =>
        refine ⟨k + 1, by omega, by go_num, ?_, tb, tz, fun hn => by obtain ⟨g, c, e, _⟩ := own_some hown4; rw [e] at hn; cases hn⟩
        rw [HT.out]
        exact hown4
      case measure => simp [intOf]; omega
    · obtain rfl : k = L.length := by omega
      have hFw : F < w.heap.size := by omega
      have g1 := (hBel.cell (p := ⟨F, 1, none⟩) hFw).trans f1
      have hMr : wr.ownsMap Try.prog 9 Rp mb 2 D := by
        obtain ⟨es, ck, hb, r⟩ := hM
        exact ⟨es, ck, (hBel.block mb (by omega)).trans hb, r⟩
      rw [List.take_length] at hown
      go_wp2_with fail
      refine (callsIn_wide.1 (Try.maps_Keys_39 (some mb) wr)).mono ?_
      rintro e w2 ⟨rfl, rfl⟩
      go_wp2_with fail
      refine (callsIn_wide.1 (Try.slices_Sorted_keys_38_39 mb 2 D Rp wr hMr (by rw [hD]; unfold maxLen; omega) (by rw [hD]; omega))).mono ?_
      rintro e w3 ⟨v3, ss, rfl, hss, hrow, hnil, hb3⟩
      obtain ⟨hl2, hms⟩ := hsort ss hss
      rw [hms, hl2] at hrow
      obtain ⟨g3, cap3, rfl, hbg3, hlt3⟩ := own_some hrow
      have r0 := hrow.cells (g := g3) rfl 0 _ rfl
      have r1 := hrow.cells (g := g3) rfl 1 _ rfl
      have hB3 : Below wr.heap.size wr w3 := ((Below.refl _ _).alloc (Nat.le_refl _) _).trans (hb3.mono (by simp))
      have hg3 : wr.heap.size < g3 := by simp at hbg3; omega
      have hown3 := hown.kept (grown_of_below hB3) (by cases (u5.ownBlock) <;> simp)
      have hap3 : u5.ownBlock ≠ some g3 := fun h => by have := (hown.lt _ h).2; omega
      have hBel3 := hBel.trans (hB3.mono hz)
      have hz3 := Nat.le_trans hz hB3.size
      have e0 : (⟨g3, 0, none⟩ : Addr).add 0 = ⟨g3, 0, none⟩ := rfl
      have e1 : (⟨g3, 0, none⟩ : Addr).add 1 = ⟨g3, 1, none⟩ := rfl
      rw [e0] at r0
      rw [e1] at r1
      rw [enc_self] at r0 r1
      have hR0 : NRel w g3 n1 n2 u5 L.length (L.map (txtP p)) w3 := ⟨hown3, hap3, r0, r1, hBel3, hz3, by omega, hlt3⟩
      have HR0 : Hid (NRel w g3 n1 n2 u5 L.length (L.map (txtP p)) w3) := hR0
      have HLK : Hid (∀ wx : World, wx.ownsMap Try.prog 9 Rp mb 2 D → (Instr.lookup 68 (.map (some mb)) (.string n1) false).run Try.prog wx = .ok (.pointer (some ⟨G1, 0, none⟩)) wx ∧ (Instr.lookup 68 (.map (some mb)) (.string n2) false).run Try.prog wx = .ok (.pointer (some ⟨G2, 0, none⟩)) wx) := hlook
      have hn1' : (p ++ n1 ++ ⟨#[46]⟩).size ≤ 4194304 := by rw [ByteArray.size_append, ByteArray.size_append]; have : (⟨#[46]⟩ : ByteArray).size = 1 := rfl; omega
      have hn2' : (p ++ n2 ++ ⟨#[46]⟩).size ≤ 4194304 := by rw [ByteArray.size_append, ByteArray.size_append]; have : (⟨#[46]⟩ : ByteArray).size = 1 := rfl; omega
      clear hrow hnil hss hms hl2 hb3 hB3 hsort e0 e1 hMr hown hBel hz hbg3 hlook hR0 r0 r1 hown3 hap3 hBel3 hz3 hX hgx hown1 hgrow1 g0 hg3 hlt3
      have HI : Hid (Try.prog.info? 9 = some i9 ∧ i9.zero = some (.string ⟨#[]⟩) ∧ i9.size = 1 ∧ i9.bytes = 16) := ⟨hi9, hz9, hs9, hb9⟩
      clear hi9 hz9 hs9 hb9 g1 f0 hnn hA
      go_wp2_with fail
      go_loopw [5, 9, 47] (fun v _ i wr => ∃ k : Nat, k ≤ 2 ∧ i = .int .i64 k ∧ NRel w g3 n1 n2 v (L.length + (if 0 < k then L1.length else 0) + (if 1 < k then L2.length else 0)) (L.map (txtP p) ++ (if 0 < k then L1.map (txtP (p ++ n1 ++ ⟨#[46]⟩)) else []) ++ (if 1 < k then L2.map (txtP (p ++ n2 ++ ⟨#[46]⟩)) else [])) wr) (fun _ _ i _ => 2 - (intOf i).toNat)
      case atStart => exact ⟨0, by omega, rfl, by simpa using HR0.out⟩
      case round =>
        obtain ⟨k, hk, rfl, hT⟩ := hrel
        match k, hk with
        | 0, _ =>
          have hT' : NRel w g3 n1 n2 u5 L.length (L.map (txtP p)) wr := by simpa using hT
          clear hT
          have hT0 := hT'
          obtain ⟨t1, t2, t3, t4, t5, t6, t7, t8⟩ := hT'
          have hMr : wr.ownsMap Try.prog 9 Rp mb 2 D := by
            obtain ⟨es, ck, hb, r⟩ := hM
            exact ⟨es, ck, (t5.block mb (by omega)).trans hb, r⟩
          have hlk := (HLK.out wr hMr).1
          have g1 := (t5.cell (p := ⟨F, 1, none⟩) hFw).trans f1
          have hC := texts_leafN H G1 L1 (p ++ n1 ++ ⟨#[46]⟩) wr (hL1.kept (t5.mono hH)) (by omega) (by omega) hn1' hA1
          have HC : Hid _ := hC
          have HT0 : Hid (NRel w g3 n1 n2 u5 L.length (L.map (txtP p)) wr) := hT0
          clear hC hT0 t1 t2 t5 hMr hM hL1 hL2 hA1 hA2
          go_wp2_with fail
          refine Calls.mono HC.out ?_
          rintro e w5 ⟨v5, rfl, hown5, hb5, _, hn5⟩
          obtain ⟨hN5, _⟩ := nrel_mid HT0.out hb5
          rcases hown5.2 with ⟨h5, _⟩ | ⟨g5, cap5, cur5, rfl, _⟩
          · exact absurd h5 hn5
          · have HN5 : Hid (NRel w g3 n1 n2 u5 L.length (L.map (txtP p)) w5) := hN5
            have A1 : w5.ownsRow w.heap.size 9 1 u5 L.length (strs (L.map (txtP p))) := hN5.1
            have HA2 : Hid (∀ j u, (strs (L1.map (txtP (p ++ n1 ++ ⟨#[46]⟩))))[j]? = some u → w5.cell? ((⟨g5, 0, none⟩ : Addr).add j) = some u) := fun j u hu => hown5.cells (g := g5) rfl j u hu
            have HA3 : Hid ((strs (L1.map (txtP (p ++ n1 ++ ⟨#[46]⟩)))).length = L1.length * 1) := hown5.1
            have A4 : w.heap.size ≤ w5.heap.size := hN5.2.2.2.2.2.1
            clear hN5 hown5 hb5 hn5
            go_wp2_with (at_builtin; refine wpList_append_own_at _ rfl (.tmp 51) (.tmp 62) 32 rfl w.heap.size 9 i9 (.string ⟨#[]⟩) 1 16 Try.underlying32 HI.out.1 HI.out.2.1 HI.out.2.2.1 HI.out.2.2.2 rfl (by decide) u5 L.length (strs (L.map (txtP p))) rfl A1 ⟨g5, 0, none⟩ L1.length cap5 (strs (L1.map (txtP (p ++ n1 ++ ⟨#[46]⟩)))) rfl HA3.out HA2.out (strs_one _) (by unfold maxLen; omega) (by omega) A4 ?_; intro v6 w6 hown6 hg6 hn6 hl6)
            go_roundw
            case rel => exact ⟨1, by omega, rfl, by simpa using nrel_step HN5.out hown6 hg6 hl6⟩
            case measure => simp [intOf]
        | 1, _ =>
          have hT' : NRel w g3 n1 n2 u5 (L.length + L1.length) (L.map (txtP p) ++ L1.map (txtP (p ++ n1 ++ ⟨#[46]⟩))) wr := by simpa using hT
          clear hT
          have hT0 := hT'
          obtain ⟨t1, t2, t3, t4, t5, t6, t7, t8⟩ := hT'
          have hMr : wr.ownsMap Try.prog 9 Rp mb 2 D := by
            obtain ⟨es, ck, hb, r⟩ := hM
            exact ⟨es, ck, (t5.block mb (by omega)).trans hb, r⟩
          have hlk := (HLK.out wr hMr).2
          have g1 := (t5.cell (p := ⟨F, 1, none⟩) hFw).trans f1
          have hC := texts_leafN H G2 L2 (p ++ n2 ++ ⟨#[46]⟩) wr (hL2.kept (t5.mono hH)) (by omega) (by omega) hn2' hA2
          have HC : Hid _ := hC
          have HT0 : Hid (NRel w g3 n1 n2 u5 (L.length + L1.length) (L.map (txtP p) ++ L1.map (txtP (p ++ n1 ++ ⟨#[46]⟩))) wr) := hT0
          clear hC hT0 t1 t2 t5 hMr hM hL1 hL2 hA1 hA2
          go_wp2_with fail
          refine Calls.mono HC.out ?_
          rintro e w5 ⟨v5, rfl, hown5, hb5, _, hn5⟩
          obtain ⟨hN5, _⟩ := nrel_mid HT0.out hb5
          rcases hown5.2 with ⟨h5, _⟩ | ⟨g5, cap5, cur5, rfl, _⟩
          · exact absurd h5 hn5
          · have HN5 : Hid (NRel w g3 n1 n2 u5 (L.length + L1.length) (L.map (txtP p) ++ L1.map (txtP (p ++ n1 ++ ⟨#[46]⟩))) w5) := hN5
            have A1 : w5.ownsRow w.heap.size 9 1 u5 (L.length + L1.length) (strs (L.map (txtP p) ++ L1.map (txtP (p ++ n1 ++ ⟨#[46]⟩)))) := hN5.1
            have HA2 : Hid (∀ j u, (strs (L2.map (txtP (p ++ n2 ++ ⟨#[46]⟩))))[j]? = some u → w5.cell? ((⟨g5, 0, none⟩ : Addr).add j) = some u) := fun j u hu => hown5.cells (g := g5) rfl j u hu
            have HA3 : Hid ((strs (L2.map (txtP (p ++ n2 ++ ⟨#[46]⟩)))).length = L2.length * 1) := hown5.1
            have A4 : w.heap.size ≤ w5.heap.size := hN5.2.2.2.2.2.1
            clear hN5 hown5 hb5 hn5
            go_wp2_with (at_builtin; refine wpList_append_own_at _ rfl (.tmp 51) (.tmp 62) 32 rfl w.heap.size 9 i9 (.string ⟨#[]⟩) 1 16 Try.underlying32 HI.out.1 HI.out.2.1 HI.out.2.2.1 HI.out.2.2.2 rfl (by decide) u5 (L.length + L1.length) (strs (L.map (txtP p) ++ L1.map (txtP (p ++ n1 ++ ⟨#[46]⟩)))) rfl A1 ⟨g5, 0, none⟩ L2.length cap5 (strs (L2.map (txtP (p ++ n2 ++ ⟨#[46]⟩)))) rfl HA3.out HA2.out (strs_one _) (by unfold maxLen; omega) (by omega) A4 ?_; intro v6 w6 hown6 hg6 hn6 hl6)
            go_roundw
            case rel => exact ⟨2, by omega, rfl, by simpa using nrel_step HN5.out hown6 hg6 hl6⟩
            case measure => simp [intOf]
        | 2, _ =>
          go_wp2
          go_ret
          have hT' : NRel w g3 n1 n2 u5 (L.length + L1.length + L2.length) (L.map (txtP p) ++ L1.map (txtP (p ++ n1 ++ ⟨#[46]⟩)) ++ L2.map (txtP (p ++ n2 ++ ⟨#[46]⟩))) wr := by simpa using hT
          exact ⟨_, rfl, hT'.1, hT'.2.2.2.2.1⟩

end Go.Proofs.Qxb6613313a
