/-
  zzAppendParts: THE WALK.
-/
import Derived.Test.Qxb6613313aParts
namespace Go.Proofs.Qxb6613313a
open Go.RowKit

/-- An expression with the prefix put first on its path. -/
def pre (p : ByteArray) (e : Ex) : Ex := ⟨p :: e.attr, e.op, e.val⟩

theorem strs_take_succ (xs : List ByteArray) (m : Nat) (h : m < xs.length) : strs (xs.take (m + 1)) = strs (xs.take m) ++ [.string (xs.getD m ⟨#[]⟩)] := by
  unfold strs
  rw [List.take_succ_eq_append_getElem h, List.map_append]
  congr 1
  simp [List.getD, h]

theorem take_succ_getD (es : List Ex) (k : Nat) (h : k < es.length) : es.take (k + 1) = es.take k ++ [es.getD k Ex.zero] := by
  rw [List.take_succ_eq_append_getElem h]
  simp [List.getD, h]

theorem one_cell_str (s : ByteArray) : ∀ u ∈ [Value.string s], u.oneCell' = true := by intro u hu; simp at hu; subst hu; rfl

theorem one_cell_slice (a : Option Addr) (n c : Nat) : ∀ u ∈ [Value.slice a n c], u.oneCell' = true := by intro u hu; simp at hu; subst hu; rfl

theorem grown_of_below {w w' : World} (h : Below w.heap.size w w') : w.grownBy w' none := ⟨h.os, h.tape, h.output, h.size, fun k hk _ => h.block k hk⟩

theorem apart_fresh {w : World} {base : Nat} {e : TypeId} {s : Nat} {u : Value} {n : Nat} {xs : List Value} (ho : w.ownsRow base e s u n xs) (m c : Nat) : Apart (.slice (some ⟨w.heap.size, 0, none⟩) m c) u := by
  intro g h1 h2
  have := (ho.lt g h2).2
  simp [Value.ownBlock] at h1
  omega

set_option maxHeartbeats 4000000 in
set_option maxRecDepth 10000 in
theorem parts_any (base : Nat) (va vo vv : Value) (A0 : List Value) (L0 : List Ex) (a : Option Addr) (len cap b o : Nat) (es : List Ex) (p : ByteArray) (w : World) (hBase : base ≤ w.heap.size) (hP : Parts w base va vo vv A0 L0)
    (hE : ERow base w a len cap b o es) (hN : L0.length + len ≤ 2097152) (hA : ∀ i, i < len → (es.getD i Ex.zero).attr.length ≤ 1048576) :
    Calls Try.prog 27 #[va, vo, vv, .slice a len cap, .string p, .bool false] w fun e w' => ∃ va' vo' vv' A', e = .returned (.tuple #[va', vo', vv']) ∧ Parts w' base va' vo' vv' A' (L0 ++ es.map (id)) ∧ Below base w w' := by
  obtain ⟨i9, hi9, hz9, hs9, hb9⟩ := info_parts Try.info9
  obtain ⟨i32, hi32, hz32, hs32, hb32⟩ := info_parts Try.info32
  have hE0 := hE
  obtain ⟨hl, hlc, hcm, ha, _⟩ := hE
  unfold maxLen at hcm
  go_enter Try.func27, Try.ntmps27
  go_wp2_with fail
  go_loopw [0, 1, 2, 15] (fun s0 s1 s2 i wr => ∃ (k : Nat) (A : List Value), k ≤ len ∧ i = .int .i64 k ∧ Parts wr base s0 s1 s2 A (L0 ++ (es.take k).map (id)) ∧ Below base w wr ∧ base ≤ wr.heap.size) (fun _ _ _ i _ => len - (intOf i).toNat)
  case atStart => exact ⟨0, A0, Nat.zero_le _, rfl, by simpa using hP, Below.refl _ _, hBase⟩
  case round =>
    obtain ⟨k, A, hk, rfl, hPk, hBel, hBs⟩ := hrel
    obtain ⟨wo, hwo⟩ : ∃ wo, wo = wr := ⟨_, rfl⟩
    subst hwo
    by_cases hlt : k < len
    · obtain ⟨ha', hbB⟩ := ha (by omega)
      subst ha'
      obtain ⟨_, _, _, _, hc⟩ := hE0
      have hAk := hA k hlt
      have HES : Hid (es.take (k + 1) = es.take k ++ [es.getD k Ex.zero]) := take_succ_getD es k (by omega)
      have hlen : (L0 ++ (es.take k).map (id)).length = L0.length + k := by simp; omega
      obtain ⟨a', len', cap', b', o', c0w, hs, c1w, c2w⟩ := hc k hlt
      generalize es.getD k Ex.zero = x at *
      have hs0 := hs
      obtain ⟨hl', hlc', hcm', ha2, _⟩ := hs
      unfold maxLen at hcm'
      clear hc ha
      have c0 := (hBel.cell (p := ⟨b, o + k * 3, none⟩) hbB).trans c0w
      have hlen' : len' ≤ 1048576 := by omega
      have HLL : Hid ((L0 ++ (es.take k).map (id)).length = L0.length + k) := hlen
      generalize hLg : L0 ++ (es.take k).map (id) = L at *
      have HLg : Hid (L0 ++ (es.take k).map (id) = L) := hLg
      clear hLg hlen
      have hLk : L.length ≤ 2097151 := by have := HLL.out; omega
      go_wp2_with (first
          | (at_make; refine wpList_make_own _ rfl _ _ 32 rfl base 9 i9 (.string ⟨#[]⟩) 1 Try.underlying32 hi9 hz9 hs9 .i64 .i64 _ (len' + 1) rfl rfl (by omega) (by rw [hb9]; omega) (by unfold maxLen; omega) hBs ?_; intro w1 hown1 hgrow1))
      go_loopw [17, 18] (fun c j wi => ∃ m : Nat, m ≤ len' ∧ j = .int .i64 m ∧ c = .slice (some ⟨wo.heap.size, 0, none⟩) m (len' + 1) ∧ wi.ownsRow base 9 1 (.slice (some ⟨wo.heap.size, 0, none⟩) m (len' + 1)) m (strs (x.attr.take m)) ∧ Below wo.heap.size wo wi) (fun _ j _ => len' - (intOf j).toNat)
      case atStart => exact ⟨0, Nat.zero_le _, rfl, rfl, by simpa [strs] using hown1, (Below.refl _ _).grown hgrow1 (Nat.le_refl _) (fun k h => by cases h)⟩
      case round =>
        obtain ⟨m, hm, rfl, rfl, hown, hBi⟩ := hrel
        by_cases hlt2 : m < len'
        · obtain ⟨ha2', _⟩ := ha2 (by omega)
          subst ha2'
          obtain ⟨_, _, _, _, hc'⟩ := hs0.kept (hBel.trans (hBi.mono hBs))
          have d0 := hc' m hlt2
          have HS : Hid (strs (x.attr.take (m + 1)) = strs (x.attr.take m) ++ [.string (x.attr.getD m ⟨#[]⟩)]) := strs_take_succ x.attr m (by omega)
          generalize x.attr.getD m ⟨#[]⟩ = y at *
          clear hc' ha2
          go_wp2_with (first
            | (at_builtin; refine wpList_append_fits _ rfl (.tmp 45) (.tmp 50) 32 rfl base 9 i9 1 Try.underlying32 hi9 hs9 wo.heap.size m (len' + 1) _ rfl (hown.alloc _) ⟨wr.heap.size, 0, none⟩ 1 1 [.string y] rfl rfl (cell_one_new _ _ _) (one_cell_str y) (by omega) ?_; intro w2 hown2 hgrow2))
          go_roundw
          case rel =>
            refine ⟨m + 1, by omega, by go_num, rfl, ?_, (hBi.alloc hBi.size _).grown hgrow2 (by have := hBi.size; simp; omega) (fun k h => by cases h; exact Nat.le_refl _)⟩
            rw [HS.out]
            exact hown2
          case measure => simp [intOf]; omega
        · obtain rfl : m = len' := by omega
          have hPi := hPk.kept hBi (Nat.le_refl _)
          have hAO : AttrOwn wr base u0 u1 u2 (.slice (some ⟨wo.heap.size, 0, none⟩) m (m + 1)) (x) := by
            refine ⟨?_, apart_fresh hPk.attrs _ _, apart_fresh hPk.ops _ _, apart_fresh hPk.vals _ _⟩
            rw [← hl', List.take_length] at hown
            rw [← hl']
            exact hown
          have hB0 := hBel.trans (hBi.mono hBs)
          have hz0 : base ≤ wr.heap.size := Nat.le_trans hBs hBi.size
          have f1 := (hB0.cell (p := ⟨b, o + k * 3 + 1, none⟩) hbB).trans c1w
          clear ha2 hs0 c0 hown
          go_wp2_with (first
            | (at_builtin; refine wpList_append_own_at _ rfl (.tmp 52) (.tmp 54) 54 rfl base 32 i32 (.slice none 0 0) 1 24 Try.underlying54 hi32 hz32 hs32 hb32 rfl (by decide) _ _ _ rfl (hPi.attrs.alloc _) ⟨wr.heap.size, 0, none⟩ 1 1 [.slice (some ⟨wo.heap.size, 0, none⟩) m (m + 1)] rfl rfl (cell_one_new _ _ _) (one_cell_slice _ _ _) (by unfold maxLen; omega) (by omega) (by simp; omega) ?_; intro va1 w1 hA1 hg1 hn1 hl1; have hB1 := (hB0.alloc hz0 _).grown hg1 (by simp; omega) (fun j hj => (hPi.attrs.lt j hj).1); have hz1 : base ≤ w1.heap.size := Nat.le_trans hz0 (Nat.le_trans (by simp) hg1.size); have g1 := (hB1.cell (p := ⟨b, o + k * 3 + 1, none⟩) hbB).trans c1w; have hO1 := (hPi.ops.alloc _).kept hg1 hPi.ao.symm.ne; have hV1 := (hPi.vals.alloc _).kept hg1 hPi.av.symm.ne)
            | (at_builtin; refine wpList_append_own_at _ rfl (.tmp 56) (.tmp 62) 32 rfl base 9 i9 (.string ⟨#[]⟩) 1 16 Try.underlying32 hi9 hz9 hs9 hb9 rfl (by decide) _ _ _ rfl (hO1.alloc _) ⟨w1.heap.size, 0, none⟩ 1 1 [.string x.op] rfl rfl (cell_one_new _ _ _) (one_cell_str _) (by unfold maxLen; omega) (by omega) (by simp; omega) ?_; intro vo1 w2 hA2 hg2 hn2 hl2; have hB2 := (hB1.alloc hz1 _).grown hg2 (by simp; omega) (fun j hj => (hPi.ops.lt j hj).1); have hz2 : base ≤ w2.heap.size := Nat.le_trans hz1 (Nat.le_trans (by simp) hg2.size); have g2 := (hB2.cell (p := ⟨b, o + k * 3 + 2, none⟩) hbB).trans c2w; have hV2 := (hV1.alloc _).kept hg2 hPi.ov.symm.ne)
            | (at_builtin; refine wpList_append_own_at _ rfl (.tmp 64) (.tmp 70) 32 rfl base 9 i9 (.string ⟨#[]⟩) 1 16 Try.underlying32 hi9 hz9 hs9 hb9 rfl (by decide) _ _ _ rfl (hV2.alloc _) ⟨w2.heap.size, 0, none⟩ 1 1 [.string x.val] rfl rfl (cell_one_new _ _ _) (one_cell_str _) (by unfold maxLen; omega) (by omega) (by simp; omega) ?_; intro vv1 w3 hA3 hg3 hn3 hl3))
          go_roundw
          case rel =>
            refine ⟨k + 1, A ++ [.slice (some ⟨wo.heap.size, 0, none⟩) m (m + 1)], by omega, by go_num, ?_, (hB2.alloc hz2 _).grown hg3 (by simp; omega) (fun j hj => (hPi.vals.lt j hj).1), Nat.le_trans hz2 (Nat.le_trans (by simp) hg3.size)⟩
            rw [HES.out, List.map_append, ← List.append_assoc, HLg.out]
            exact Parts.snoc hPi hAO (by simp) (by simp) (by simp) hA1 ((World.grownBy_alloc _ _ _).trans hg1) hl1 hA2 ((World.grownBy_alloc _ _ _).trans hg2) hl2 hA3 ((World.grownBy_alloc _ _ _).trans hg3) hl3
          case measure => simp [intOf]; omega
    · obtain rfl : k = len := by omega
      go_wp2
      go_ret3
      refine ⟨_, _, _, A, rfl, ?_, hBel⟩
      rw [← hl, List.take_length] at hPk
      exact hPk

set_option maxHeartbeats 4000000 in
set_option maxRecDepth 10000 in
theorem partsP_any (base : Nat) (va vo vv : Value) (A0 : List Value) (L0 : List Ex) (a : Option Addr) (len cap b o : Nat) (es : List Ex) (p : ByteArray) (w : World) (hBase : base ≤ w.heap.size) (hP : Parts w base va vo vv A0 L0)
    (hE : ERow base w a len cap b o es) (hN : L0.length + len ≤ 2097152) (hA : ∀ i, i < len → (es.getD i Ex.zero).attr.length ≤ 1048576) :
    Calls Try.prog 27 #[va, vo, vv, .slice a len cap, .string p, .bool true] w fun e w' => ∃ va' vo' vv' A', e = .returned (.tuple #[va', vo', vv']) ∧ Parts w' base va' vo' vv' A' (L0 ++ es.map (pre p)) ∧ Below base w w' := by
  obtain ⟨i9, hi9, hz9, hs9, hb9⟩ := info_parts Try.info9
  obtain ⟨i32, hi32, hz32, hs32, hb32⟩ := info_parts Try.info32
  have hE0 := hE
  obtain ⟨hl, hlc, hcm, ha, _⟩ := hE
  unfold maxLen at hcm
  go_enter Try.func27, Try.ntmps27
  go_wp2_with fail
  go_loopw [0, 1, 2, 15] (fun s0 s1 s2 i wr => ∃ (k : Nat) (A : List Value), k ≤ len ∧ i = .int .i64 k ∧ Parts wr base s0 s1 s2 A (L0 ++ (es.take k).map (pre p)) ∧ Below base w wr ∧ base ≤ wr.heap.size) (fun _ _ _ i _ => len - (intOf i).toNat)
  case atStart => exact ⟨0, A0, Nat.zero_le _, rfl, by simpa using hP, Below.refl _ _, hBase⟩
  case round =>
    obtain ⟨k, A, hk, rfl, hPk, hBel, hBs⟩ := hrel
    obtain ⟨wo, hwo⟩ : ∃ wo, wo = wr := ⟨_, rfl⟩
    subst hwo
    by_cases hlt : k < len
    · obtain ⟨ha', hbB⟩ := ha (by omega)
      subst ha'
      obtain ⟨_, _, _, _, hc⟩ := hE0
      have hAk := hA k hlt
      have HES : Hid (es.take (k + 1) = es.take k ++ [es.getD k Ex.zero]) := take_succ_getD es k (by omega)
      have hlen : (L0 ++ (es.take k).map (pre p)).length = L0.length + k := by simp; omega
      obtain ⟨a', len', cap', b', o', c0w, hs, c1w, c2w⟩ := hc k hlt
      generalize es.getD k Ex.zero = x at *
      have hs0 := hs
      obtain ⟨hl', hlc', hcm', ha2, _⟩ := hs
      unfold maxLen at hcm'
      clear hc ha
      have c0 := (hBel.cell (p := ⟨b, o + k * 3, none⟩) hbB).trans c0w
      have hlen' : len' ≤ 1048576 := by omega
      have HLL : Hid ((L0 ++ (es.take k).map (pre p)).length = L0.length + k) := hlen
      generalize hLg : L0 ++ (es.take k).map (pre p) = L at *
      have HLg : Hid (L0 ++ (es.take k).map (pre p) = L) := hLg
      clear hLg hlen
      have hLk : L.length ≤ 2097151 := by have := HLL.out; omega
      go_wp2_with (first
          | (at_make; refine wpList_make_own _ rfl _ _ 32 rfl base 9 i9 (.string ⟨#[]⟩) 1 Try.underlying32 hi9 hz9 hs9 .i64 .i64 _ (len' + 1) rfl rfl (by omega) (by rw [hb9]; omega) (by unfold maxLen; omega) hBs ?_; intro w1 hown1 hgrow1)
          | (at_builtin; refine wpList_append_fits _ rfl (.tmp 35) (.tmp 37) 32 rfl base 9 i9 1 Try.underlying32 hi9 hs9 wo.heap.size 0 (len' + 1) [] rfl (hown1.alloc _) ⟨w1.heap.size, 0, none⟩ 1 1 [.string p] rfl rfl (cell_one_new _ _ _) (one_cell_str p) (by omega) ?_; intro w1p hown1p hgrow1p))
      go_loopw [17, 18] (fun c j wi => ∃ m : Nat, m ≤ len' ∧ j = .int .i64 m ∧ c = .slice (some ⟨wo.heap.size, 0, none⟩) (m + 1) (len' + 1) ∧ wi.ownsRow base 9 1 (.slice (some ⟨wo.heap.size, 0, none⟩) (m + 1) (len' + 1)) (m + 1) ([Value.string p] ++ strs (x.attr.take m)) ∧ Below wo.heap.size wo wi) (fun _ j _ => len' - (intOf j).toNat)
      case atStart => exact ⟨0, Nat.zero_le _, rfl, rfl, by simpa [strs] using hown1p, (((Below.refl _ _).grown hgrow1 (Nat.le_refl _) (fun k h => by cases h)).alloc hgrow1.size _).grown hgrow1p (by have := hgrow1.size; simp; omega) (fun k h => by cases h; exact Nat.le_refl _)⟩
      case round =>
        obtain ⟨m, hm, rfl, rfl, hown, hBi⟩ := hrel
        by_cases hlt2 : m < len'
        · obtain ⟨ha2', _⟩ := ha2 (by omega)
          subst ha2'
          obtain ⟨_, _, _, _, hc'⟩ := hs0.kept (hBel.trans (hBi.mono hBs))
          have d0 := hc' m hlt2
          have HS : Hid (strs (x.attr.take (m + 1)) = strs (x.attr.take m) ++ [.string (x.attr.getD m ⟨#[]⟩)]) := strs_take_succ x.attr m (by omega)
          generalize x.attr.getD m ⟨#[]⟩ = y at *
          clear hc' ha2
          go_wp2_with (first
            | (at_builtin; refine wpList_append_fits _ rfl (.tmp 45) (.tmp 50) 32 rfl base 9 i9 1 Try.underlying32 hi9 hs9 wo.heap.size (m + 1) (len' + 1) _ rfl (hown.alloc _) ⟨wr.heap.size, 0, none⟩ 1 1 [.string y] rfl rfl (cell_one_new _ _ _) (one_cell_str y) (by omega) ?_; intro w2 hown2 hgrow2))
          go_roundw
          case rel =>
            refine ⟨m + 1, by omega, by go_num, rfl, ?_, (hBi.alloc hBi.size _).grown hgrow2 (by have := hBi.size; simp; omega) (fun k h => by cases h; exact Nat.le_refl _)⟩
            rw [HS.out, ← List.append_assoc]
            exact hown2
          case measure => simp [intOf]; omega
        · obtain rfl : m = len' := by omega
          have hPi := hPk.kept hBi (Nat.le_refl _)
          have hAO : AttrOwn wr base u0 u1 u2 (.slice (some ⟨wo.heap.size, 0, none⟩) (m + 1) (m + 1)) (pre p x) := by
            refine ⟨?_, apart_fresh hPk.attrs _ _, apart_fresh hPk.ops _ _, apart_fresh hPk.vals _ _⟩
            rw [← hl', List.take_length] at hown
            rw [← hl']
            exact hown
          have hB0 := hBel.trans (hBi.mono hBs)
          have hz0 : base ≤ wr.heap.size := Nat.le_trans hBs hBi.size
          have f1 := (hB0.cell (p := ⟨b, o + k * 3 + 1, none⟩) hbB).trans c1w
          clear ha2 hs0 c0 hown
          go_wp2_with (first
            | (at_builtin; refine wpList_append_own_at _ rfl (.tmp 52) (.tmp 54) 54 rfl base 32 i32 (.slice none 0 0) 1 24 Try.underlying54 hi32 hz32 hs32 hb32 rfl (by decide) _ _ _ rfl (hPi.attrs.alloc _) ⟨wr.heap.size, 0, none⟩ 1 1 [.slice (some ⟨wo.heap.size, 0, none⟩) (m + 1) (m + 1)] rfl rfl (cell_one_new _ _ _) (one_cell_slice _ _ _) (by unfold maxLen; omega) (by omega) (by simp; omega) ?_; intro va1 w1 hA1 hg1 hn1 hl1; have hB1 := (hB0.alloc hz0 _).grown hg1 (by simp; omega) (fun j hj => (hPi.attrs.lt j hj).1); have hz1 : base ≤ w1.heap.size := Nat.le_trans hz0 (Nat.le_trans (by simp) hg1.size); have g1 := (hB1.cell (p := ⟨b, o + k * 3 + 1, none⟩) hbB).trans c1w; have hO1 := (hPi.ops.alloc _).kept hg1 hPi.ao.symm.ne; have hV1 := (hPi.vals.alloc _).kept hg1 hPi.av.symm.ne)
            | (at_builtin; refine wpList_append_own_at _ rfl (.tmp 56) (.tmp 62) 32 rfl base 9 i9 (.string ⟨#[]⟩) 1 16 Try.underlying32 hi9 hz9 hs9 hb9 rfl (by decide) _ _ _ rfl (hO1.alloc _) ⟨w1.heap.size, 0, none⟩ 1 1 [.string x.op] rfl rfl (cell_one_new _ _ _) (one_cell_str _) (by unfold maxLen; omega) (by omega) (by simp; omega) ?_; intro vo1 w2 hA2 hg2 hn2 hl2; have hB2 := (hB1.alloc hz1 _).grown hg2 (by simp; omega) (fun j hj => (hPi.ops.lt j hj).1); have hz2 : base ≤ w2.heap.size := Nat.le_trans hz1 (Nat.le_trans (by simp) hg2.size); have g2 := (hB2.cell (p := ⟨b, o + k * 3 + 2, none⟩) hbB).trans c2w; have hV2 := (hV1.alloc _).kept hg2 hPi.ov.symm.ne)
            | (at_builtin; refine wpList_append_own_at _ rfl (.tmp 64) (.tmp 70) 32 rfl base 9 i9 (.string ⟨#[]⟩) 1 16 Try.underlying32 hi9 hz9 hs9 hb9 rfl (by decide) _ _ _ rfl (hV2.alloc _) ⟨w2.heap.size, 0, none⟩ 1 1 [.string x.val] rfl rfl (cell_one_new _ _ _) (one_cell_str _) (by unfold maxLen; omega) (by omega) (by simp; omega) ?_; intro vv1 w3 hA3 hg3 hn3 hl3))
          go_roundw
          case rel =>
            refine ⟨k + 1, A ++ [.slice (some ⟨wo.heap.size, 0, none⟩) (m + 1) (m + 1)], by omega, by go_num, ?_, (hB2.alloc hz2 _).grown hg3 (by simp; omega) (fun j hj => (hPi.vals.lt j hj).1), Nat.le_trans hz2 (Nat.le_trans (by simp) hg3.size)⟩
            rw [HES.out, List.map_append, ← List.append_assoc, HLg.out]
            exact Parts.snoc hPi hAO (by simp) (by simp) (by simp) hA1 ((World.grownBy_alloc _ _ _).trans hg1) hl1 hA2 ((World.grownBy_alloc _ _ _).trans hg2) hl2 hA3 ((World.grownBy_alloc _ _ _).trans hg3) hl3
          case measure => simp [intOf]; omega
    · obtain rfl : k = len := by omega
      go_wp2
      go_ret3
      refine ⟨_, _, _, A, rfl, ?_, hBel⟩
      rw [← hl, List.take_length] at hPk
      exact hPk

end Go.Proofs.Qxb6613313a
