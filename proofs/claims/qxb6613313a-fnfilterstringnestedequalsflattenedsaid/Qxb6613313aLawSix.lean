/-
  FnFilterStringNestedEqualsFlattened: THE WALK.
-/
import Derived.Test.Qxb6613313aTreeText
import Derived.Test.Qxb6613313aBounds3
import Derived.Test.Qxb6613313aFlatSize
namespace Go.Proofs.Qxb6613313a
open Go.RowKit

theorem ba_ne {p q : ByteArray} (h : p ≠ q) : (p == q) = false := by
  cases e : (p == q) with
  | false => rfl
  | true => exact absurd ((Go.MapKept.bytes_beq p q).1 e) h

set_option maxHeartbeats 8000000 in
set_option maxRecDepth 10000 in
theorem law6 (a0 a1 a2 : Option Addr) (l0 c0 b0 o0 l1 c1 b1 o1 l2 c2 b2 o2 : Nat) (es0 es1 es2 : List Ex) (p q : ByteArray) (w : World)
    (hE0 : ERow w.heap.size w a0 l0 c0 b0 o0 es0) (hE1 : ERow w.heap.size w a1 l1 c1 b1 o1 es1) (hE2 : ERow w.heap.size w a2 l2 c2 b2 o2 es2) :
    Calls Try.prog 6 #[.slice a0 l0 c0, .string p, .slice a1 l1 c1, .string q, .slice a2 l2 c2] w fun e w' => e = .returned (.bool true) ∧ Below w.heap.size w w' := by
  have HE : Hid (ERow w.heap.size w a0 l0 c0 b0 o0 es0 ∧ ERow w.heap.size w a1 l1 c1 b1 o1 es1 ∧ ERow w.heap.size w a2 l2 c2 b2 o2 es2) := ⟨hE0, hE1, hE2⟩
  clear hE0 hE1 hE2
  go_enter Try.func6, Try.ntmps6
  go_wp2_with fail
  refine (bytes25_any w.heap.size a0 a1 a2 l0 c0 b0 o0 l1 c1 b1 o1 l2 c2 b2 o2 es0 es1 es2 p q w HE.out.1 HE.out.2.1 HE.out.2.2).mono ?_
  rintro e w' ⟨⟨z, rfl⟩, rfl⟩
  cases z with
  | false =>
    go_wp2
    go_ret
    exact ⟨rfl, Below.refl _ _⟩
  | true =>
    go_wp2_with fail
    refine (exprBytes_any w.heap.size a0 l0 c0 b0 o0 es0 0 w (by omega) (by omega) HE.out.1).mono ?_
    rintro e w' ⟨⟨t, ok, rfl, hok⟩, rfl⟩
    cases ok with
    | false =>
      go_wp2
      go_ret
      exact ⟨rfl, Below.refl _ _⟩
    | true =>
      obtain ⟨ht, ht2⟩ := hok rfl
      have hs0 := esizes_nonneg es0
      have ht0 : 0 ≤ t := by omega
      have H0 : Hid (t = 0 + (es0.length : Int) * 56 + esizes es0 ∧ t ≤ 1048576) := ⟨ht, ht2⟩
      clear hok ht hs0
      go_wp2_with fail
      refine (exprBytes_any w.heap.size a1 l1 c1 b1 o1 es1 t w ht0 ht2 HE.out.2.1).mono ?_
      rintro e w' ⟨⟨t1, ok, rfl, hok⟩, rfl⟩
      cases ok with
      | false =>
        go_wp2
        go_ret
        exact ⟨rfl, Below.refl _ _⟩
      | true =>
        obtain ⟨ht, hu2⟩ := hok rfl
        have hs0 := esizes_nonneg es1
        have hu0 : 0 ≤ t1 := by omega
        have H1 : Hid (t1 = t + (es1.length : Int) * 56 + esizes es1 ∧ t1 ≤ 1048576) := ⟨ht, hu2⟩
        clear hok ht hs0
        go_wp2_with fail
        refine (exprBytes_any w.heap.size a2 l2 c2 b2 o2 es2 t1 w hu0 hu2 HE.out.2.2).mono ?_
        rintro e w' ⟨⟨t2, ok, rfl, hok⟩, rfl⟩
        cases ok with
        | false =>
          go_wp2
          go_ret
          exact ⟨rfl, Below.refl _ _⟩
        | true =>
          obtain ⟨ht, hv2⟩ := hok rfl
          have hs0 := esizes_nonneg es2
          have hv0 : 0 ≤ t2 := by omega
          have H2 : Hid (t2 = t1 + (es2.length : Int) * 56 + esizes es2 ∧ t2 ≤ 1048576) := ⟨ht, hv2⟩
          clear hok ht hs0
          go_wp2_with fail
          refine (add_any t2 (p.size : Int) 1 w hv0 hv2 (by omega) (by omega) (by omega)).mono ?_
          rintro e w' ⟨rfl, rfl⟩
          cases hf : fitsB t2 (p.size : Int) 1 with
          | false =>
            go_wp2
            go_ret
            exact ⟨rfl, Below.refl _ _⟩
          | true =>
            have hp0 := fits_true (by omega) hf
            have hp1 : p.size ≤ 1048576 := by omega
            rw [addT_true hf]
            have HF : Hid (t2 + (p.size : Int) * 1 ≤ 1048576) := hp0
            have hw0 : 0 ≤ t2 + (p.size : Int) * 1 := by omega
            generalize t2 + (p.size : Int) * 1 = t3 at *
            clear hf
            go_wp2_with fail
            refine (add_any t3 (q.size : Int) 1 w hw0 hp0 (by omega) (by omega) (by omega)).mono ?_
            rintro e w' ⟨rfl, rfl⟩
            cases hf : fitsB t3 (q.size : Int) 1 with
            | false =>
              go_wp2
              go_ret
              exact ⟨rfl, Below.refl _ _⟩
            | true =>
              have hq0 := fits_true (by omega) hf
              have hq1 : q.size ≤ 1048576 := by omega
              clear hf hq0 HF hw0 hp0
              generalize addT t3 (q.size : Int) 1 = t4
              by_cases hpq : p = q
              · subst hpq
                go_wp2
                go_ret
                exact ⟨rfl, Below.refl _ _⟩
              · have hne : (p == q) = false := ba_ne hpq
                have hnl : (p.toList == q.toList) = false := by rw [← beq_toListBytes]; exact hne
                go_wp2_with fail
                refine (allNamed_any w.heap.size a1 l1 c1 b1 o1 es1 w HE.out.2.1).mono ?_
                rintro e w' ⟨⟨r, rfl, hr⟩, rfl⟩
                cases r with
                | false =>
                  go_wp2
                  go_ret
                  exact ⟨rfl, Below.refl _ _⟩
                | true =>
                  have HN1 : Hid (AllNamed es1) := allNamed_of (hr rfl)
                  clear hr
                  go_wp2_with fail
                  refine (allNamed_any w.heap.size a2 l2 c2 b2 o2 es2 w HE.out.2.2).mono ?_
                  rintro e w' ⟨⟨r, rfl, hr⟩, rfl⟩
                  cases r with
                  | false =>
                    go_wp2
                    go_ret
                    exact ⟨rfl, Below.refl _ _⟩
                  | true =>
                    have HN2 : Hid (AllNamed es2) := allNamed_of (hr rfl)
                    clear hr
                    have SZ : Hid ((l0 ≤ 18725 ∧ l1 ≤ 18725 ∧ l2 ≤ 18725) ∧ (esizes es0 ≤ 1048576 ∧ esizes es1 ≤ 1048576 ∧ esizes es2 ≤ 1048576)) := by
                      have e0 := HE.out.1.1
                      have e1 := HE.out.2.1.1
                      have e2 := HE.out.2.2.1
                      have f0 := esizes_nonneg es0
                      have f1 := esizes_nonneg es1
                      have f2 := esizes_nonneg es2
                      obtain ⟨g0, g0'⟩ := H0.out
                      obtain ⟨g1, g1'⟩ := H1.out
                      obtain ⟨g2, g2'⟩ := H2.out
                      show _ ∧ _
                      omega
                    clear H0 H1 H2 ht0 ht2 hu0 hu2 hv0 hv2
                    go_wp2_with fail
                    refine (parts_any w.heap.size (.slice none 0 0) (.slice none 0 0) (.slice none 0 0) [] [] a0 l0 c0 b0 o0 es0 ⟨#[]⟩ w (Nat.le_refl _) (Parts.nil _ _) HE.out.1 (by have := SZ.out.1.1; simp; omega) (fun i _ => esize_attr _ (Int.le_trans (esize_getD es0 i) SZ.out.2.1))).mono ?_
                    rintro e w1 ⟨va, vo, vv, A, rfl, hP, hB1⟩
                    rw [map_id_list] at hP
                    have HP : Hid (Parts w1 w.heap.size va vo vv A es0) := hP
                    have HB1 : Hid (Below w.heap.size w w1) := hB1
                    clear hP hB1
                    go_wp2_with fail
                    have hb2 : Below w1.heap.size w1 (w1.alloc (.cells #[.string p, .string q] 9)) := (Below.refl _ _).alloc (Nat.le_refl _) _
                    have n0 : (w1.alloc (.cells #[.string p, .string q] 9)).cell? ⟨w1.heap.size, 0, none⟩ = some (.string p) := by simp [go_sem]
                    have n1 : (w1.alloc (.cells #[.string p, .string q] 9)).cell? ⟨w1.heap.size, 1, none⟩ = some (.string q) := by simp [go_sem]
                    have hz2 : w1.heap.size < (w1.alloc (.cells #[.string p, .string q] 9)).heap.size := by simp
                    obtain ⟨w2, hw2⟩ : ∃ w2, w2 = w1.alloc (.cells #[.string p, .string q] 9) := ⟨_, rfl⟩
                    rw [← hw2] at hb2 n0 n1 hz2 ⊢
                    clear hw2
                    have HB2 : Hid (Below w.heap.size w w2) := HB1.out.trans (hb2.mono HB1.out.size)
                    refine (leaf_any w.heap.size a1 l1 c1 b1 o1 es1 w2 HB2.out.size (HE.out.2.1.kept HB2.out) (by have := SZ.out.1.2.1; omega) (fun i _ => Int.le_trans (esize_getD es1 i) SZ.out.2.2.1)).mono ?_
                    rintro e w3 ⟨F1, rfl, hL1, hB3⟩
                    have HL1 : Hid (LeafAt w3.heap.size w3 F1 es1 ∧ Below w2.heap.size w2 w3) := ⟨hL1, hB3⟩
                    have HN : Hid (Below w1.heap.size w1 w2 ∧ w1.heap.size < w2.heap.size ∧ w2.cell? ⟨w1.heap.size, 0, none⟩ = some (.string p) ∧ w2.cell? ⟨w1.heap.size, 1, none⟩ = some (.string q)) := ⟨hb2, hz2, n0, n1⟩
                    have HB3 : Hid (Below w.heap.size w w3) := HB2.out.trans (hB3.mono HB2.out.size)
                    clear hL1 hB3 hb2 hz2 n0 n1
                    go_wp2_with fail
                    refine (leaf_any w.heap.size a2 l2 c2 b2 o2 es2 w3 HB3.out.size (HE.out.2.2.kept HB3.out) (by have := SZ.out.1.2.2; omega) (fun i _ => Int.le_trans (esize_getD es2 i) SZ.out.2.2.2)).mono ?_
                    rintro e w4 ⟨F2, rfl, hL2, hB4⟩
                    have HL2 : Hid (LeafAt w4.heap.size w4 F2 es2 ∧ Below w3.heap.size w3 w4) := ⟨hL2, hB4⟩
                    have HB4 : Hid (Below w.heap.size w w4) := HB3.out.trans (hB4.mono HB3.out.size)
                    clear hL2 hB4
                    go_wp2_with fail
                    have hb5 : Below w4.heap.size w4 (w4.alloc (.cells #[.pointer (some ⟨F1, 0, none⟩), .pointer (some ⟨F2, 0, none⟩)] 46)) := (Below.refl _ _).alloc (Nat.le_refl _) _
                    have m0 : (w4.alloc (.cells #[.pointer (some ⟨F1, 0, none⟩), .pointer (some ⟨F2, 0, none⟩)] 46)).cell? ⟨w4.heap.size, 0, none⟩ = some (.pointer (some ⟨F1, 0, none⟩)) := by simp [go_sem]
                    have m1 : (w4.alloc (.cells #[.pointer (some ⟨F1, 0, none⟩), .pointer (some ⟨F2, 0, none⟩)] 46)).cell? ⟨w4.heap.size, 1, none⟩ = some (.pointer (some ⟨F2, 0, none⟩)) := by simp [go_sem]
                    obtain ⟨w5, hw5⟩ : ∃ w5, w5 = w4.alloc (.cells #[.pointer (some ⟨F1, 0, none⟩), .pointer (some ⟨F2, 0, none⟩)] 46) := ⟨_, rfl⟩
                    rw [← hw5] at hb5 m0 m1 ⊢
                    clear hw5
                    obtain ⟨g2, gz, n0, n1⟩ := HN.out
                    have b25 : Below w2.heap.size w2 w5 := HL1.out.2.trans ((HL2.out.2.trans (hb5.mono HL2.out.2.size)).mono HL1.out.2.size)
                    have b15 : Below w1.heap.size w1 w5 := g2.trans (b25.mono g2.size)
                    have n0' := (b25.cell (p := ⟨w1.heap.size, 0, none⟩) gz).trans n0
                    have n1' := (b25.cell (p := ⟨w1.heap.size, 1, none⟩) gz).trans n1
                    have e0 := HE.out.1.1
                    have hP5 := HP.out.kept b15 (Nat.le_refl _)
                    refine (newFilter_tree p q w1.heap.size w4.heap.size F1 F2 w.heap.size va vo vv A es0 w5 hP5 (by have := SZ.out.1.1; omega) n0' n1' m0 m1 hp1 hq1).mono ?_
                    rintro e w6 ⟨rfl, vx, mb, hR⟩
                    have b56 : Below w5.heap.size w5 w6 := hR.2.2.2.1
                    have b46 : Below w4.heap.size w4 w6 := hb5.trans (b56.mono hb5.size)
                    have b36 : Below w3.heap.size w3 w6 := HL2.out.2.trans (b46.mono HL2.out.2.size)
                    have HT : Hid (TreeAt w6.heap.size w6 w5.heap.size es0 mb (D2 p q F1 F2) ∧ LeafAt w6.heap.size w6 F1 es1 ∧ LeafAt w6.heap.size w6 F2 es2) := ⟨tree_of hP5 hR, (HL1.out.1.kept b36).mono b36.size, (HL2.out.1.kept b46).mono b46.size⟩
                    have HB6 : Hid (Below w.heap.size w w6) := HB4.out.trans (b46.mono HB4.out.size)
                    clear hb5 m0 m1 g2 gz n0 n1 b25 b15 n0' n1' e0 hP5 hR b56 b46 b36 HN HL1 HL2 HB4 HB3 HB2 HB1 HP
                    generalize w5.heap.size = FP at *
                    go_upto_region 25 with fail
                    cases hbl : Op.bytesLess q.toList p.toList with
                    | true =>
                      have HLT : Hid (q.data.toList < p.data.toList) := by
                        have h := hbl
                        rw [bytesLess_eq, Lib.toList_data, Lib.toList_data, decide_eq_true_iff] at h
                        exact h
                      have HS : Hid (∀ ss : List (List UInt8), ss.Perm (Go.strKeys (D2 p q F1 F2)) → ss.length = 2 ∧ ss.mergeSort (fun x y => decide (x ≤ y)) = [q.data.toList, p.data.toList]) := fun ss hs => by
                        refine ⟨by rw [hs.length_eq, (keys_perm F1 F2 hpq).1.length_eq]; rfl, ?_⟩
                        rw [sorted_two F1 F2 hpq hs, if_pos HLT.out]
                      have HFS : Hid (esizes (flatL es0 q es2 p es1) ≤ 70368744177664 ∧ (∀ i, esize ((flatL es0 q es2 p es1).getD i Ex.zero) ≤ 4194304) ∧ (flatL es0 q es2 p es1).length = es0.length + es2.length + es1.length) :=
                        flat_sizes es0 q es2 p es1 SZ.out.2.1 SZ.out.2.2.2 SZ.out.2.2.1 (by have := SZ.out.1.2.2; have := HE.out.2.2.1; omega) (by have := SZ.out.1.2.1; have := HE.out.2.1.1; omega) hq1 hp1
                      have HX : Hid (ERow w6.heap.size w6 a0 l0 c0 b0 o0 es0 ∧ ERow w6.heap.size w6 a1 l1 c1 b1 o1 es1 ∧ ERow w6.heap.size w6 a2 l2 c2 b2 o2 es2) := ⟨(HE.out.1.kept HB6.out).mono HB6.out.size, (HE.out.2.1.kept HB6.out).mono HB6.out.size, (HE.out.2.2.kept HB6.out).mono HB6.out.size⟩
                      go_upto_region 27 with fail
                      go_wp2_with fail
                      refine (parts_any w6.heap.size (.slice none 0 0) (.slice none 0 0) (.slice none 0 0) [] [] a0 l0 c0 b0 o0 es0 ⟨#[]⟩ w6 (Nat.le_refl _) (Parts.nil _ _) HX.out.1 (by have := SZ.out.1.1; simp; omega) (fun i _ => esize_attr _ (Int.le_trans (esize_getD es0 i) SZ.out.2.1))).mono ?_
                      rintro e w7 ⟨va7, vo7, vv7, A7, rfl, hP7, hB7⟩
                      rw [map_id_list] at hP7
                      have HP7 : Hid (Parts w7 w6.heap.size va7 vo7 vv7 A7 es0 ∧ Below w6.heap.size w6 w7) := ⟨hP7, hB7⟩
                      clear hP7 hB7
                      go_wp2_with fail
                      refine (partsP_any w6.heap.size va7 vo7 vv7 A7 es0 a2 l2 c2 b2 o2 es2 q w7 HP7.out.2.size HP7.out.1 (HX.out.2.2.kept HP7.out.2) (by have := SZ.out.1.2.2; have := SZ.out.1.1; have := HE.out.1.1; omega) (fun i _ => esize_attr _ (Int.le_trans (esize_getD es2 i) SZ.out.2.2.2))).mono ?_
                      rintro e w8 ⟨va8, vo8, vv8, A8, rfl, hP8, hB8⟩
                      have HP8 : Hid (Parts w8 w6.heap.size va8 vo8 vv8 A8 (es0 ++ es2.map (pre q)) ∧ Below w6.heap.size w6 w8) := ⟨hP8, HP7.out.2.trans hB8⟩
                      clear hP8 hB8 HP7
                      go_wp2_with fail
                      refine (partsP_any w6.heap.size va8 vo8 vv8 A8 (es0 ++ es2.map (pre q)) a1 l1 c1 b1 o1 es1 p w8 HP8.out.2.size HP8.out.1 (HX.out.2.1.kept HP8.out.2) (by have := SZ.out.1.2.1; have := SZ.out.1.2.2; have := SZ.out.1.1; have := HE.out.1.1; have := HE.out.2.2.1; simp; omega) (fun i _ => esize_attr _ (Int.le_trans (esize_getD es1 i) SZ.out.2.2.1))).mono ?_
                      rintro e w9 ⟨va9, vo9, vv9, A9, rfl, hP9, hB9⟩
                      have HP9 : Hid (Parts w9 w6.heap.size va9 vo9 vv9 A9 (flatL es0 q es2 p es1) ∧ Below w6.heap.size w6 w9) := ⟨hP9, HP8.out.2.trans hB9⟩
                      clear hP9 hB9 HP8
                      go_wp2_with fail
                      refine (newFilter_leaf w6.heap.size va9 vo9 vv9 A9 (flatL es0 q es2 p es1) w9 HP9.out.1 (by have := SZ.out.1.2.1; have := SZ.out.1.2.2; have := SZ.out.1.1; have := HE.out.1.1; have := HE.out.2.1.1; have := HE.out.2.2.1; have := HFS.out.2.2; omega)).mono ?_
                      rintro e w10 ⟨rfl, vx10, hR10⟩
                      have hLf := leaf_of HP9.out.1 hR10
                      have b910 : Below w9.heap.size w9 w10 := hR10.2.2.2.2.1
                      have HW10 : Hid (LeafAt w10.heap.size w10 w9.heap.size (flatL es0 q es2 p es1) ∧ Below w6.heap.size w6 w10) := ⟨hLf, HP9.out.2.trans (b910.mono HP9.out.2.size)⟩
                      clear hLf b910 hR10 HP9
                      generalize w9.heap.size = FL at *
                      go_wp2_with fail
                      refine (string_tree w6.heap.size FP es0 mb F2 F1 q p es2 es1 (D2 p q F1 F2) w10 (HT.out.1.kept HW10.out.2) HW10.out.2.size (by have := SZ.out.1.1; have := HE.out.1.1; omega) (fun i _ => by have := esize_getD es0 i; have := SZ.out.2.1; omega) (keys_perm F1 F2 hpq).2 (fun wx hx => ⟨(look_name hpq hp1 hq1 hx).2, (look_name hpq hp1 hq1 hx).1⟩) HS.out (HT.out.2.2.kept HW10.out.2) (HT.out.2.1.kept HW10.out.2) (by have := SZ.out.1.2.2; have := HE.out.2.2.1; omega) (by have := SZ.out.1.2.1; have := HE.out.2.1.1; omega) hq1 hp1 (fun i _ => by have := esize_getD es2 i; have := SZ.out.2.2.2; omega) (fun i _ => by have := esize_getD es1 i; have := SZ.out.2.2.1; omega) HN2.out HN1.out HFS.out.1).mono ?_
                      rintro e w11 ⟨rfl, hB11⟩
                      have HB11 : Hid (Below w10.heap.size w10 w11) := hB11
                      clear hB11
                      go_wp2_with fail
                      refine (string_leafW w10.heap.size FL (flatL es0 q es2 p es1) w11 (HW10.out.1.kept HB11.out) HB11.out.size (by have := SZ.out.1.2.1; have := SZ.out.1.2.2; have := SZ.out.1.1; have := HE.out.1.1; have := HE.out.2.1.1; have := HE.out.2.2.1; have := HFS.out.2.2; omega) HFS.out.1 (fun i _ => HFS.out.2.1 i)).mono ?_
                      rintro e w12 ⟨rfl, hB12⟩
                      have b1012 : Below w10.heap.size w10 w12 := HB11.out.trans (hB12.mono HB11.out.size)
                      have b612 : Below w6.heap.size w6 w12 := HW10.out.2.trans (b1012.mono HW10.out.2.size)
                      have HB12 : Hid (Below w.heap.size w w12) := HB6.out.trans (b612.mono HB6.out.size)
                      clear hB12 b1012 b612
                      have hFL := flat_len' es0 p es1 q es2 HN1.out HN2.out
                      have hNL := nestedLen_any w.heap.size a0 a1 a2 l0 c0 b0 o0 l1 c1 b1 o1 l2 c2 b2 o2 es0 es1 es2 p q w12 HB12.out.size (HE.out.1.kept HB12.out) (HE.out.2.1.kept HB12.out) (HE.out.2.2.kept HB12.out) hp1 hq1 (by have := SZ.out.1.1; omega) (by have := SZ.out.1.2.1; omega) (by have := SZ.out.1.2.2; omega) (fun i => Int.le_trans (esize_getD es0 i) SZ.out.2.1) (fun i => Int.le_trans (esize_getD es1 i) SZ.out.2.2.1) (fun i => Int.le_trans (esize_getD es2 i) SZ.out.2.2.2)
                      rw [← hFL] at hNL
                      have HNL : Hid (Calls Try.prog 29 #[.slice a0 l0 c0, .string p, .slice a1 l1 c1, .string q, .slice a2 l2 c2] w12 fun e w' => e = .returned (.int .i64 ((strOf (flatL es0 q es2 p es1)).size : Int)) ∧ Below w.heap.size w12 w') := hNL
                      clear hFL hNL HW10 HB11 HFS HS HX HLT HT hbl
                      generalize strOf (flatL es0 q es2 p es1) = SS at *
                      go_wp2_with fail
                      refine Calls.mono HNL.out ?_
                      rintro e w13 ⟨rfl, hB13⟩
                      go_wp2
                      go_ret
                      exact ⟨rfl, HB12.out.trans hB13⟩
                    | false =>
                      have HLT : Hid (¬ q.data.toList < p.data.toList) := by
                        have h := hbl
                        rw [bytesLess_eq, Lib.toList_data, Lib.toList_data, decide_eq_false_iff_not] at h
                        exact h
                      have HS : Hid (∀ ss : List (List UInt8), ss.Perm (Go.strKeys (D2 p q F1 F2)) → ss.length = 2 ∧ ss.mergeSort (fun x y => decide (x ≤ y)) = [p.data.toList, q.data.toList]) := fun ss hs => by
                        refine ⟨by rw [hs.length_eq, (keys_perm F1 F2 hpq).1.length_eq]; rfl, ?_⟩
                        rw [sorted_two F1 F2 hpq hs, if_neg HLT.out]
                      have HFS : Hid (esizes (flatL es0 p es1 q es2) ≤ 70368744177664 ∧ (∀ i, esize ((flatL es0 p es1 q es2).getD i Ex.zero) ≤ 4194304) ∧ (flatL es0 p es1 q es2).length = es0.length + es1.length + es2.length) :=
                        flat_sizes es0 p es1 q es2 SZ.out.2.1 SZ.out.2.2.1 SZ.out.2.2.2 (by have := SZ.out.1.2.1; have := HE.out.2.1.1; omega) (by have := SZ.out.1.2.2; have := HE.out.2.2.1; omega) hp1 hq1
                      have HX : Hid (ERow w6.heap.size w6 a0 l0 c0 b0 o0 es0 ∧ ERow w6.heap.size w6 a1 l1 c1 b1 o1 es1 ∧ ERow w6.heap.size w6 a2 l2 c2 b2 o2 es2) := ⟨(HE.out.1.kept HB6.out).mono HB6.out.size, (HE.out.2.1.kept HB6.out).mono HB6.out.size, (HE.out.2.2.kept HB6.out).mono HB6.out.size⟩
                      go_upto_region 27 with fail
                      go_wp2_with fail
                      refine (parts_any w6.heap.size (.slice none 0 0) (.slice none 0 0) (.slice none 0 0) [] [] a0 l0 c0 b0 o0 es0 ⟨#[]⟩ w6 (Nat.le_refl _) (Parts.nil _ _) HX.out.1 (by have := SZ.out.1.1; simp; omega) (fun i _ => esize_attr _ (Int.le_trans (esize_getD es0 i) SZ.out.2.1))).mono ?_
                      rintro e w7 ⟨va7, vo7, vv7, A7, rfl, hP7, hB7⟩
                      rw [map_id_list] at hP7
                      have HP7 : Hid (Parts w7 w6.heap.size va7 vo7 vv7 A7 es0 ∧ Below w6.heap.size w6 w7) := ⟨hP7, hB7⟩
                      clear hP7 hB7
                      go_wp2_with fail
                      refine (partsP_any w6.heap.size va7 vo7 vv7 A7 es0 a1 l1 c1 b1 o1 es1 p w7 HP7.out.2.size HP7.out.1 (HX.out.2.1.kept HP7.out.2) (by have := SZ.out.1.2.1; have := SZ.out.1.1; have := HE.out.1.1; omega) (fun i _ => esize_attr _ (Int.le_trans (esize_getD es1 i) SZ.out.2.2.1))).mono ?_
                      rintro e w8 ⟨va8, vo8, vv8, A8, rfl, hP8, hB8⟩
                      have HP8 : Hid (Parts w8 w6.heap.size va8 vo8 vv8 A8 (es0 ++ es1.map (pre p)) ∧ Below w6.heap.size w6 w8) := ⟨hP8, HP7.out.2.trans hB8⟩
                      clear hP8 hB8 HP7
                      go_wp2_with fail
                      refine (partsP_any w6.heap.size va8 vo8 vv8 A8 (es0 ++ es1.map (pre p)) a2 l2 c2 b2 o2 es2 q w8 HP8.out.2.size HP8.out.1 (HX.out.2.2.kept HP8.out.2) (by have := SZ.out.1.2.2; have := SZ.out.1.2.1; have := SZ.out.1.1; have := HE.out.1.1; have := HE.out.2.1.1; simp; omega) (fun i _ => esize_attr _ (Int.le_trans (esize_getD es2 i) SZ.out.2.2.2))).mono ?_
                      rintro e w9 ⟨va9, vo9, vv9, A9, rfl, hP9, hB9⟩
                      have HP9 : Hid (Parts w9 w6.heap.size va9 vo9 vv9 A9 (flatL es0 p es1 q es2) ∧ Below w6.heap.size w6 w9) := ⟨hP9, HP8.out.2.trans hB9⟩
                      clear hP9 hB9 HP8
                      go_wp2_with fail
                      refine (newFilter_leaf w6.heap.size va9 vo9 vv9 A9 (flatL es0 p es1 q es2) w9 HP9.out.1 (by have := SZ.out.1.2.2; have := SZ.out.1.2.1; have := SZ.out.1.1; have := HE.out.1.1; have := HE.out.2.1.1; have := HE.out.2.2.1; have := HFS.out.2.2; omega)).mono ?_
                      rintro e w10 ⟨rfl, vx10, hR10⟩
                      have hLf := leaf_of HP9.out.1 hR10
                      have b910 : Below w9.heap.size w9 w10 := hR10.2.2.2.2.1
                      have HW10 : Hid (LeafAt w10.heap.size w10 w9.heap.size (flatL es0 p es1 q es2) ∧ Below w6.heap.size w6 w10) := ⟨hLf, HP9.out.2.trans (b910.mono HP9.out.2.size)⟩
                      clear hLf b910 hR10 HP9
                      generalize w9.heap.size = FL at *
                      go_wp2_with fail
                      refine (string_tree w6.heap.size FP es0 mb F1 F2 p q es1 es2 (D2 p q F1 F2) w10 (HT.out.1.kept HW10.out.2) HW10.out.2.size (by have := SZ.out.1.1; have := HE.out.1.1; omega) (fun i _ => by have := esize_getD es0 i; have := SZ.out.2.1; omega) (keys_perm F1 F2 hpq).2 (fun wx hx => look_name hpq hp1 hq1 hx) HS.out (HT.out.2.1.kept HW10.out.2) (HT.out.2.2.kept HW10.out.2) (by have := SZ.out.1.2.1; have := HE.out.2.1.1; omega) (by have := SZ.out.1.2.2; have := HE.out.2.2.1; omega) hp1 hq1 (fun i _ => by have := esize_getD es1 i; have := SZ.out.2.2.1; omega) (fun i _ => by have := esize_getD es2 i; have := SZ.out.2.2.2; omega) HN1.out HN2.out HFS.out.1).mono ?_
                      rintro e w11 ⟨rfl, hB11⟩
                      have HB11 : Hid (Below w10.heap.size w10 w11) := hB11
                      clear hB11
                      go_wp2_with fail
                      refine (string_leafW w10.heap.size FL (flatL es0 p es1 q es2) w11 (HW10.out.1.kept HB11.out) HB11.out.size (by have := SZ.out.1.2.2; have := SZ.out.1.2.1; have := SZ.out.1.1; have := HE.out.1.1; have := HE.out.2.1.1; have := HE.out.2.2.1; have := HFS.out.2.2; omega) HFS.out.1 (fun i _ => HFS.out.2.1 i)).mono ?_
                      rintro e w12 ⟨rfl, hB12⟩
                      have b1012 : Below w10.heap.size w10 w12 := HB11.out.trans (hB12.mono HB11.out.size)
                      have b612 : Below w6.heap.size w6 w12 := HW10.out.2.trans (b1012.mono HW10.out.2.size)
                      have HB12 : Hid (Below w.heap.size w w12) := HB6.out.trans (b612.mono HB6.out.size)
                      clear hB12 b1012 b612
                      have hFL := flat_len es0 p es1 q es2 HN1.out HN2.out
                      have hNL := nestedLen_any w.heap.size a0 a1 a2 l0 c0 b0 o0 l1 c1 b1 o1 l2 c2 b2 o2 es0 es1 es2 p q w12 HB12.out.size (HE.out.1.kept HB12.out) (HE.out.2.1.kept HB12.out) (HE.out.2.2.kept HB12.out) hp1 hq1 (by have := SZ.out.1.1; omega) (by have := SZ.out.1.2.1; omega) (by have := SZ.out.1.2.2; omega) (fun i => Int.le_trans (esize_getD es0 i) SZ.out.2.1) (fun i => Int.le_trans (esize_getD es1 i) SZ.out.2.2.1) (fun i => Int.le_trans (esize_getD es2 i) SZ.out.2.2.2)
                      rw [← hFL] at hNL
                      have HNL : Hid (Calls Try.prog 29 #[.slice a0 l0 c0, .string p, .slice a1 l1 c1, .string q, .slice a2 l2 c2] w12 fun e w' => e = .returned (.int .i64 ((strOf (flatL es0 p es1 q es2)).size : Int)) ∧ Below w.heap.size w12 w') := hNL
                      clear hFL hNL HW10 HB11 HFS HS HX HLT HT hbl
                      generalize strOf (flatL es0 p es1 q es2) = SS at *
                      go_wp2_with fail
                      refine Calls.mono HNL.out ?_
                      rintro e w13 ⟨rfl, hB13⟩
                      go_wp2
                      go_ret
                      exact ⟨rfl, HB12.out.trans hB13⟩

end Go.Proofs.Qxb6613313a
