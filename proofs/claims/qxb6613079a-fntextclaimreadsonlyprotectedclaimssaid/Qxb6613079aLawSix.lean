/-
  FnTextClaimReadsOnlyProtectedClaims and FnSubjectIgnoresHeaderLabelAndUnprotectedClaims: THE WALKS.
-/
import Derived.Test.Qxb6613079aLawFive
namespace Go.Proofs.Qxb6613079a
open Go.RowKit

theorem newSign1_msg (w : World) :
    Calls Try.prog 20 #[] w fun e w' => e = .returned (.pointer (some ⟨w.heap.size + 2, 0, none⟩)) ∧ w'.cell? ⟨w.heap.size + 2, 2, none⟩ = some (.map (some w.heap.size)) ∧ w'.cell? ⟨w.heap.size + 2, 3, none⟩ = some (.map (some (w.heap.size + 1))) ∧
      IMap w' w.heap.size (fun _ => none) ∧ IMap w' (w.heap.size + 1) (fun _ => none) ∧ w.grownBy w' none ∧ w.heap.size + 2 < w'.heap.size := by
  refine (newSign1_any w).mono ?_
  rintro e w' ⟨rfl, o, rfl, h2, h3⟩
  refine ⟨rfl, h2, h3, ((IMap.made w).alloc _).alloc _, ?_, ((World.grownBy_alloc _ _ _).trans (World.grownBy_alloc _ _ _)).trans (World.grownBy_alloc _ _ _), by simp⟩
  have := (IMap.made (w.alloc (.map #[] 0))).alloc o
  have e : (w.alloc (.map #[] 0)).heap.size = w.heap.size + 1 := by simp
  rw [e] at this
  exact this

theorem noClaims_put (k : Int) (v : Value) : NoClaims (putM (fun _ => none) k (.iface 9 v) 15) := by
  unfold putM
  by_cases h : (15 : Int) = k
  · rw [if_pos h]; exact Or.inr ⟨v, rfl⟩
  · rw [if_neg h]; exact Or.inl rfl

set_option maxHeartbeats 2000000 in
theorem law6 (a : Option Addr) (len cap : Nat) (b off : Nat) (cs : List Cl) (key : Int) (s : ByteArray) (w : World) (hR : Row w a len b off cs) :
    Calls Try.prog 6 #[.slice a len cap, .int .i64 key, .string s] w fun e w' => e = .returned (.bool true) ∧ w.grownBy w' none := by
  go_enter Try.func6, Try.ntmps6
  go_wp2_with fail
  refine (bytes26_any a len cap b off cs key s w hR).mono ?_
  rintro e w1 ⟨⟨x, rfl⟩, hg1⟩
  cases x with
  | false =>
    go_wp2
    go_ret
    exact ⟨rfl, hg1⟩
  | true =>
    go_wp2_with fail
    refine (addClaims_any 0 a len cap b off cs w1 (hR.kept hg1 (by simp))).mono ?_
    rintro e w1 ⟨⟨v1, rfl⟩, rfl⟩
    by_cases h1 : (1048576 : Int) < v1
    · go_wp2
      go_ret
      exact ⟨rfl, hg1⟩
    · go_wp2_with fail
      refine (addText_any v1 s w1).mono ?_
      rintro e w1 ⟨⟨v2, rfl⟩, rfl⟩
      by_cases h2 : (1048576 : Int) < v2
      · go_wp2
        go_ret
        exact ⟨rfl, hg1⟩
      · go_wp2_with fail
        refine (claimModel_any a len cap b off cs key w1 (hR.kept hg1 (by simp))).mono ?_
        rintro e w2 ⟨rfl, hg2⟩
        have hg2' := hg1.trans hg2
        have z2 := hg2'.size
        clear hg1 hg2 h1 h2
        go_wp2_with fail
        refine (newSign1_msg w2).mono ?_
        rintro e w3 ⟨rfl, c3, _, M3, _, hg3, z3⟩
        have hg3' := hg2'.trans hg3
        clear hg2' hg3
        go_wp2_with fail
        refine (buildClaims_any a len cap b off cs w3 (hR.kept hg3' (by simp)) (fun hl => (hR.kept hg3' (by simp)).lt hl)).mono ?_
        rintro e w4 ⟨rfl, m4, hg4, z4⟩
        have hg4' := hg3'.trans hg4
        have M4 := M3.kept hg4 (by simp)
        have c4 := hg4.cell c3 (by simp)
        clear hg3' hg4 M3 c3
        go_wp2_with fail
        refine (putMap_any w4 _ _ w3.heap.size _ 15 c4 M4).mono ?_
        rintro e w5 ⟨rfl, M5, hg5⟩
        have hg5' := hg4'.andThen hg5 (fun j hj => by cases hj; exact Or.inl (by omega))
        have m5 := m4.kept hg5 (by simp; omega)
        have c5 := hg5.cell c4 (by simp)
        have z5 := hg5.size
        clear hg4' M4 c4 hg5 m4
        go_wp2_with fail
        refine (newSign1_msg w5).mono ?_
        rintro e w6 ⟨rfl, d6, e6, P6, U6, hg6, z6⟩
        have hg6' := hg5'.trans hg6
        have m6 := m5.kept hg6 (by simp)
        have M6 := M5.kept hg6 (by simp)
        have c6 := hg6.cell c5 (by simp)
        clear hg5' hg6 m5 M5 c5
        go_wp2_with fail
        refine (putText_any w6 _ _ s _ key d6 P6).mono ?_
        rintro e w7 ⟨rfl, P7, hg7⟩
        have hg7' := hg6'.andThen hg7 (fun j hj => by cases hj; exact Or.inl (by omega))
        have m7 := m6.kept hg7 (by simp; omega)
        have M7 := M6.kept hg7 (by simp; omega)
        have U7 := U6.kept hg7 (by simp)
        have c7 := hg7.cell c6 (by simp; omega)
        have d7 := hg7.cell d6 (by simp)
        have e7 := hg7.cell e6 (by simp)
        have z7 := hg7.size
        clear hg6' hg7 m6 M6 c6 U6 P6 d6 e6
        go_wp2_with fail
        refine (buildClaims_any a len cap b off cs w7 (hR.kept hg7' (by simp)) (fun hl => (hR.kept hg7' (by simp)).lt hl)).mono ?_
        rintro e w8 ⟨rfl, _, hg8, z8⟩
        have hg8' := hg7'.trans hg8
        have m8 := m7.kept hg8 (by simp)
        have M8 := M7.kept hg8 (by simp)
        have U8 := U7.kept hg8 (by simp)
        have P8 := P7.kept hg8 (by simp)
        have c8 := hg8.cell c7 (by simp)
        have d8 := hg8.cell d7 (by simp)
        have e8 := hg8.cell e7 (by simp)
        clear hg7' hg8 m7 M7 c7 U7 P7 d7 e7
        go_wp2_with fail
        refine (putUnprot_any w8 _ _ w7.heap.size _ 15 e8 U8).mono ?_
        rintro e w9 ⟨rfl, _, hg9⟩
        have hg9' := hg8'.andThen hg9 (fun j hj => by cases hj; exact Or.inl (by omega))
        have m9 := m8.kept hg9 (by simp; omega)
        have M9 := M8.kept hg9 (by simp; omega)
        have P9 := P8.kept hg9 (by simp)
        have c9 := hg9.cell c8 (by simp; omega)
        have d9 := hg9.cell d8 (by simp)
        clear hg8' hg9 m8 M8 c8 U8 P8 d8 e8
        have t1 := zzText_of w9 _ key _ _ (textClaim_yes w9 _ _ w3.heap.size _ _ key c9 M9 rfl m9 (cmap_place _ _ _))
        rw [vtext_cmap, vok_cmap] at t1
        have t2 := zzText_of w9 _ key _ _ (textClaim_no w9 _ _ _ key d9 P9 (noClaims_put _ _))
        clear m9 M9 P9 c9 d9
        generalize mtext cs key len = T at t1 ⊢
        generalize mok cs key len = K at t1 ⊢
        go_wp2_with fail
        refine t1.mono ?_
        rintro e w10 ⟨rfl, hw⟩
        subst hw
        go_wp2_with fail
        refine t2.mono ?_
        rintro e w11 ⟨rfl, hw⟩
        subst hw
        clear t1 t2
        go_wp2
        go_ret
        exact ⟨rfl, hg9'⟩

set_option maxHeartbeats 2000000 in
theorem law8 (a : Option Addr) (len cap : Nat) (b off : Nat) (cs : List Cl) (s : ByteArray) (w : World) (hR : Row w a len b off cs) :
    Calls Try.prog 8 #[.slice a len cap, .string s] w fun e w' => e = .returned (.bool true) ∧ w.grownBy w' none := by
  go_enter Try.func8, Try.ntmps8
  go_wp2_with fail
  refine (bytes31_any a len cap b off cs s w hR).mono ?_
  rintro e w1 ⟨⟨x, rfl⟩, hg1⟩
  cases x with
  | false =>
    go_wp2
    go_ret
    exact ⟨rfl, hg1⟩
  | true =>
    go_wp2_with fail
    refine (addClaims_any 0 a len cap b off cs w1 (hR.kept hg1 (by simp))).mono ?_
    rintro e w1 ⟨⟨v1, rfl⟩, rfl⟩
    by_cases h1 : (1048576 : Int) < v1
    · go_wp2
      go_ret
      exact ⟨rfl, hg1⟩
    · go_wp2_with fail
      refine (addText_any v1 s w1).mono ?_
      rintro e w1 ⟨⟨v2, rfl⟩, rfl⟩
      by_cases h2 : (1048576 : Int) < v2
      · go_wp2
        go_ret
        exact ⟨rfl, hg1⟩
      · go_wp2_with fail
        refine (claimModel_any a len cap b off cs 2 w1 (hR.kept hg1 (by simp))).mono ?_
        rintro e w2 ⟨rfl, hg2⟩
        have hg2' := hg1.trans hg2
        have z2 := hg2'.size
        clear hg1 hg2 h1 h2
        go_wp2_with fail
        refine (newSign1_msg w2).mono ?_
        rintro e w3 ⟨rfl, c3, _, M3, _, hg3, z3⟩
        have hg3' := hg2'.trans hg3
        clear hg2' hg3
        go_wp2_with fail
        refine (buildClaims_any a len cap b off cs w3 (hR.kept hg3' (by simp)) (fun hl => (hR.kept hg3' (by simp)).lt hl)).mono ?_
        rintro e w4 ⟨rfl, m4, hg4, z4⟩
        have hg4' := hg3'.trans hg4
        have M4 := M3.kept hg4 (by simp)
        have c4 := hg4.cell c3 (by simp)
        clear hg3' hg4 M3 c3
        go_wp2_with fail
        refine (putMap_any w4 _ _ w3.heap.size _ 15 c4 M4).mono ?_
        rintro e w5 ⟨rfl, M5, hg5⟩
        have hg5' := hg4'.andThen hg5 (fun j hj => by cases hj; exact Or.inl (by omega))
        have m5 := m4.kept hg5 (by simp; omega)
        have c5 := hg5.cell c4 (by simp)
        have z5 := hg5.size
        clear hg4' M4 c4 hg5 m4
        go_wp2_with fail
        refine (newSign1_msg w5).mono ?_
        rintro e w6 ⟨rfl, d6, e6, P6, U6, hg6, z6⟩
        have hg6' := hg5'.trans hg6
        have m6 := m5.kept hg6 (by simp)
        have M6 := M5.kept hg6 (by simp)
        have c6 := hg6.cell c5 (by simp)
        clear hg5' hg6 m5 M5 c5
        go_wp2_with fail
        refine (buildClaims_any a len cap b off cs w6 (hR.kept hg6' (by simp)) (fun hl => (hR.kept hg6' (by simp)).lt hl)).mono ?_
        rintro e w7 ⟨rfl, n7, hg7, z7⟩
        have hg7' := hg6'.trans hg7
        have m7 := m6.kept hg7 (by simp)
        have M7 := M6.kept hg7 (by simp)
        have U7 := U6.kept hg7 (by simp)
        have P7 := P6.kept hg7 (by simp)
        have c7 := hg7.cell c6 (by simp)
        have d7 := hg7.cell d6 (by simp)
        have e7 := hg7.cell e6 (by simp)
        clear hg6' hg7 m6 M6 c6 U6 P6 d6 e6
        go_wp2_with fail
        refine (putMap_any w7 _ _ w6.heap.size _ 15 d7 P7).mono ?_
        rintro e w8 ⟨rfl, P8, hg8⟩
        have hg8' := hg7'.andThen hg8 (fun j hj => by cases hj; exact Or.inl (by omega))
        have m8 := m7.kept hg8 (by simp; omega)
        have M8 := M7.kept hg8 (by simp; omega)
        have n8 := n7.kept hg8 (by simp; omega)
        have U8 := U7.kept hg8 (by simp)
        have c8 := hg8.cell c7 (by simp; omega)
        have d8 := hg8.cell d7 (by simp)
        have e8 := hg8.cell e7 (by simp)
        have z8 := hg8.size
        clear hg7' hg8 m7 M7 c7 U7 P7 d7 e7 n7
        go_wp2_with fail
        refine (putText_any w8 _ _ s _ 2 d8 P8).mono ?_
        rintro e w9 ⟨rfl, P9, hg9⟩
        have hg9' := hg8'.andThen hg9 (fun j hj => by cases hj; exact Or.inl (by omega))
        have m9 := m8.kept hg9 (by simp; omega)
        have M9 := M8.kept hg9 (by simp; omega)
        have n9 := n8.kept hg9 (by simp; omega)
        have U9 := U8.kept hg9 (by simp)
        have c9 := hg9.cell c8 (by simp; omega)
        have d9 := hg9.cell d8 (by simp)
        have e9 := hg9.cell e8 (by simp)
        have z9 := hg9.size
        clear hg8' hg9 m8 M8 c8 U8 P8 d8 e8 n8
        go_wp2_with fail
        refine (newHeader_any w9).mono ?_
        rintro e w10 ⟨rfl, hw⟩
        have N10 : IMap w10 w9.heap.size (fun _ => none) := by subst hw; exact IMap.made w9
        have hg10 : w9.grownBy w10 none := by subst hw; exact World.grownBy_alloc _ _ _
        have hg10' := hg9'.trans hg10
        have m10 := m9.kept hg10 (by simp)
        have M10 := M9.kept hg10 (by simp)
        have n10 := n9.kept hg10 (by simp)
        have U10 := U9.kept hg10 (by simp)
        have P10 := P9.kept hg10 (by simp)
        have c10 := hg10.cell c9 (by simp)
        have d10 := hg10.cell d9 (by simp)
        have e10 := hg10.cell e9 (by simp)
        have z10 := hg10.size
        clear hw hg9' hg10 m9 M9 c9 U9 P9 d9 e9 n9
        go_wp2_with fail
        refine (claimText_any w10 _ _ 2 s N10).mono ?_
        rintro e w11 ⟨rfl, _, hg11⟩
        have hg11' := hg10'.andThen hg11 (fun j hj => by cases hj; exact Or.inl (by omega))
        have m11 := m10.kept hg11 (by simp; omega)
        have M11 := M10.kept hg11 (by simp; omega)
        have n11 := n10.kept hg11 (by simp; omega)
        have U11 := U10.kept hg11 (by simp; omega)
        have P11 := P10.kept hg11 (by simp; omega)
        have c11 := hg11.cell c10 (by simp; omega)
        have d11 := hg11.cell d10 (by simp; omega)
        have e11 := hg11.cell e10 (by simp; omega)
        have z11 := hg11.size
        clear hg10' hg11 m10 M10 c10 U10 P10 d10 e10 n10 N10
        go_wp2_with fail
        refine (putUnprot_any w11 _ _ w9.heap.size _ 15 e11 U11).mono ?_
        rintro e w12 ⟨rfl, _, hg12⟩
        have hg12' := hg11'.andThen hg12 (fun j hj => by cases hj; exact Or.inl (by omega))
        have m12 := m11.kept hg12 (by simp; omega)
        have M12 := M11.kept hg12 (by simp; omega)
        have n12 := n11.kept hg12 (by simp; omega)
        have P12 := P11.kept hg12 (by simp)
        have c12 := hg12.cell c11 (by simp; omega)
        have d12 := hg12.cell d11 (by simp)
        clear hg11' hg12 m11 M11 c11 U11 P11 d11 e11 n11
        have t1 := subject_of w12 _ _ _ (textClaim_yes w12 _ _ w3.heap.size _ _ 2 c12 M12 rfl m12 (cmap_place _ _ _))
        have t2 := subject_of w12 _ _ _ (textClaim_yes w12 _ _ w6.heap.size _ _ 2 d12 P12 rfl n12 (cmap_place _ _ _))
        rw [vtext_cmap, vok_cmap] at t1 t2
        clear m12 M12 P12 c12 d12 n12
        generalize mtext cs 2 len = T at t1 t2 ⊢
        generalize mok cs 2 len = K at t1 t2 ⊢
        go_wp2_with fail
        refine t1.mono ?_
        rintro e w13 ⟨rfl, hw⟩
        subst hw
        go_wp2_with fail
        refine t2.mono ?_
        rintro e w14 ⟨rfl, hw⟩
        subst hw
        clear t1 t2
        go_wp2
        go_ret
        exact ⟨rfl, hg12'⟩

end Go.Proofs.Qxb6613079a
