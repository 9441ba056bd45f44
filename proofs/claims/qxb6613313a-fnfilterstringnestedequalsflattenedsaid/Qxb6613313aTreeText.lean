/-
  (*Filter).String OF A FILTER WITH TWO CHILDREN.
-/
import Derived.Test.Qxb6613313aTextsT
import Derived.Test.Qxb6613313aTreeWalk
import Derived.Test.Qxb6613313aNestLaw
namespace Go.Proofs.Qxb6613313a
open Go.RowKit

theorem tree_of {w w2 : World} {base : Nat} {va vo vv vx : Value} {A : List Value} {L : List Ex} {mb : Nat} {p q : ByteArray} {F1 F2 : Nat} (hP : Parts w base va vo vv A L) (hR : TRel w A L vx mb p q F1 F2 2 w2) : TreeAt w2.heap.size w2 w.heap.size L mb (D2 p q F1 F2) := by
  obtain ⟨x0, x1, hown, hBel, hz, _, _, hM⟩ := hR
  have hmb : mb < w2.heap.size := by
    obtain ⟨es, ck, hb, _⟩ := hM
    exact (Array.getElem?_eq_some_iff.1 hb).1
  obtain ⟨ax, cx, gx, rfl, h1, h2, h3, h4⟩ := own_cells14 hown
  refine ⟨hz, hmb, ax, cx, gx, x0, x1, h1, h2, h3, fun k hk => ?_, hM⟩
  have hlen := hP.len
  have hE := (hP.each k (A.getD k (.slice none 0 0)) (L.getD k Ex.zero) (by simp [List.getD, hlen, hk]) (by simp [List.getD, hk])).1
  obtain ⟨a, cap, b, o, hv, hS⟩ := srow_of hE
  refine ⟨a, _, cap, b, o, (hS.kept hBel).mono (by omega), fun j u hu => h4 (k * 14 + j) u ?_⟩
  have hj : j < 14 := by
    have := (List.getElem?_eq_some_iff.1 hu).1
    simpa [xcells] using this
  rw [flat_get A L L.length k j hk hj, hv]
  exact hu

theorem TreeAt.kept {H : Nat} {w w' : World} {F : Nat} {L : List Ex} {mb : Nat} {D : DataW Unit} (h : TreeAt H w F L mb D) (hb : Below H w w') : TreeAt H w' F L mb D := by
  obtain ⟨hF, hm, ax, cx, gx, h1, h2, h3, h4, h5, h6, h7⟩ := h
  refine ⟨hF, hm, ax, cx, gx, (hb.cell (p := ⟨F, 0, none⟩) hF).trans h1, (hb.cell (p := ⟨F, 1, none⟩) hF).trans h2, h3, h4, h5, fun k hk => (h6 k hk).kept (h5 (by omega)).2 hb, ?_⟩
  obtain ⟨es, ck, hbl, r⟩ := h7
  exact ⟨es, ck, (hb.block mb hm).trans hbl, r⟩

set_option maxHeartbeats 400000 in
theorem string_leafW (H F : Nat) (L : List Ex) (w : World) (hL : LeafAt H w F L) (hH : H ≤ w.heap.size) (hN : L.length ≤ 1048576) (hS : esizes L ≤ 70368744177664) (hA : ∀ i, i < L.length → esize (L.getD i Ex.zero) ≤ 4194304) :
    Calls Try.prog 23 #[.pointer (some ⟨F, 0, none⟩)] w fun e w' => e = .returned (.string (strOf L)) ∧ Below w.heap.size w w' := by
  have hb := lens_map_txt ⟨#[]⟩ L
  have hb2 : lens (L.map (txtP ⟨#[]⟩)) ≤ 70368744177664 := by
    have e : ((⟨#[]⟩ : ByteArray).size : Int) = 0 := rfl
    rw [e, Int.mul_zero] at hb
    omega
  clear hb
  go_enter Try.func23, Try.ntmps23
  go_wp2_with fail
  refine (texts_leaf H F L ⟨#[]⟩ w hL hH (by omega) (by decide) hA).mono ?_
  rintro e w1 ⟨v, rfl, hown, hB1, _⟩
  obtain ⟨a, cap, b, o, rfl, hR⟩ := srow_any (by simp) hown
  go_wp2_with fail
  refine (join_any _ a L.length cap b o _ ⟨#[44]⟩ w1 hR (Nat.le_refl _) rfl (by omega)).mono ?_
  rintro e w2 ⟨rfl, hB2⟩
  go_wp2
  go_ret
  exact ⟨rfl, hB1.trans (hB2.mono hB1.size)⟩

set_option maxHeartbeats 400000 in
theorem string_tree (H F : Nat) (L : List Ex) (mb G1 G2 : Nat) (n1 n2 : ByteArray) (L1 L2 : List Ex) (D : DataW Unit) (w : World) (hL : TreeAt H w F L mb D) (hH : H ≤ w.heap.size) (hN : L.length ≤ 1048576) (hA : ∀ i, i < L.length → esize (L.getD i Ex.zero) ≤ 4194304)
    (hD : Maps.size D = 2) (hlook : ∀ wx : World, wx.ownsMap Try.prog 9 Rp mb 2 D → (Instr.lookup 68 (.map (some mb)) (.string n1) false).run Try.prog wx = .ok (.pointer (some ⟨G1, 0, none⟩)) wx ∧ (Instr.lookup 68 (.map (some mb)) (.string n2) false).run Try.prog wx = .ok (.pointer (some ⟨G2, 0, none⟩)) wx)
    (hsort : ∀ ss : List (List UInt8), ss.Perm (Go.strKeys D) → ss.length = 2 ∧ ss.mergeSort (fun x y => decide (x ≤ y)) = [n1.data.toList, n2.data.toList])
    (hL1 : LeafAt H w G1 L1) (hL2 : LeafAt H w G2 L2) (hN1 : L1.length ≤ 1048576) (hN2 : L2.length ≤ 1048576) (hn1 : n1.size ≤ 1048576) (hn2 : n2.size ≤ 1048576)
    (hA1 : ∀ i, i < L1.length → esize (L1.getD i Ex.zero) ≤ 4194304) (hA2 : ∀ i, i < L2.length → esize (L2.getD i Ex.zero) ≤ 4194304)
    (h1 : AllNamed L1) (h2 : AllNamed L2) (hS : esizes (flatL L n1 L1 n2 L2) ≤ 70368744177664) :
    Calls Try.prog 23 #[.pointer (some ⟨F, 0, none⟩)] w fun e w' => e = .returned (.string (strOf (flatL L n1 L1 n2 L2))) ∧ Below w.heap.size w w' := by
  have hb := lens_map_txt ⟨#[]⟩ (flatL L n1 L1 n2 L2)
  have hb2 : lens ((flatL L n1 L1 n2 L2).map (txtP ⟨#[]⟩)) ≤ 70368744177664 := by
    have e : ((⟨#[]⟩ : ByteArray).size : Int) = 0 := rfl
    rw [e, Int.mul_zero] at hb
    omega
  clear hb
  have ht : L.map (txtP ⟨#[]⟩) ++ L1.map (txtP ((⟨#[]⟩ : ByteArray) ++ n1 ++ ⟨#[46]⟩)) ++ L2.map (txtP ((⟨#[]⟩ : ByteArray) ++ n2 ++ ⟨#[46]⟩)) = (flatL L n1 L1 n2 L2).map (txtP ⟨#[]⟩) := by
    rw [map_pre n1 L1 h1, map_pre n2 L2 h2]
    unfold flatL
    rw [List.map_append, List.map_append]
  have hC := texts_tree H F L ⟨#[]⟩ mb G1 G2 n1 n2 L1 L2 D w hL hH (by omega) (by decide) hA hD hlook hsort hL1 hL2 hN1 hN2 hn1 hn2 hA1 hA2
  rw [ht] at hC
  have hlen : ((flatL L n1 L1 n2 L2).map (txtP ⟨#[]⟩)).length = L.length + L1.length + L2.length := by unfold flatL; simp; omega
  have HC : Hid _ := hC
  have HB : Hid (lens ((flatL L n1 L1 n2 L2).map (txtP ⟨#[]⟩)) ≤ 70368744177664) := hb2
  have HLN : Hid (((flatL L n1 L1 n2 L2).map (txtP ⟨#[]⟩)).length = L.length + L1.length + L2.length) := hlen
  clear hC ht hlook hsort hL hL1 hL2 hA hA1 hA2 h1 h2 hS hb2 hlen
  show Calls Try.prog 23 #[.pointer (some ⟨F, 0, none⟩)] w fun e w' => e = .returned (.string (joinB ((flatL L n1 L1 n2 L2).map (txtP ⟨#[]⟩)) ⟨#[44]⟩)) ∧ Below w.heap.size w w'
  generalize (flatL L n1 L1 n2 L2).map (txtP ⟨#[]⟩) = TT at *
  go_enter Try.func23, Try.ntmps23
  go_wp2_with fail
  refine Calls.mono HC.out ?_
  rintro e w1 ⟨v, rfl, hown, hB1⟩
  obtain ⟨a, cap, b, o, rfl, hR⟩ := srow_any HLN.out hown
  go_wp2_with fail
  refine (join_any _ a (L.length + L1.length + L2.length) cap b o _ ⟨#[44]⟩ w1 hR (Nat.le_refl _) rfl (by have := HB.out; omega)).mono ?_
  rintro e w2 ⟨rfl, hB2⟩
  go_wp2
  go_ret
  exact ⟨rfl, hB1.trans (hB2.mono hB1.size)⟩

end Go.Proofs.Qxb6613313a
