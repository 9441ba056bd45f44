/-
  zzLeaf, (*Filter).String OF A LEAF.
-/
import Derived.Test.Qxb6613313aFiltWalk
import Derived.Test.Qxb6613313aTexts
namespace Go.Proofs.Qxb6613313a
open Go.RowKit

theorem own_cells14 {w : World} {base : Nat} {v : Value} {n : Nat} {xs : List Value} (h : w.ownsRow base 80 14 v n xs) :
    ∃ a cap g, v = .slice a n cap ∧ n ≤ cap ∧ cap ≤ maxLen ∧ (0 < n → a = some ⟨g, 0, none⟩ ∧ g < w.heap.size) ∧ ∀ j u, xs[j]? = some u → w.cell? ⟨g, j, none⟩ = some u := by
  have h0 := h
  rcases h.2 with ⟨rfl, rfl⟩ | ⟨g, cap, cur, rfl, hb, hg, h1, h2, _⟩
  · refine ⟨none, 0, 0, rfl, Nat.le_refl _, Nat.zero_le _, fun h => absurd h (by omega), fun j u hu => ?_⟩
    have := h0.1
    have hx : xs = [] := List.eq_nil_of_length_eq_zero (by omega)
    rw [hx] at hu
    simp at hu
  · refine ⟨_, cap, g, rfl, h1, h2, fun _ => ⟨rfl, (Array.getElem?_eq_some_iff.1 hg).1⟩, fun j u hu => ?_⟩
    have := h0.cells (g := g) rfl j u hu
    have hadd : (⟨g, 0, none⟩ : Addr).add j = ⟨g, j, none⟩ := by unfold Addr.add; split <;> simp_all
    rwa [hadd] at this

/-- A row of strings of the call's own, read as one that came in. -/
theorem srow_of {w : World} {base : Nat} {v : Value} {xs : List ByteArray} (h : w.ownsRow base 9 1 v xs.length (strs xs)) : ∃ a cap b o, v = .slice a xs.length cap ∧ SRow w.heap.size w a xs.length cap b o xs := by
  obtain ⟨a, cap, g, rfl, h1, h2, h3, h4⟩ := own_form h
  refine ⟨a, cap, g, 0, rfl, rfl, h1, h2, fun hl => ⟨(h3 hl).1, (h3 hl).2.2⟩, fun j hj => h4 j _ ?_⟩
  simp [strs, List.getD, hj]

theorem leaf_of {w w2 : World} {base : Nat} {va vo vv vx : Value} {A : List Value} {L : List Ex} (hP : Parts w base va vo vv A L) (hR : FiltRel w A L L.length vx w2) : LeafAt w2.heap.size w2 w.heap.size L := by
  obtain ⟨x0, x1, _, hown, hBel, hz⟩ := hR
  obtain ⟨ax, cx, gx, rfl, h1, h2, h3, h4⟩ := own_cells14 hown
  refine ⟨hz, ax, cx, gx, x0, x1, h1, h2, h3, fun k hk => ?_⟩
  have hlen := hP.len
  have hE := (hP.each k (A.getD k (.slice none 0 0)) (L.getD k Ex.zero) (by simp [List.getD, hlen, hk]) (by simp [List.getD, hk])).1
  obtain ⟨a, cap, b, o, hv, hS⟩ := srow_of hE
  refine ⟨a, _, cap, b, o, (hS.kept hBel).mono (by omega), fun j u hu => h4 (k * 14 + j) u ?_⟩
  have hj : j < 14 := by
    have := (List.getElem?_eq_some_iff.1 hu).1
    simpa [xcells] using this
  rw [flat_get A L L.length k j hk hj, hv]
  exact hu

theorem map_id_list (es : List Ex) : ([] ++ es.map id : List Ex) = es := by simp

theorem esize_attr (e : Ex) (h : esize e ≤ 1048576) : e.attr.length ≤ 1048576 := by
  have := lens_nonneg e.attr
  unfold esize at h
  omega

set_option maxHeartbeats 400000 in
theorem leaf_any (B : Nat) (a : Option Addr) (len cap b o : Nat) (es : List Ex) (w : World) (hB : B ≤ w.heap.size) (hE : ERow B w a len cap b o es) (hN : len ≤ 1048576) (hA : ∀ i, i < len → esize (es.getD i Ex.zero) ≤ 1048576) :
    Calls Try.prog 22 #[.slice a len cap] w fun e w' => ∃ F, e = .returned (.pointer (some ⟨F, 0, none⟩)) ∧ LeafAt w'.heap.size w' F es ∧ Below w.heap.size w w' := by
  have hE' := hE.mono hB
  have hl := hE.1
  go_enter Try.func22, Try.ntmps22
  go_wp2_with fail
  refine (parts_any w.heap.size (.slice none 0 0) (.slice none 0 0) (.slice none 0 0) [] [] a len cap b o es ⟨#[]⟩ w (Nat.le_refl _) (Parts.nil _ _) hE' (by simp; omega) (fun i hi => esize_attr _ (hA i hi))).mono ?_
  rintro e w1 ⟨va, vo, vv, A, rfl, hP, hB1⟩
  rw [map_id_list] at hP
  go_wp2_with fail
  refine (newFilter_leaf w.heap.size va vo vv A es w1 hP (by omega)).mono ?_
  rintro e w2 ⟨rfl, vx, hR⟩
  go_wp2
  go_ret
  exact ⟨_, rfl, leaf_of hP hR, hB1.trans (hR.2.2.2.2.1.mono hB1.size)⟩

/-- How long the joined texts are. -/
theorem lens_map_txt (p : ByteArray) : ∀ L : List Ex, lens (L.map (txtP p)) ≤ (L.length : Int) * (p.size : Int) + esizes L
  | [] => by simp [lens, esizes]
  | e :: L => by
    have h1 := lens_map_txt p L
    have h2 := joinB_size e.attr ⟨#[46]⟩ rfl
    have h3 : ((txtP p e).size : Int) = (p.size : Int) + ((joinB e.attr ⟨#[46]⟩).size : Int) + (e.op.size : Int) + (e.val.size : Int) := by
      unfold txtP
      rw [ByteArray.size_append, ByteArray.size_append, ByteArray.size_append]
      simp
    simp only [List.map_cons, lens, esizes, List.length_cons, esize, h3]
    have h4 : ((L.length + 1 : Nat) : Int) * (p.size : Int) = (L.length : Int) * (p.size : Int) + (p.size : Int) := by
      rw [Int.natCast_add, Int.add_mul]
      simp
    rw [h4]
    omega

def strOf (L : List Ex) : ByteArray := joinB (L.map (txtP ⟨#[]⟩)) ⟨#[44]⟩

theorem srow_any {w : World} {base : Nat} {v : Value} {n : Nat} {xs : List ByteArray} (hn : xs.length = n) (h : w.ownsRow base 9 1 v n (strs xs)) : ∃ a cap b o, v = .slice a n cap ∧ SRow w.heap.size w a n cap b o xs := by
  subst hn
  exact srow_of h

set_option maxHeartbeats 400000 in
theorem string_leaf (H F : Nat) (L : List Ex) (w : World) (hL : LeafAt H w F L) (hH : H ≤ w.heap.size) (hN : L.length ≤ 1048576) (hS : esizes L ≤ 4194304) (hA : ∀ i, i < L.length → esize (L.getD i Ex.zero) ≤ 4194304) :
    Calls Try.prog 23 #[.pointer (some ⟨F, 0, none⟩)] w fun e w' => e = .returned (.string (strOf L)) ∧ Below w.heap.size w w' := by
  have hb := lens_map_txt ⟨#[]⟩ L
  have hb2 : lens (L.map (txtP ⟨#[]⟩)) ≤ 4194304 := by
    have e : ((⟨#[]⟩ : ByteArray).size : Int) = 0 := rfl
    rw [e, Int.mul_zero] at hb
    omega
  clear hb
  go_enter Try.func23, Try.ntmps23
  go_wp2_with fail
  refine (texts_leaf H F L ⟨#[]⟩ w hL hH (by omega) (by decide) hA).mono ?_
  rintro e w1 ⟨v, rfl, hown, hB1, _⟩
  obtain ⟨a, cap, b, o, rfl, hR⟩ := srow_any (by simp) hown
  go_wp2_with fail
  refine (join_any _ a L.length cap b o _ ⟨#[44]⟩ w1 hR (Nat.le_refl _) rfl (by omega)).mono ?_
  rintro e w2 ⟨rfl, hB2⟩
  go_wp2
  go_ret
  exact ⟨rfl, hB1.trans (hB2.mono hB1.size)⟩

end Go.Proofs.Qxb6613313a
