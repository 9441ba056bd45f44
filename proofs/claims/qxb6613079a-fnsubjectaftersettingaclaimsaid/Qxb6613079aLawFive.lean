/-
  FnTextClaimAfterSettingAClaim: THE WALK.
-/
import Derived.Test.Qxb6613079aBounds
namespace Go.Proofs.Qxb6613079a
open Go.RowKit

theorem Row.kept {w w' : World} {a : Option Addr} {len b off : Nat} {cs : List Cl} {row : Option Nat} (h : Row w a len b off cs) (hg : w.grownBy w' row) (hne : 0 < len → some b ≠ row) : Row w' a len b off cs := by
  obtain ⟨hl, ha, hc⟩ := h
  refine ⟨hl, ha, fun i hi => ?_⟩
  obtain ⟨c0, c1, c2, c3⟩ := hc i hi
  have hn := hne (by omega)
  exact ⟨hg.cell c0 hn, hg.cell c1 hn, hg.cell c2 hn, hg.cell c3 hn⟩

theorem Row.lt {w : World} {a : Option Addr} {len b off : Nat} {cs : List Cl} (h : Row w a len b off cs) (hl : 0 < len) : b < w.heap.size := by
  obtain ⟨_, _, hc⟩ := h
  obtain ⟨c0, _⟩ := hc 0 hl
  apply Classical.byContradiction
  intro hn
  have : w.heap[b]? = none := by simp; omega
  simp [World.cell?, this] at c0

/-- A claim in a box of its own. -/
def Box (w : World) (n : Nat) (c : Cl) : Prop :=
  w.cell? ⟨n, 0, none⟩ = some (.int .i64 c.key) ∧ w.cell? ⟨n, 1, none⟩ = some (.int .u8 c.kind) ∧ w.cell? ⟨n, 2, none⟩ = some (.string c.text) ∧ w.cell? ⟨n, 3, none⟩ = some (.int .i64 c.num)

theorem Box.made (w : World) (c : Cl) : Box (w.alloc (.cells #[.int .i64 c.key, .int .u8 c.kind, .string c.text, .int .i64 c.num] 36)) w.heap.size c :=
  ⟨by simp [go_sem], by simp [go_sem], by simp [go_sem], by simp [go_sem]⟩

theorem Box.kept {w w' : World} {n : Nat} {c : Cl} {row : Option Nat} (h : Box w n c) (hg : w.grownBy w' row) (hne : some n ≠ row) : Box w' n c :=
  ⟨hg.cell h.1 hne, hg.cell h.2.1 hne, hg.cell h.2.2.1 hne, hg.cell h.2.2.2 hne⟩

set_option maxHeartbeats 2000000 in
theorem law5 (a : Option Addr) (len cap : Nat) (b off : Nat) (cs : List Cl) (key : Int) (c : Cl) (w : World) (hR : Row w a len b off cs) :
    Calls Try.prog 5 #[.slice a len cap, .int .i64 key, c.val] w fun e w' => e = .returned (.bool true) ∧ w.grownBy w' none := by
  have hgA : ∀ o, w.grownBy (w.alloc o) none := fun o => World.grownBy_alloc _ _ _
  unfold Cl.val
  go_enter Try.func5, Try.ntmps5
  go_wp2_with fail
  have hB0 := Box.made w c
  have hs0 : w.heap.size < (w.alloc (.cells #[.int .i64 c.key, .int .u8 c.kind, .string c.text, .int .i64 c.num] 36)).heap.size := by simp
  refine (bytes17_any a len cap b off cs key c _ (hR.kept (hgA _) (by simp))).mono ?_
  rintro e w1 ⟨⟨x, rfl⟩, hg1⟩
  have hg1' := (hgA _).trans hg1
  have hB1 := hB0.kept hg1 (by simp)
  have hs1 := Nat.lt_of_lt_of_le hs0 hg1.size
  clear hB0 hg1 hs0 hgA
  cases x with
  | false =>
    go_wp2
    go_ret
    exact ⟨rfl, hg1'⟩
  | true =>
    go_wp2_with fail
    refine (addClaims_any 0 a len cap b off cs w1 (hR.kept hg1' (by simp))).mono ?_
    rintro e w1 ⟨⟨v1, rfl⟩, rfl⟩
    obtain ⟨b0, b1, b2, b3⟩ := hB1
    by_cases h1 : (1048576 : Int) < v1
    · go_wp2
      go_ret
      exact ⟨rfl, hg1'⟩
    · go_wp2_with fail
      refine (addText_any v1 c.text w1).mono ?_
      rintro e w1 ⟨⟨v2, rfl⟩, rfl⟩
      by_cases h2 : (1048576 : Int) < v2
      · go_wp2
        go_ret
        exact ⟨rfl, hg1'⟩
      · go_wp2_with fail
        refine (claimModel_any a len cap b off cs key w1 (hR.kept hg1' (by simp))).mono ?_
        rintro e w2 ⟨rfl, hg2⟩
        have hg2' := hg1'.trans hg2
        have hs2 := Nat.lt_of_lt_of_le hs1 hg2.size
        have hB2 := Box.kept ⟨b0, b1, b2, b3⟩ hg2 (by simp)
        clear b0 b1 b2 b3 hg1' hg2 hs1 h1 h2
        go_wp2_with fail
        refine (newSign1_any w2).mono ?_
        rintro e w3 ⟨rfl, o, hw3, hc2, hc3⟩
        have hg3 : w2.grownBy w3 none := by
          subst hw3
          exact ((World.grownBy_alloc _ _ _).trans (World.grownBy_alloc _ _ _)).trans (World.grownBy_alloc _ _ _)
        have hz3 : w2.heap.size + 2 < w3.heap.size := by subst hw3; simp
        have hM3 : IMap w3 w2.heap.size (fun _ => none) := by
          subst hw3
          exact ((IMap.made w2).alloc _).alloc _
        have hg3' := hg2'.trans hg3
        have hB3 := hB2.kept hg3 (by simp)
        have hs3 := Nat.lt_of_lt_of_le hs2 hg3.size
        clear hw3 hg2' hB2 hg3
        go_wp2_with fail
        refine (buildClaims_any a len cap b off cs w3 (hR.kept hg3' (by simp)) (fun hl => (hR.kept hg3' (by simp)).lt hl)).mono ?_
        rintro e w4 ⟨rfl, hm4, hg4, hz4⟩
        have hg4' := hg3'.trans hg4
        have hB4 := hB3.kept hg4 (by simp)
        have hM4 := hM3.kept hg4 (by simp)
        have hc4 := hg4.cell hc2 (by simp)
        clear hg3' hB3 hM3 hc2 hc3 hg4
        go_wp2_with fail
        refine (putMap_any w4 _ _ w3.heap.size _ 15 hc4 hM4).mono ?_
        rintro e w5 ⟨rfl, hM5, hg5⟩
        have hg5' := hg4'.andThen hg5 (fun j hj => by cases hj; exact Or.inl (by omega))
        have hB5 := hB4.kept hg5 (by simp; omega)
        have hm5 := hm4.kept hg5 (by simp; omega)
        have hc5 := hg5.cell hc4 (by simp)
        clear hg4' hB4 hM4 hc4 hg5 hm4
        have ht5 := zzText_of w5 _ key _ _ (textClaim_yes w5 _ _ w3.heap.size _ _ key hc5 hM5 rfl hm5 (cmap_place _ _ _))
        rw [vtext_cmap, vok_cmap] at ht5
        go_wp2_with fail
        refine ht5.mono ?_
        clear ht5
        rintro e w5 ⟨rfl, rfl⟩
        obtain ⟨b0, b1, b2, b3⟩ := hB5
        go_wp2_with fail
        refine (putClaim_any w5 _ _ c hm5).mono ?_
        rintro e w6 ⟨rfl, hm6, hg6⟩
        have hB6 := Box.kept ⟨b0, b1, b2, b3⟩ hg6 (by simp; omega)
        have hg6' := hg5'.andThen hg6 (fun j hj => by cases hj; exact Or.inl (by omega))
        have hM6 := hM5.kept hg6 (by simp; omega)
        have hc6 := hg6.cell hc5 (by simp; omega)
        clear b0 b1 b2 b3 hg5' hM5 hc5 hm5 hg6
        have ht6 := zzText_of w6 _ key _ _ (textClaim_yes w6 _ _ w3.heap.size _ _ key hc6 hM6 rfl hm6 (put_place (cmap_place _ _) _ _))
        rw [vtext_put, vok_put, vtext_cmap, vok_cmap] at ht6
        generalize mtext cs key len = T at ht6 ⊢
        generalize mok cs key len = K at ht6 ⊢
        obtain ⟨b0, b1, b2, b3⟩ := hB6
        by_cases hk : c.key = key
        · rw [if_pos hk, if_pos hk] at ht6
          go_wp2_with fail
          refine ht6.mono ?_
          clear ht6
          rintro e w6 ⟨rfl, rfl⟩
          have hkb : (c.key == key) = true := by simpa using hk
          clear hk
          go_wp2_with fail
          refine (claimValue_any c w6).mono ?_
          rintro e w7 ⟨rfl, hg7⟩
          go_wp2
          go_ret
          exact ⟨rfl, hg6'.trans hg7⟩
        · rw [if_neg hk, if_neg hk] at ht6
          go_wp2_with fail
          refine ht6.mono ?_
          clear ht6
          rintro e w6 ⟨rfl, rfl⟩
          have hkb : (c.key == key) = false := by simpa using hk
          clear hk
          go_wp2
          go_ret
          exact ⟨rfl, hg6'⟩

end Go.Proofs.Qxb6613079a
