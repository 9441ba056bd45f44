/-
  (*link).miss: THE WALK.
-/
import Derived.Test.Qxb6613544aMissData
namespace Go.Proofs.Qxb6613544a
open Go.RowKit

set_option maxHeartbeats 8000000 in
set_option maxRecDepth 10000 in
theorem miss_full (B F g cap : Nat) (l : Lk) (b0 : Bc) (bs : List Bc) (hbs : l.missed = b0 :: bs) (hbl : bs.length = 5) (vp : Value) (s : Bc) (w : World) (hl : EntAt w B F l (.slice (some ⟨g, 0, none⟩) 6 cap) vp) :
    Calls Try.prog 40 #[.pointer (some ⟨F, 0, none⟩), .agg #[.int .u64 s.num, .int .u64 s.tick, .bool s.acked]] w fun e w' => Missed w B F l (.slice (some ⟨g, 0, none⟩) 6 cap) vp e w' := by
  obtain ⟨i79, hi79, hz79, hs79, hb79⟩ := info_parts Try.info79
  have HI : Hid (Try.prog.info? 79 = some i79 ∧ i79.zero = some (.agg #[.int .u64 0, .int .u64 0, .bool false]) ∧ i79.size = 3 ∧ i79.bytes = 24) := ⟨hi79, hz79, hs79, hb79⟩
  clear hi79 hz79 hs79 hb79
  have HL : Hid (EntAt w B F l (.slice (some ⟨g, 0, none⟩) 6 cap) vp) := hl
  have W1 : Only (fun _ => False) w (w.alloc (.cells #[.int .u64 s.num, .int .u64 s.tick, .bool s.acked] 79)) := (Only.refl _ _).alloc _
  have hE1 := hl.kept W1 (fun _ _ hf => hf)
  have x21 := hE1.cell 21 _ rfl
  have xf := hE1.frozen 21
  have hm := hE1.mrow
  rw [hbs, List.length_cons, hbl] at hm
  have y0 : (w.alloc (.cells #[.int .u64 s.num, .int .u64 s.tick, .bool s.acked] 79)).cell? ⟨w.heap.size, 0, none⟩ = some (.int .u64 s.num) := by simp [go_sem]
  have y1 : (w.alloc (.cells #[.int .u64 s.num, .int .u64 s.tick, .bool s.acked] 79)).cell? ⟨w.heap.size, 1, none⟩ = some (.int .u64 s.tick) := by simp [go_sem]
  have y2 : (w.alloc (.cells #[.int .u64 s.num, .int .u64 s.tick, .bool s.acked] 79)).cell? ⟨w.heap.size, 2, none⟩ = some (.bool s.acked) := by simp [go_sem]
  have HD : Hid (∀ wx : World, wx.ownsRow B 79 3 (.slice (some ⟨g, 0, none⟩) 6 cap) 6 (brow (b0 :: bs)) → Calls Try.prog 41 #[.slice (some ⟨g, 0, none⟩) 6 cap, .int .i64 0, .int .i64 1] wx fun e w' => e = .returned (.slice (some ⟨g, 0, none⟩) 5 cap) ∧ w'.ownsRow B 79 3 (.slice (some ⟨g, 0, none⟩) 5 cap) 5 (brow bs) ∧ Only (fun k => k = g) wx w') := by
    intro wx hx
    have h := delete_any B g cap b0 bs wx (by rw [hbl]; exact hx)
    rw [hbl] at h
    exact h
  have hgF : g ≠ F := fun e => hl.am (by rw [e]; rfl)
  have hFs : F < w.heap.size := hl.hi
  have hgs : g < w.heap.size := (hl.mrow.lt g rfl).2
  clear hl
  go_enter Try.func40, Try.ntmps40
  go_upto_region 2 with fail
  obtain ⟨W, hW⟩ : ∃ W, W = w.alloc (.cells #[.int .u64 s.num, .int .u64 s.tick, .bool s.acked] 79) := ⟨_, rfl⟩
  have hbx : w.heap.size < W.heap.size := by rw [hW]; simp
  rw [← hW] at W1 hE1 x21 xf y0 y1 y2 hm ⊢
  have hO1 : W.drew.ownsRow B 79 3 (.slice (some ⟨g, 0, none⟩) 6 cap) 6 (brow (b0 :: bs)) := hm
  have hO2 : (W.alloc (.cells (bcells s).toArray 79)).drew.ownsRow B 79 3 (.slice (some ⟨g, 0, none⟩) 6 cap) 6 (brow (b0 :: bs)) := hm.alloc _
  have hcN : ∀ j u, (bcells s)[j]? = some u → (W.alloc (.cells (bcells s).toArray 79)).drew.cell? ((⟨W.heap.size, 0, none⟩ : Addr).add j) = some u := cells_new W (bcells s) 79
  have hone : ∀ u ∈ bcells s, u.oneCell' = true := by have := brow_one [s]; simpa [brow] using this
  have hWA : Only (fun k => k = g) W (W.alloc (.cells (bcells s).toArray 79)).drew := ((Only.refl _ W).alloc _).drew
  have k21 : (W.alloc (.cells (bcells s).toArray 79)).cell? ⟨F, 21, none⟩ = some (.slice (some ⟨g, 0, none⟩) 6 cap) := (hWA.cell (p := ⟨F, 21, none⟩) hE1.hi (fun e => hgF e.symm)).trans x21
  have hFacts : ∀ w2, Only (fun k => k = g) W w2 → (w2.cell? ⟨w.heap.size, 0, none⟩ = some (.int .u64 s.num) ∧ w2.cell? ⟨w.heap.size, 1, none⟩ = some (.int .u64 s.tick) ∧ w2.cell? ⟨w.heap.size, 2, none⟩ = some (.bool s.acked)) ∧ w2.cell? ⟨F, 21, none⟩ = some (.slice (some ⟨g, 0, none⟩) 6 cap) ∧ w2.frozen? ⟨F, 21, none⟩ = false ∧ B ≤ w2.heap.size ∧ F < w2.heap.size ∧ w.heap.size < w2.heap.size ∧ Only (fun k => k = g) w w2 := by
    intro w2 h2
    have hbx' : ¬ w.heap.size = g := by omega
    exact ⟨⟨(h2.cell (p := ⟨w.heap.size, 0, none⟩) hbx hbx').trans y0, (h2.cell (p := ⟨w.heap.size, 1, none⟩) hbx hbx').trans y1, (h2.cell (p := ⟨w.heap.size, 2, none⟩) hbx hbx').trans y2⟩, (h2.cell (p := ⟨F, 21, none⟩) hE1.hi (fun e => hgF e.symm)).trans x21, (h2.frozen (p := ⟨F, 21, none⟩) hE1.hi (fun e => hgF e.symm)).trans xf, by have := hE1.lo; have := hE1.hi; have := h2.size; omega, by have := hE1.hi; have := h2.size; omega, by have := h2.size; omega, (W1.mono (fun _ hf => hf.elim)).trans h2 (fun x hx => .inl hx)⟩
  have hA : ∀ w2, Only (fun k => k = g) (W.alloc (.cells (bcells s).toArray 79)).drew w2 → Only (fun k => k = g) W w2 ∧ ∀ j u, (bcells s)[j]? = some u → w2.cell? ((⟨W.heap.size, 0, none⟩ : Addr).add j) = some u := by
    intro w2 h2
    refine ⟨hWA.trans h2 (fun x hx => .inl hx), fun j u hu => ?_⟩
    have e : (⟨W.heap.size, 0, none⟩ : Addr).add j = ⟨W.heap.size, 0 + j, none⟩ := by unfold Addr.add; split <;> simp_all
    have hc := hcN j u hu
    rw [e] at hc ⊢
    exact (h2.cell (p := ⟨W.heap.size, 0 + j, none⟩) (by simp) (by simp; omega)).trans hc
  simp only [bcells] at hO2 hcN hone k21 hA
  have HO : Hid (_ ∧ _ ∧ _) := ⟨hO1, hO2, hone⟩
  have HFc : Hid (∀ w2, Only (fun k => k = g) W w2 → (w2.cell? ⟨w.heap.size, 0, none⟩ = some (.int .u64 s.num) ∧ w2.cell? ⟨w.heap.size, 1, none⟩ = some (.int .u64 s.tick) ∧ w2.cell? ⟨w.heap.size, 2, none⟩ = some (.bool s.acked)) ∧ w2.cell? ⟨F, 21, none⟩ = some (.slice (some ⟨g, 0, none⟩) 6 cap) ∧ w2.frozen? ⟨F, 21, none⟩ = false ∧ B ≤ w2.heap.size ∧ F < w2.heap.size ∧ w.heap.size < w2.heap.size ∧ Only (fun k => k = g) w w2) := hFacts
  have HA : Hid _ := hA
  clear hO1 hO2 hcN hone hFacts hA hWA hm hE1 W1 hW xf
  have hbxg : ¬ w.heap.size = g := by omega
  have hFn1 : ¬ F = w.heap.size := by omega
  have hFn2 : ¬ w.heap.size = F := by omega
  go_region_law (first | (refine step_call3 rfl 41 (.tmp 15) (.const (.int .i64 0)) (.const (.int .i64 1)) #[44, 3, 3] rfl (.slice (some ⟨g, 0, none⟩) 6 cap) (.int .i64 0) (.int .i64 1) rfl rfl rfl enters41 _ (HD.out _ HO.out.1) ?_; rintro e w2 ⟨rfl, hown2, hon2⟩; refine ⟨_, rfl, ?_⟩; obtain ⟨⟨s0, s1, s2⟩, f21, ff, fB, fF, fX, fO⟩ := HFc.out w2 hon2.undrew) | (refine step_call3 rfl 41 (.tmp 15) (.const (.int .i64 0)) (.const (.int .i64 1)) #[44, 3, 3] rfl (.slice (some ⟨g, 0, none⟩) 6 cap) (.int .i64 0) (.int .i64 1) rfl rfl rfl enters41 _ (HD.out _ HO.out.2.1) ?_; rintro e w2 ⟨rfl, hown2, hon2⟩; refine ⟨_, rfl, ?_⟩; obtain ⟨hon3, hcA⟩ := HA.out w2 hon2; obtain ⟨⟨s0, s1, s2⟩, f21, ff, fB, fF, fX, fO⟩ := HFc.out w2 hon3) | (refine step_append_own rfl (.tmp 16) (.tmp 18) 44 rfl B 79 i79 (.agg #[.int .u64 0, .int .u64 0, .bool false]) 3 24 Try.underlying44 HI.out.1 HI.out.2.1 HI.out.2.2.1 HI.out.2.2.2 rfl (by decide) (.slice (some ⟨g, 0, none⟩) 5 cap) 5 (brow bs) rfl hown2 ⟨W.heap.size, 0, none⟩ 1 1 [.int .u64 s.num, .int .u64 s.tick, .bool s.acked] rfl rfl hcA HO.out.2.2 (by unfold maxLen; omega) (by omega) fB ?_; intro v4 w4 hown4 hg4 hl4; obtain ⟨g4, c4, hv4, hbg4, hlt4, hnc4, hcm4⟩ := own_some hown4; subst hv4; have z0 := hg4.cell f21 (fun e => hgF (Option.some.inj e).symm); have zf := (World.frozen?_of_block (a := ⟨F, 21, none⟩) (hg4.block F fF (fun e => hgF (Option.some.inj e).symm))).trans ff; have z1 := hg4.cell s0 (fun e => hbxg (Option.some.inj e)); have z2 := hg4.cell s1 (fun e => hbxg (Option.some.inj e)); have z3 := hg4.cell s2 (fun e => hbxg (Option.some.inj e))) | (refine step_append_own rfl (.tmp 16) (.tmp 18) 44 rfl B 79 i79 (.agg #[.int .u64 0, .int .u64 0, .bool false]) 3 24 Try.underlying44 HI.out.1 HI.out.2.1 HI.out.2.2.1 HI.out.2.2.2 rfl (by decide) (.slice (some ⟨g, 0, none⟩) 5 cap) 5 (brow bs) rfl (hown2.alloc _) ⟨w2.heap.size, 0, none⟩ 1 1 [.int .u64 s.num, .int .u64 s.tick, .bool s.acked] rfl rfl (cells_new w2 _ 79) HO.out.2.2 (by unfold maxLen; omega) (by omega) (le_alloc fB _) ?_; intro v4 w4 hown4 hg4 hl4; obtain ⟨g4, c4, hv4, hbg4, hlt4, hnc4, hcm4⟩ := own_some hown4; subst hv4; have z0 := hg4.cell (((Only.refl (fun _ => False) w2).alloc _).cell (p := ⟨F, 21, none⟩) fF (fun h => h) |>.trans f21) (fun e => hgF (Option.some.inj e).symm); have zf := (World.frozen?_of_block (a := ⟨F, 21, none⟩) (hg4.block F (lt_alloc fF _) (fun e => hgF (Option.some.inj e).symm))).trans (((Only.refl (fun _ => False) w2).alloc _).frozen (p := ⟨F, 21, none⟩) fF (fun h => h) |>.trans ff); have z1 := hg4.cell (((Only.refl (fun _ => False) w2).alloc _).cell (p := ⟨w.heap.size, 0, none⟩) fX (fun h => h) |>.trans s0) (fun e => hbxg (Option.some.inj e)); have z2 := hg4.cell (((Only.refl (fun _ => False) w2).alloc _).cell (p := ⟨w.heap.size, 1, none⟩) fX (fun h => h) |>.trans s1) (fun e => hbxg (Option.some.inj e)); have z3 := hg4.cell (((Only.refl (fun _ => False) w2).alloc _).cell (p := ⟨w.heap.size, 2, none⟩) fX (fun h => h) |>.trans s2) (fun e => hbxg (Option.some.inj e))))
  all_goals
    first
    | (obtain ⟨q1, q2, q3⟩ := HL.out.setMissed (W := w2) (fO.mono (fun x hx => by rw [hx]; rfl)) (m' := bs ++ [s]) (by simpa [brow_append, brow, bcells, hbl] using hown4) hg4 hl4
       have v21 := q1.cell 21 _ rfl
       go_wp2
       go_ret
       exact ⟨_, bs ++ [s], _, rfl, by simp; omega, q1, q2, q3⟩)
    | (obtain ⟨q1, q2, q3⟩ := HL.out.setMissed (W := w2.alloc (.cells #[.int .u64 s.num, .int .u64 s.tick, .bool s.acked] 79)) ((fO.alloc _).mono (fun x hx => by rw [hx]; rfl)) (m' := bs ++ [s]) (by simpa [brow_append, brow, bcells, hbl] using hown4) hg4 hl4
       have v21 := q1.cell 21 _ rfl
       go_wp2
       go_ret
       exact ⟨_, bs ++ [s], _, rfl, by simp; omega, q1, q2, q3⟩)

set_option maxHeartbeats 8000000 in
set_option maxRecDepth 10000 in
theorem miss_any (B F : Nat) (l : Lk) (vm vp : Value) (s : Bc) (w : World) (hl : EntAt w B F l vm vp) (h6 : l.missed.length ≤ 6) :
    Calls Try.prog 40 #[.pointer (some ⟨F, 0, none⟩), .agg #[.int .u64 s.num, .int .u64 s.tick, .bool s.acked]] w fun e w' => Missed w B F l vm vp e w' := by
  obtain ⟨i79, hi79, hz79, hs79, hb79⟩ := info_parts Try.info79
  have HI : Hid (Try.prog.info? 79 = some i79 ∧ i79.zero = some (.agg #[.int .u64 0, .int .u64 0, .bool false]) ∧ i79.size = 3 ∧ i79.bytes = 24) := ⟨hi79, hz79, hs79, hb79⟩
  clear hi79 hz79 hs79 hb79
  have HL : Hid (EntAt w B F l vm vp) := hl
  obtain ⟨am, nm, cm, hvm⟩ : ∃ am nm cm, vm = .slice am nm cm ∧ nm = l.missed.length := by
    rcases hl.mrow.2 with ⟨rfl, h0⟩ | ⟨g, cap, cur, rfl, _⟩
    · exact ⟨none, 0, 0, rfl, h0.symm⟩
    · exact ⟨_, _, _, rfl, rfl⟩
  obtain ⟨rfl, rfl⟩ := hvm
  have W1 : Only (fun _ => False) w (w.alloc (.cells #[.int .u64 s.num, .int .u64 s.tick, .bool s.acked] 79)) := (Only.refl _ _).alloc _
  have hE1 := hl.kept W1 (fun _ _ hf => hf)
  have x21 := hE1.cell 21 _ rfl
  have xf := hE1.frozen 21
  clear hl
  have y0 : (w.alloc (.cells #[.int .u64 s.num, .int .u64 s.tick, .bool s.acked] 79)).cell? ⟨w.heap.size, 0, none⟩ = some (.int .u64 s.num) := by simp [go_sem]
  have y1 : (w.alloc (.cells #[.int .u64 s.num, .int .u64 s.tick, .bool s.acked] 79)).cell? ⟨w.heap.size, 1, none⟩ = some (.int .u64 s.tick) := by simp [go_sem]
  have y2 : (w.alloc (.cells #[.int .u64 s.num, .int .u64 s.tick, .bool s.acked] 79)).cell? ⟨w.heap.size, 2, none⟩ = some (.bool s.acked) := by simp [go_sem]
  by_cases hlen : l.missed.length = 6
  · obtain ⟨b0, bs, hbs⟩ : ∃ b0 bs, l.missed = b0 :: bs := by
      cases hm : l.missed with
      | nil => rw [hm] at hlen; simp at hlen
      | cons b0 bs => exact ⟨b0, bs, rfl⟩
    have hbl : bs.length = 5 := by rw [hbs] at hlen; simpa using hlen
    have hm0 := HL.out.mrow
    rw [hlen] at hm0
    obtain ⟨g, cap, hv, _⟩ := own_some hm0
    have hl := HL.out
    rw [hlen] at hl
    rw [hv] at hl
    rw [hlen, hv]
    exact miss_full B F g cap l b0 bs hbs hbl vp s w hl
  · have hb : ((l.missed.length : Int) == 6) = false := by simp; omega
    go_enter Try.func40, Try.ntmps40
    go_upto_region 4 with fail
    obtain ⟨W, hW⟩ : ∃ W, W = w.alloc (.cells #[.int .u64 s.num, .int .u64 s.tick, .bool s.acked] 79) := ⟨_, rfl⟩
    rw [← hW] at W1 hE1 x21 xf y0 y1 y2 ⊢
    have hO : (W.alloc (.cells (bcells s).toArray 79)).drew.ownsRow B 79 3 (.slice am l.missed.length cm) l.missed.length (brow l.missed) := hE1.mrow.alloc _
    have hcN : ∀ j u, (bcells s)[j]? = some u → (W.alloc (.cells (bcells s).toArray 79)).drew.cell? ((⟨W.heap.size, 0, none⟩ : Addr).add j) = some u := cells_new W (bcells s) 79
    have hbB : B ≤ (W.alloc (.cells (bcells s).toArray 79)).drew.heap.size := by have := hE1.lo; have := hE1.hi; simp; omega
    have HW2 : Hid (Only (fun _ => False) w (W.alloc (.cells (bcells s).toArray 79)).drew) := (W1.alloc _).drew
    have hx21 : (W.alloc (.cells (bcells s).toArray 79)).drew.cell? ⟨F, 21, none⟩ = some (.slice am l.missed.length cm) := ((Only.refl (fun _ => False) W).alloc (.cells (bcells s).toArray 79)).drew.cell (p := ⟨F, 21, none⟩) hE1.hi (fun h => h) |>.trans x21
    have hxf : (W.alloc (.cells (bcells s).toArray 79)).drew.frozen? ⟨F, 21, none⟩ = false := ((Only.refl (fun _ => False) W).alloc (.cells (bcells s).toArray 79)).drew.frozen (p := ⟨F, 21, none⟩) hE1.hi (fun h => h) |>.trans xf
    have hFlt : F < (W.alloc (.cells (bcells s).toArray 79)).drew.heap.size := by have := hE1.hi; simp; omega
    have hone : ∀ u ∈ bcells s, u.oneCell' = true := by have := brow_one [s]; simpa [brow] using this
    simp only [bcells] at hO hcN hbB HW2 hx21 hxf hFlt hone
    have HH : Hid (_ ∧ _ ∧ _ ∧ _ ∧ _ ∧ _ ∧ _ ∧ _) := ⟨hO, hcN, hbB, hx21, hxf, hFlt, hone, hE1.am⟩
    have k21 : (W.alloc (.cells #[.int .u64 s.num, .int .u64 s.tick, .bool s.acked] 79)).cell? ⟨F, 21, none⟩ = some (.slice am l.missed.length cm) := hx21
    have hm6 : l.missed.length < 6 := by omega
    clear hO hcN hbB hx21 hxf hFlt hone hb hW W1 hE1
    go_region_law (first | (refine step_append_own rfl (.tmp 26) (.tmp 28) 44 rfl B 79 i79 (.agg #[.int .u64 0, .int .u64 0, .bool false]) 3 24 Try.underlying44 HI.out.1 HI.out.2.1 HI.out.2.2.1 HI.out.2.2.2 rfl (by decide) (.slice am l.missed.length cm) l.missed.length (brow l.missed) rfl HH.out.1 ⟨W.heap.size, 0, none⟩ 1 1 _ rfl rfl HH.out.2.1 HH.out.2.2.2.2.2.2.1 (by unfold maxLen; omega) (by omega) HH.out.2.2.1 ?_; intro v1 w1 hown1 hg1 hl1; obtain ⟨g1, c1, hv1, hbg1, hlt1, hnc1, hcm1⟩ := own_some hown1; subst hv1; have z0 := hg1.cell HH.out.2.2.2.1 (fun e => HH.out.2.2.2.2.2.2.2 e.symm); have zf := (World.frozen?_of_block (a := ⟨F, 21, none⟩) (hg1.block F HH.out.2.2.2.2.2.1 (fun e => HH.out.2.2.2.2.2.2.2 e.symm))).trans HH.out.2.2.2.2.1))
    all_goals
      obtain ⟨q1, q2, q3⟩ := HL.out.setMissed (HW2.out.mono (fun _ hf => hf.elim)) (m' := l.missed ++ [s]) (by simpa [brow_append, brow, bcells] using hown1) hg1 hl1
      have v21 := q1.cell 21 _ rfl
      go_wp2
      go_ret
      exact ⟨_, l.missed ++ [s], _, rfl, by simp; omega, q1, q2, q3⟩

end Go.Proofs.Qxb6613544a
