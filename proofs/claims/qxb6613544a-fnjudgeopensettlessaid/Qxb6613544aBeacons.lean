/-
  buildBeacons, toBeacons: THE WALKS.
-/
import Derived.Test.Qxb6613544aIn
namespace Go.Proofs.Qxb6613544a
open Go.RowKit

theorem BRow.ofOwn {w : World} {base : Nat} {e : TypeId} {v : Value} {bs : List Bc} (h : w.ownsRow base e 3 v bs.length (brow bs)) : ∃ a cap b, v = .slice a bs.length cap ∧ BRow w.heap.size w a bs.length cap b 0 bs := by
  rcases h.2 with ⟨rfl, h0⟩ | ⟨g, cap, cur, rfl, _, hg, h1, h2, _⟩
  · have hb : bs = [] := List.eq_nil_of_length_eq_zero h0
    subst hb
    exact ⟨none, 0, 0, rfl, rfl, Nat.le_refl _, Nat.zero_le _, fun h => absurd h (by simp), fun j u hu => by simp [brow] at hu⟩
  · refine ⟨_, cap, g, rfl, rfl, h1, h2, fun _ => ⟨rfl, (Array.getElem?_eq_some_iff.1 hg).1⟩, fun j u hu => ?_⟩
    have h3 := h.cells (g := g) rfl j u hu
    have e : (⟨g, 0, none⟩ : Addr).add j = ⟨g, 0 + j, none⟩ := by unfold Addr.add; split <;> simp_all
    rw [e] at h3
    exact h3

set_option maxHeartbeats 8000000 in
set_option maxRecDepth 10000 in
theorem buildBeacons_any (B : Nat) (a : Option Addr) (len cap b o : Nat) (bs : List Bc) (w : World) (hR : BRow B w a len cap b o bs) (hB : B ≤ w.heap.size) (hlen : len ≤ 65536) :
    Calls Try.prog 29 #[.slice a len cap] w fun e w' => ∃ v, e = .returned v ∧ w'.ownsRow w.heap.size 79 3 v len (brow bs) ∧ Below w.heap.size w w' := by
  obtain ⟨i79, hi79, hz79, hs79, hb79⟩ := info_parts Try.info79
  have HI : Hid (Try.prog.info? 79 = some i79 ∧ i79.zero = some (.agg #[.int .u64 0, .int .u64 0, .bool false]) ∧ i79.size = 3 ∧ i79.bytes = 24) := ⟨hi79, hz79, hs79, hb79⟩
  have q42 : ∀ (w : World) (a : Option Addr) (n c n' c' : Nat), (binOp .eql 42 (.slice a n c) (.slice none n' c')).run Try.prog w = .ok (.bool a.isNone) w := fun w a n c n' c' => Lib.run_eql_slice_nil w _ _ a n c n' c' Try.underlying42
  have HR : Hid (BRow B w a len cap b o bs) := hR
  have hln := hR.ln
  have hlc := hR.lc
  have hcm := hR.cm
  unfold maxLen at hcm
  cases a with
  | none =>
    have h0 : len = 0 := by
      rcases Nat.eq_zero_or_pos len with h | h
      · exact h
      · exact absurd (hR.at_ h).1 (by simp)
    subst h0
    have hb : bs = [] := List.eq_nil_of_length_eq_zero hln
    subst hb
    go_enter Try.func29, Try.ntmps29
    go_wp2
    go_ret
    exact ⟨_, rfl, World.ownsRow_nil _ _ _ _, Below.refl _ _⟩
  | some ad =>
    have hat := hR.at_
    clear hR
    go_enter Try.func29, Try.ntmps29
    go_wp2_with (at_make; refine wpList_make_own _ rfl _ _ 44 rfl w.heap.size 79 i79 (.agg #[.int .u64 0, .int .u64 0, .bool false]) 3 Try.underlying44 hi79 hz79 hs79 .i64 .i64 _ len rfl rfl (by omega) (by rw [hb79]; omega) (by unfold maxLen; omega) (Nat.le_refl _) ?_; intro w1 hown1 hgrow1)
    clear hi79 hz79 hs79 hb79
    go_loopw [3, 12] (fun v i wr => ∃ k : Nat, k ≤ len ∧ i = .int .i64 k ∧ wr.ownsRow w.heap.size 79 3 v k (brow (bs.take k)) ∧ Below w.heap.size w wr) (fun _ i _ => len - (intOf i).toNat)
    case atStart => exact ⟨0, Nat.zero_le _, rfl, by simpa [brow] using hown1, (Below.refl _ _).grown hgrow1 (Nat.le_refl _) (fun j hj => by simp at hj)⟩
    case round =>
      obtain ⟨k, hk, rfl, hown, hBel⟩ := hrel
      by_cases hlt : k < len
      · obtain ⟨hada, hbB⟩ := hat (by omega)
        cases hada
        obtain ⟨e0, e1, e2⟩ := (HR.out.kept (hBel.mono hB)).elem k hlt
        generalize hxg : bs.getD k Bc.zero = x at e0 e1 e2
        have HX : Hid (brow (bs.take (k + 1)) = brow (bs.take k) ++ bcells x) := by rw [← hxg]; exact brow_take_succ bs k (by omega)
        have hO : ((wr.alloc (.cells (bcells x).toArray 79)).alloc (.cells (bcells x).toArray 79)).drew.ownsRow w.heap.size 79 3 u3 k (brow (bs.take k)) := (hown.alloc _).alloc _
        have hcN : ∀ j u, (bcells x)[j]? = some u → ((wr.alloc (.cells (bcells x).toArray 79)).alloc (.cells (bcells x).toArray 79)).drew.cell? ((⟨wr.heap.size + 1, 0, none⟩ : Addr).add j) = some u := by
          have h := cells_new (wr.alloc (.cells (bcells x).toArray 79)) (bcells x) 79
          have e : (wr.alloc (.cells (bcells x).toArray 79)).heap.size = wr.heap.size + 1 := by simp
          rw [e] at h
          exact h
        have hB0 : Below w.heap.size w ((wr.alloc (.cells (bcells x).toArray 79)).alloc (.cells (bcells x).toArray 79)).drew := ((hBel.alloc hBel.size _).alloc (Nat.le_trans hBel.size (by simp)) _).drew
        have hone : ∀ u ∈ bcells x, u.oneCell' = true := by have := brow_one [x]; simpa [brow] using this
        have hlo : ∀ j, u3.ownBlock = some j → w.heap.size ≤ j := fun j hj => (hown.lt j hj).1
        simp only [bcells] at hO hcN hone hB0 HX
        have HO : Hid (_ ∧ _ ∧ _ ∧ _ ∧ _) := ⟨hO, hcN, hone, hB0, hlo⟩
        have hb4 := (HR.out.kept (hB0.mono hB)).elem k hlt
        rw [hxg] at hb4
        have HB4 : Hid _ := hb4
        have hbs : b < w.heap.size := by omega
        have HB4n : Hid (some b ≠ u3.ownBlock) := fun e => by have := hlo b e.symm; omega
        have hbx : ¬ wr.heap.size = b := by have := hBel.size; omega
        clear hxg hown hone hown1 hgrow1 hO hcN hB0 hlo hBel hb4
        go_upto_region 7 with fail
        go_region_held3 (fun w' => w'.cell? ⟨b, o + k * 3, none⟩ = some (.int .u64 x.num) ∧ w'.cell? ⟨b, o + k * 3 + 1, none⟩ = some (.int .u64 x.tick) ∧ w'.cell? ⟨b, o + k * 3 + 2, none⟩ = some (.bool x.acked)) (go_keep) (first | (go_at_call 37; refine Calls.mono (newSent_any _ _ _ _) ?_; rintro e w2 ⟨rfl, rfl⟩) | (refine step_append_own rfl (.tmp 15) (.tmp 32) 44 rfl w.heap.size 79 i79 (.agg #[.int .u64 0, .int .u64 0, .bool false]) 3 24 Try.underlying44 HI.out.1 HI.out.2.1 HI.out.2.2.1 HI.out.2.2.2 rfl (by decide) u3 k (brow (bs.take k)) rfl HO.out.1 ⟨wr.heap.size + 1, 0, none⟩ 1 1 _ rfl rfl HO.out.2.1 HO.out.2.2.1 (by unfold maxLen; omega) (by omega) HO.out.2.2.2.1.size ?_; intro v4 w4 hown4 hg4 hl4; have s0 := (hg4.cell HB4.out.1 HB4n.out); have s1 := (hg4.cell HB4.out.2.1 HB4n.out); have s2 := (hg4.cell HB4.out.2.2 HB4n.out)))
        go_wp2
        go_roundw
        case rel => exact ⟨k + 1, by omega, by go_num, by rw [HX.out]; exact hown4, HO.out.2.2.2.1.grown hg4 HO.out.2.2.2.1.size HO.out.2.2.2.2⟩
        case measure => simp [intOf]; omega
      · obtain rfl : k = len := by omega
        rw [show bs.take k = bs by rw [← hln]; exact List.take_length] at hown
        go_wp2
        go_ret
        exact ⟨_, rfl, hown, hBel⟩

end Go.Proofs.Qxb6613544a
