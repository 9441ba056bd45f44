/-
  slices.Delete(s, 0, 1): THE WALK.
-/
import Derived.Test.Qxb6613544aData
namespace Go.Proofs.Qxb6613544a
open Go.RowKit

/-- append TO A ROW OF THE CALL's OWN WITH ROOM, as one step of a region that draws. -/
theorem step_append_spare {P : Program} {ops : Array Oper} {o : Oper} {a : Act} {w : World} {K : Act → World → Prop} {Q : Exit → Act → World → Prop} {E : Prop}
    (hg : o.guard = none) (s x : Operand) (t : TypeId) (hop : o.op = Op.call { callee := Callee.builtin Builtin.append, args := #[s, x], argTypes := #[t, t] })
    (base : Nat) (e : TypeId) (i : TypeInfo) (size : Nat) (h1 : P.underlying t = some (.slice e)) (h2 : P.info? e = some i) (h4 : i.size = size)
    (g n cap : Nat) (xs : List Value) (hs : a.eval s = .slice (some ⟨g, 0, none⟩) n cap) (hown : w.ownsRow base e size (.slice (some ⟨g, 0, none⟩) n cap) n xs)
    (ad : Addr) (m c : Nat) (news : List Value) (hx : a.eval x = .slice (some ad) m c) (hn : news.length = m * size) (hc : ∀ j u, news[j]? = some u → w.cell? (ad.add j) = some u) (h1c : ∀ u ∈ news, u.oneCell' = true)
    (hroom : n + m ≤ cap)
    (hK : ∀ w', w'.ownsRow base e size (.slice (some ⟨g, 0, none⟩) (n + m) cap) (n + m) (xs ++ news) → w.grownBy w' (some g) → K (a.put o.dst (.slice (some ⟨g, 0, none⟩) (n + m) cap)) w') :
    if Region.wanted o (yielded ops a.tmps) = true then Oper.wp P o a w K Q else E := by
  have hw : Region.wanted o (yielded ops a.tmps) = true := by simp [Region.wanted, hg]
  rw [if_pos hw]
  exact wp_append_own_spare w s x t hop base e i size h1 h2 h4 g n cap xs hs hown ad m c news hx hn hc h1c hroom hK

theorem run_clear {P : Program} (w : World) (t ty e : TypeId) (z : Value) (ht : P.underlying t = some (.slice e)) (hz : (zeroValue e).run P w = .ok z w) (b off m c : Nat) (hm : 0 < m) (vs : List Value) (hvs : (Builtin.zeroCells z.cells m).toList = vs) (h1 : ∀ u ∈ vs, u.oneCell' = true)
    (hth : ∀ j, j < vs.length → (w.cell? ⟨b, off + j, none⟩).isSome = true ∧ w.frozen? ⟨b, off + j, none⟩ = false) :
    (Builtin.clear_ #[t] ty #[.slice (some ⟨b, off, none⟩) m c]).run P w = .ok (.tuple #[]) (w.setCells b off vs) := by
  have hst := run_storeCells_cells (P := P) b off vs 0 w (by simpa using fun j hj => (hth j hj).1) (by simpa using fun j hj => (hth j hj).2) h1
  simp only [Nat.add_zero] at hst
  obtain ⟨m, rfl⟩ : ∃ k, m = k + 1 := ⟨m - 1, by omega⟩
  simp [Builtin.clear_, run_underlying ht, hz, hvs, hst, Result.andThen]

theorem wpList_clear {P : Program} (w : World) {ops : Array Oper} {rest : List Oper} {o : Oper} {a : Act} {Q : Exit → Act → World → Prop} (hgd : o.guard = none) (s : Operand) (t : TypeId)
    (ho : o.op = .call { callee := .builtin .clear, args := #[s], argTypes := #[t] }) (e : TypeId) (z : Value) (ht : P.underlying t = some (.slice e)) (hz : (zeroValue e).run P w = .ok z w) (b off m c : Nat) (hs : a.eval s = .slice (some ⟨b, off, none⟩) m c) (hm : 0 < m) (vs : List Value) (hvs : (Builtin.zeroCells z.cells m).toList = vs) (h1 : ∀ u ∈ vs, u.oneCell' = true)
    (hth : ∀ j, j < vs.length → (w.cell? ⟨b, off + j, none⟩).isSome = true ∧ w.frozen? ⟨b, off + j, none⟩ = false)
    (h : wpList P ops Q rest (a.put o.dst (.tuple #[])) (w.setCells b off vs)) : wpList P ops Q (o :: rest) a w := by
  refine wpList_plain hgd fun K hK => ?_
  have hr := run_clear (P := P) w t o.type e z ht hz b off m c hm vs hvs h1 hth
  unfold Oper.wp execOp
  simp only [ho, resolve, invoke, builtin, Sem.run_bind, Sem.run_pure, Result.andThen_ok, List.map_toArray, List.map_cons, List.map_nil, hs, hr]
  exact hK _ _ h

theorem zero79 (w : World) : (zeroValue 79).run Try.prog w = .ok (.agg #[.int .u64 0, .int .u64 0, .bool false]) w := by kernel_rfl

def z3 : List Value := [.int .u64 0, .int .u64 0, .bool false]
theorem zc79 : (Builtin.zeroCells (Value.agg #[.int .u64 0, .int .u64 0, .bool false]).cells 1).toList = z3 := by kernel_rfl
theorem zone79 : ∀ u ∈ z3, u.oneCell' = true := by intro u hu; simp [z3] at hu; rcases hu with rfl | rfl | rfl <;> rfl

theorem own_elem {w : World} {base g n cap : Nat} {xs : List Value} (h : w.ownsRow base 79 3 (.slice (some ⟨g, 0, none⟩) n cap) n xs) (k : Nat) (j : Nat) (u : Value) (hu : (xs.drop k)[j]? = some u) : w.cell? ((⟨g, k, none⟩ : Addr).add j) = some u := by
  have h1 := h.cells (g := g) rfl (k + j) u (by rw [← hu, List.getElem?_drop])
  have e : ∀ o i : Nat, (⟨g, o, none⟩ : Addr).add i = ⟨g, o + i, none⟩ := fun o i => by unfold Addr.add; split <;> simp_all
  rw [e] at h1 ⊢
  simpa using h1

set_option maxHeartbeats 4000000 in
set_option maxRecDepth 10000 in
theorem delete_any (B g cap : Nat) (b : Bc) (bs : List Bc) (w : World) (hown : w.ownsRow B 79 3 (.slice (some ⟨g, 0, none⟩) (bs.length + 1) cap) (bs.length + 1) (brow (b :: bs))) :
    Calls Try.prog 41 #[.slice (some ⟨g, 0, none⟩) (bs.length + 1) cap, .int .i64 0, .int .i64 1] w fun e w' => e = .returned (.slice (some ⟨g, 0, none⟩) bs.length cap) ∧ w'.ownsRow B 79 3 (.slice (some ⟨g, 0, none⟩) bs.length cap) bs.length (brow bs) ∧ Only (fun k => k = g) w w' := by
  obtain ⟨i79, hi79, hz79, hs79, hb79⟩ := info_parts Try.info79
  obtain ⟨g', cap', hv, _, hlt, hcap, hmax⟩ := own_some hown
  cases hv
  unfold maxLen at hmax
  have h0 := own_take hown (m := 0) (Nat.zero_le _)
  have hbl := brow_length bs
  have hnews : ∀ j u, (brow bs)[j]? = some u → w.drew.cell? ((⟨g, 3, none⟩ : Addr).add j) = some u := fun j u hu => own_elem hown 3 j u (by simpa [brow, bcells] using hu)
  generalize hn : bs.length = n at *
  have hl1 : (1 : Int) ≤ (n : Int) + 1 := by omega
  by_cases hc1 : cap = 1
  · subst hc1
    obtain rfl : n = 0 := by omega
    obtain rfl : bs = [] := List.eq_nil_of_length_eq_zero hn
    have h00' : w.ownsRow B 79 3 (.slice (some ⟨g, 0, none⟩) 0 1) 0 [] := by simpa using h0
    have h00 : w.drew.ownsRow B 79 3 (.slice (some ⟨g, 0, none⟩) 0 1) 0 [] := h00'
    clear h00'
    clear hnews hbl hl1 hmax hown h0
    go_enter Try.func41, Try.ntmps41
    go_upto_region 5 with fail
    go_region_law (refine step_append_spare rfl (.tmp 22) (.tmp 25) 44 rfl B 79 i79 3 Try.underlying44 hi79 hs79 g 0 1 [] rfl h00 ⟨g, 0, none⟩ 0 0 [] rfl rfl (fun j u hu => by simp at hu) (fun u hu => by simp at hu) (by omega) ?_; intro w1 hown1 hg1)
    have HM : Hid (w1.ownsRow B 79 3 (.slice (some ⟨g, 0, none⟩) 0 1) 0 [] ∧ w.drew.grownBy w1 (some g)) := ⟨hown1, hg1⟩
    have HT : Hid (∀ j, j < z3.length → (w1.cell? ⟨g, 0 + j, none⟩).isSome = true ∧ w1.frozen? ⟨g, 0 + j, none⟩ = false) := fun j hj => own_there HM.out.1 (0 + j) (by simp [z3] at hj; omega)
    clear hown1 hg1 h00
    go_wp2_with (refine wpList_clear _ rfl (.tmp 31) 44 rfl 79 _ Try.underlying44 (zero79 _) g 0 1 1 rfl Nat.zero_lt_one z3 zc79 zone79 HT.out ?_)
    go_ret
    refine ⟨rfl, own_setCells HM.out.1 z3 0 (Nat.le_refl _) (by simp [z3]), ?_⟩
    have h1 : Only (fun k => k = g) w w1 := ⟨HM.out.2.os, HM.out.2.tape, HM.out.2.output, HM.out.2.size, fun k hk hn => HM.out.2.block k hk (fun e => hn (by injection e))⟩
    exact ((h1.setCell (p := ⟨g, 0, none⟩) (.inl rfl) _).setCell (p := ⟨g, 0 + 1, none⟩) (.inl rfl) _).setCell (p := ⟨g, 0 + 1 + 1, none⟩) (.inl rfl) _
  · have hc2 : 1 < cap := by omega
    go_enter Try.func41, Try.ntmps41
    go_upto_region 5 with fail
    go_region_law (refine step_append_spare rfl (.tmp 22) (.tmp 25) 44 rfl B 79 i79 3 Try.underlying44 hi79 hs79 g 0 cap _ rfl h0 ⟨g, 3, none⟩ n (cap - 1) (brow bs) rfl hbl hnews (brow_one bs) (by omega) ?_; intro w1 hown1 hg1)
    have HM : Hid (w1.ownsRow B 79 3 (.slice (some ⟨g, 0, none⟩) n cap) n (brow bs) ∧ w.drew.grownBy w1 (some g)) := ⟨by simpa using hown1, hg1⟩
    have hn1 : (n : Int) ≤ (n : Int) + 1 := by omega
    have hn2 : (n : Int) + 1 ≤ cap := by omega
    have hne : ¬ cap = n := by omega
    have HX : Hid (n + 1 ≤ cap) := hcap
    clear hmax hown1 hg1 hnews h0 hown hcap hc1 hc2
    have HT : Hid (∀ j, j < z3.length → (w1.cell? ⟨g, n * 3 + j, none⟩).isSome = true ∧ w1.frozen? ⟨g, n * 3 + j, none⟩ = false) := fun j hj => own_there HM.out.1 (n * 3 + j) (by have := HX.out; simp [z3] at hj; omega)
    go_wp2_with (refine wpList_clear _ rfl (.tmp 31) 44 rfl 79 _ Try.underlying44 (zero79 _) g (n * 3) 1 (cap - n) rfl Nat.zero_lt_one z3 zc79 zone79 HT.out ?_)
    go_ret
    have hx := HX.out
    refine ⟨rfl, own_setCells HM.out.1 z3 (n * 3) (Nat.le_refl _) (by simp [z3]; omega), ?_⟩
    have h1 : Only (fun k => k = g) w w1 := ⟨HM.out.2.os, HM.out.2.tape, HM.out.2.output, HM.out.2.size, fun k hk hn => HM.out.2.block k hk (fun e => hn (by injection e))⟩
    exact ((h1.setCell (p := ⟨g, n * 3, none⟩) (.inl rfl) _).setCell (p := ⟨g, n * 3 + 1, none⟩) (.inl rfl) _).setCell (p := ⟨g, n * 3 + 1 + 1, none⟩) (.inl rfl) _

end Go.Proofs.Qxb6613544a
