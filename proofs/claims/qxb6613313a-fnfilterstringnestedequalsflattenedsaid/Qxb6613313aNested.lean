/-
  zzNestedLen: THE WALK.
-/
import Derived.Test.Qxb6613313aLens
namespace Go.Proofs.Qxb6613313a
open Go.RowKit

/-- A sum over the first k expressions, c more for each. -/
def sumTo (c : Int) (es : List Ex) : Nat → Int
  | 0 => 0
  | k + 1 => sumTo c es k + (c + elen (es.getD k Ex.zero))

theorem elen_bounds (e : Ex) (hz : esize e ≤ 1048576) : 0 ≤ elen e ∧ elen e ≤ 1048576 := by
  have := elenTo_bounds e e.attr.length (Nat.le_refl _) hz
  rwa [elenTo_all] at this

/-- The element as the walk meets it, in a later world. -/
theorem elem_at {B : Nat} {w wr : World} {a : Option Addr} {len cap b o : Nat} {es : List Ex} (hE : ERow B w a len cap b o es) (hBel : Below B w wr) (hB : B ≤ wr.heap.size) {k : Nat} (hk : k < len) (hz : esize (es.getD k Ex.zero) ≤ 1048576) :
    ∃ a' len' cap', a = some ⟨b, o, none⟩ ∧ wr.cell? ⟨b, o + k * 3, none⟩ = some (.slice a' len' cap') ∧ wr.cell? ⟨b, o + k * 3 + 1, none⟩ = some (.string (es.getD k Ex.zero).op) ∧ wr.cell? ⟨b, o + k * 3 + 2, none⟩ = some (.string (es.getD k Ex.zero).val) ∧
      Hid (Calls Try.prog 34 #[.agg #[.slice a' len' cap', .string (es.getD k Ex.zero).op, .string (es.getD k Ex.zero).val]] wr fun e w' => e = .returned (.int .i64 (elen (es.getD k Ex.zero))) ∧ Below B w w' ∧ B ≤ w'.heap.size) := by
  obtain ⟨_, _, _, h4, h5⟩ := hE
  obtain ⟨ha, hb⟩ := h4 (by omega)
  obtain ⟨a', len', cap', b', o', c0, hs, c1, c2⟩ := h5 k hk
  refine ⟨a', len', cap', ha, (hBel.cell (p := ⟨b, o + k * 3, none⟩) hb).trans c0, (hBel.cell (p := ⟨b, o + k * 3 + 1, none⟩) hb).trans c1, (hBel.cell (p := ⟨b, o + k * 3 + 2, none⟩) hb).trans c2, ?_⟩
  refine (exprLen_any B a' len' cap' b' o' (es.getD k Ex.zero) wr (hs.kept hBel) hB hz).mono ?_
  rintro e w' ⟨rfl, rfl⟩
  exact ⟨rfl, hBel.alloc hB _, by simp; omega⟩

def nlen (es0 : List Ex) (p : ByteArray) (es1 : List Ex) (q : ByteArray) (es2 : List Ex) : Int :=
  let t := sumTo 0 es0 es0.length + sumTo ((p.size : Int) + 1) es1 es1.length + sumTo ((q.size : Int) + 1) es2 es2.length
  let n := (es0.length : Int) + (es1.length : Int) + (es2.length : Int)
  if 0 < n then t + (n - 1) else t

set_option maxHeartbeats 4000000 in
set_option maxRecDepth 10000 in
theorem nestedLen_any (B : Nat) (a0 a1 a2 : Option Addr) (l0 c0 b0 o0 l1 c1 b1 o1 l2 c2 b2 o2 : Nat) (es0 es1 es2 : List Ex) (p q : ByteArray) (w : World) (hB : B ≤ w.heap.size)
    (hE0 : ERow B w a0 l0 c0 b0 o0 es0) (hE1 : ERow B w a1 l1 c1 b1 o1 es1) (hE2 : ERow B w a2 l2 c2 b2 o2 es2) (hp : p.size ≤ 1048576) (hq : q.size ≤ 1048576)
    (hl0 : l0 ≤ 1048576) (hl1 : l1 ≤ 1048576) (hl2 : l2 ≤ 1048576) (hz0 : ∀ i, esize (es0.getD i Ex.zero) ≤ 1048576) (hz1 : ∀ i, esize (es1.getD i Ex.zero) ≤ 1048576) (hz2 : ∀ i, esize (es2.getD i Ex.zero) ≤ 1048576) :
    Calls Try.prog 29 #[.slice a0 l0 c0, .string p, .slice a1 l1 c1, .string q, .slice a2 l2 c2] w fun e w' => e = .returned (.int .i64 (nlen es0 p es1 q es2)) ∧ Below B w w' := by
  have hm0 := hE0.2.2.1
  have hm1 := hE1.2.2.1
  have hm2 := hE2.2.2.1
  have hn0 := hE0.1
  have hn1 := hE1.1
  have hn2 := hE2.1
  unfold maxLen at hm0 hm1 hm2
  have HN : Hid (es0.length = l0 ∧ es1.length = l1 ∧ es2.length = l2) := ⟨hn0, hn1, hn2⟩
  clear hn0 hn1 hn2
  go_enter Try.func29, Try.ntmps29
  go_wp2_with fail
  go_loopw [11, 12, 13] (fun n t i wr => ∃ (k : Nat) (v : Int), k ≤ l0 ∧ i = .int .i64 k ∧ n = .int .i64 k ∧ t = .int .i64 v ∧ 0 ≤ v ∧ v ≤ (k : Int) * 4194304 ∧ Hid (v = sumTo 0 es0 k) ∧ Below B w wr ∧ B ≤ wr.heap.size) (fun _ _ i _ => l0 - (intOf i).toNat)
  case atStart => exact ⟨0, 0, Nat.zero_le _, rfl, rfl, rfl, Int.le_refl _, by simp, rfl, Below.refl _ _, hB⟩
  case round =>
    obtain ⟨k, v, hk, rfl, rfl, rfl, hv1, hv2, HV, hBel, hBz⟩ := hrel
    by_cases hlt : k < l0
    · obtain ⟨a', len', cap', rfl, d0, d1, d2, HC⟩ := elem_at hE0 hBel hBz hlt (hz0 k)
      have HS : Hid (sumTo 0 es0 (k + 1) = sumTo 0 es0 k + (0 + elen (es0.getD k Ex.zero))) := rfl
      obtain ⟨he1, he2⟩ := elen_bounds _ (hz0 k)
      generalize es0.getD k Ex.zero = x at d0 d1 d2 HC HS he1 he2
      go_wp2_with fail
      refine Calls.mono HC.out ?_
      rintro e w1 ⟨rfl, hB1, hz1'⟩
      go_wp2
      go_roundw
      case rel =>
        refine ⟨k + 1, v + elen x, by omega, by go_num, by go_num, rfl, by omega, by omega, ?_, hB1, hz1'⟩
        have e1 : v = sumTo 0 es0 k := HV.out
        show v + elen x = sumTo 0 es0 (k + 1)
        rw [HS.out, ← e1, Int.zero_add]
      case measure => simp [intOf]; omega
    · obtain rfl : l0 = k := by omega
      obtain ⟨T0, hT0⟩ : ∃ T0, T0 = v := ⟨_, rfl⟩
      subst hT0
      obtain ⟨wA, hwA⟩ : ∃ wA, wA = wr := ⟨_, rfl⟩
      subst hwA
      have HV0 := HV
      clear HV hlt hk
      go_wp2_with fail
      go_loopw [11, 12, 14] (fun n t i wr => ∃ (k : Nat) (v : Int), k ≤ l1 ∧ i = .int .i64 k ∧ n = .int .i64 ((l0 : Int) + (k : Int)) ∧ t = .int .i64 v ∧ 0 ≤ v ∧ v ≤ (l0 : Int) * 4194304 + (k : Int) * 4194304 ∧ Hid (v = T0 + sumTo ((p.size : Int) + 1) es1 k) ∧ Below B w wr ∧ B ≤ wr.heap.size) (fun _ _ i _ => l1 - (intOf i).toNat)
      case atStart => exact ⟨0, T0, Nat.zero_le _, rfl, by go_num, rfl, hv1, by omega, (by simp [sumTo] : T0 = T0 + sumTo ((p.size : Int) + 1) es1 0), hBel, hBz⟩
      case round =>
        obtain ⟨k, v, hk, rfl, rfl, rfl, hv1', hv2', HV, hBel', hBz'⟩ := hrel
        by_cases hlt : k < l1
        · obtain ⟨a', len', cap', rfl, d0, d1, d2, HC⟩ := elem_at hE1 hBel' hBz' hlt (hz1 k)
          have HS : Hid (sumTo ((p.size : Int) + 1) es1 (k + 1) = sumTo ((p.size : Int) + 1) es1 k + ((p.size : Int) + 1 + elen (es1.getD k Ex.zero))) := rfl
          obtain ⟨he1, he2⟩ := elen_bounds _ (hz1 k)
          generalize es1.getD k Ex.zero = x at d0 d1 d2 HC HS he1 he2
          go_wp2_with fail
          refine Calls.mono HC.out ?_
          rintro e w1 ⟨rfl, hB1, hz1'⟩
          go_wp2
          go_roundw
          case rel =>
            refine ⟨k + 1, v + ((p.size : Int) + 1 + elen x), by omega, by go_num, by go_num, by go_num, by omega, by omega, ?_, hB1, hz1'⟩
            have e1 : v = T0 + sumTo ((p.size : Int) + 1) es1 k := HV.out
            show v + ((p.size : Int) + 1 + elen x) = T0 + sumTo ((p.size : Int) + 1) es1 (k + 1)
            rw [HS.out, e1]
            omega
          case measure => simp [intOf]; omega
        · obtain rfl : l1 = k := by omega
          obtain ⟨T1, hT1⟩ : ∃ T1, T1 = v := ⟨_, rfl⟩
          subst hT1
          obtain ⟨wC, hwC⟩ : ∃ wC, wC = wr := ⟨_, rfl⟩
          subst hwC
          have HV1 := HV
          clear HV hlt hk
          go_wp2_with fail
          go_loopw [11, 12, 15] (fun n t i wr => ∃ (k : Nat) (v : Int), k ≤ l2 ∧ i = .int .i64 k ∧ n = .int .i64 ((l0 : Int) + (l1 : Int) + (k : Int)) ∧ t = .int .i64 v ∧ 0 ≤ v ∧ v ≤ (l0 : Int) * 4194304 + (l1 : Int) * 4194304 + (k : Int) * 4194304 ∧ Hid (v = T1 + sumTo ((q.size : Int) + 1) es2 k) ∧ Below B w wr ∧ B ≤ wr.heap.size) (fun _ _ i _ => l2 - (intOf i).toNat)
          case atStart => exact ⟨0, T1, Nat.zero_le _, rfl, by go_num, rfl, hv1', by omega, (by simp [sumTo] : T1 = T1 + sumTo ((q.size : Int) + 1) es2 0), hBel', hBz'⟩
          case round =>
            obtain ⟨k, v, hk, rfl, rfl, rfl, hv1'', hv2'', HV, hBel'', hBz''⟩ := hrel
            by_cases hlt : k < l2
            · obtain ⟨a', len', cap', rfl, d0, d1, d2, HC⟩ := elem_at hE2 hBel'' hBz'' hlt (hz2 k)
              have HS : Hid (sumTo ((q.size : Int) + 1) es2 (k + 1) = sumTo ((q.size : Int) + 1) es2 k + ((q.size : Int) + 1 + elen (es2.getD k Ex.zero))) := rfl
              obtain ⟨he1, he2⟩ := elen_bounds _ (hz2 k)
              generalize es2.getD k Ex.zero = x at d0 d1 d2 HC HS he1 he2
              go_wp2_with fail
              refine Calls.mono HC.out ?_
              rintro e w1 ⟨rfl, hB1, hz1'⟩
              go_wp2
              go_roundw
              case rel =>
                refine ⟨k + 1, v + ((q.size : Int) + 1 + elen x), by omega, by go_num, by go_num, by go_num, by omega, by omega, ?_, hB1, hz1'⟩
                have e1 : v = T1 + sumTo ((q.size : Int) + 1) es2 k := HV.out
                show v + ((q.size : Int) + 1 + elen x) = T1 + sumTo ((q.size : Int) + 1) es2 (k + 1)
                rw [HS.out, e1]
                omega
              case measure => simp [intOf]; omega
            · obtain rfl : l2 = k := by omega
              have e0 : T0 = sumTo 0 es0 l0 := HV0.out
              have e1 : T1 = T0 + sumTo ((p.size : Int) + 1) es1 l1 := HV1.out
              have e2 : v = T1 + sumTo ((q.size : Int) + 1) es2 l2 := HV.out
              obtain ⟨f0, f1, f2⟩ := HN.out
              have HR : Hid (nlen es0 p es1 q es2 = if 0 < (l0 : Int) + (l1 : Int) + (l2 : Int) then v + ((l0 : Int) + (l1 : Int) + (l2 : Int) - 1) else v) := by
                show nlen es0 p es1 q es2 = _
                unfold nlen
                rw [f0, f1, f2, e2, e1, e0]
              clear e0 e1 e2 f0 f1 f2 HV HV0 HV1
              by_cases hn : 0 < (l0 : Int) + (l1 : Int) + (l2 : Int)
              · go_wp2
                go_ret
                refine ⟨?_, hBel''⟩
                rw [HR.out, if_pos hn]
                go_num
              · go_wp2
                go_ret
                refine ⟨?_, hBel''⟩
                rw [HR.out, if_neg (by omega)]
                rfl

end Go.Proofs.Qxb6613313a
