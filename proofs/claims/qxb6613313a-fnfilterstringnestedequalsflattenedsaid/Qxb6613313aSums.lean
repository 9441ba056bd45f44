/-
  zzAdd, zzExprBytes: THE WALKS.
-/
import Derived.Test.Qxb6613313aData
namespace Go.Proofs.Qxb6613313a
open Go.RowKit

/-- zzAdd fits. -/
def fitsB (t n w : Int) : Bool := decide (n ≤ (1048576 - t) / w)
def addT (t n w : Int) : Int := if fitsB t n w then t + n * w else t

theorem fits_true {t n w : Int} (hw : 0 < w) (h : fitsB t n w = true) : t + n * w ≤ 1048576 := by
  unfold fitsB at h
  have h1 : n ≤ (1048576 - t) / w := by simpa using h
  have h2 := Int.mul_le_of_le_ediv hw h1
  omega

theorem mul_bound {n w : Int} (hn : 0 ≤ n) (hw0 : 0 ≤ w) (hn2 : n ≤ 1048576) (hw : w ≤ 56) : 0 ≤ n * w ∧ n * w ≤ 58720256 := by
  constructor
  · exact Int.mul_nonneg hn hw0
  · have h1 : n * w ≤ 1048576 * w := Int.mul_le_mul_of_nonneg_right hn2 hw0
    omega

set_option maxHeartbeats 400000 in
theorem add_any (t n c : Int) (w : World) (h0 : 0 ≤ t) (h1 : t ≤ 1048576) (hn : 0 ≤ n) (hc : 0 < c) (hc2 : c ≤ 56) :
    Calls Try.prog 9 #[.int .i64 t, .int .i64 n, .int .i64 c] w fun e w' => e = .returned (.tuple #[.int .i64 (addT t n c), .bool (fitsB t n c)]) ∧ w = w' := by
  have hq : 0 ≤ (1048576 - t) / c ∧ (1048576 - t) / c ≤ 1048576 := ⟨Int.ediv_nonneg (by omega) (by omega), Int.le_trans (Int.ediv_le_self _ (by omega)) (by omega)⟩
  unfold addT
  by_cases hf : n ≤ (1048576 - t) / c
  · have hb : fitsB t n c = true := by unfold fitsB; simpa using hf
    have hm := mul_bound (n := n) (w := c) hn (by omega) (by omega) hc2
    rw [hb]
    go_enter Try.func9, Try.ntmps9
    go_wp2
    go_ret2
    exact ⟨rfl, rfl⟩
  · have hb : fitsB t n c = false := by unfold fitsB; simpa using hf
    rw [hb]
    go_enter Try.func9, Try.ntmps9
    go_wp2
    go_ret2
    exact ⟨rfl, rfl⟩

/-- What zzExprBytes answers: where it says ok, the sizes and their bound. -/
def Sized (t0 : Int) (es : List Ex) (e : Ending) : Prop :=
  ∃ t ok, e = .returned (.tuple #[.int .i64 t, .bool ok]) ∧ (ok = true → t = t0 + (es.length : Int) * 56 + esizes es ∧ t ≤ 1048576)

theorem Sized.no {t0 t : Int} {es : List Ex} : Sized t0 es (.returned (.tuple #[.int .i64 t, .bool false])) := ⟨t, false, rfl, fun h => by cases h⟩
theorem Sized.yes {t0 t : Int} {es : List Ex} (h : t = t0 + (es.length : Int) * 56 + esizes es ∧ t ≤ 1048576) : Sized t0 es (.returned (.tuple #[.int .i64 t, .bool true])) := ⟨t, true, rfl, fun _ => h⟩

theorem addT_true {t n w : Int} (h : fitsB t n w = true) : addT t n w = t + n * w := by unfold addT; rw [if_pos h]

set_option maxHeartbeats 2000000 in
set_option maxRecDepth 10000 in
theorem exprBytes_any (B : Nat) (a : Option Addr) (len cap b o : Nat) (es : List Ex) (t0 : Int) (w : World) (h0 : 0 ≤ t0) (h1 : t0 ≤ 1048576) (hE : ERow B w a len cap b o es) :
    Calls Try.prog 21 #[.slice a len cap, .int .i64 t0] w fun e w' => Sized t0 es e ∧ w = w' := by
  obtain ⟨hl, hlc, hcm, ha, hc⟩ := hE
  unfold maxLen at hcm
  go_enter Try.func21, Try.ntmps21
  go_wp2_with fail
  refine (add_any t0 len 56 w h0 h1 (by omega) (by omega) (by omega)).mono ?_
  rintro e w' ⟨rfl, rfl⟩
  cases hf : fitsB t0 len 56 with
  | false =>
    go_wp2
    go_ret2
    exact ⟨Sized.no, rfl⟩
  | true =>
    rw [addT_true hf]
    have hb0 := fits_true (by omega) hf
    clear hf
    obtain ⟨T0, hT0⟩ : ∃ T0, T0 = t0 + (len : Int) * 56 := ⟨_, rfl⟩
    rw [← hT0] at hb0 ⊢
    have H0 : Hid (T0 = t0 + (len : Int) * 56) := hT0
    have hT1 : 0 ≤ T0 := by omega
    clear hT0
    go_wp2_with fail
    go_loop [6, 8] (fun t i => ∃ (k : Nat) (v : Int), k ≤ len ∧ i = .int .i64 k ∧ t = .int .i64 v ∧ 0 ≤ v ∧ v ≤ 1048576 ∧ Hid (v = T0 + esizesTo es k)) (fun _ i => len - (intOf i).toNat)
    case atStart => exact ⟨0, T0, Nat.zero_le _, rfl, rfl, hT1, hb0, (by simp [esizesTo] : T0 = T0 + esizesTo es 0)⟩
    case round =>
      obtain ⟨k, v, hk, rfl, rfl, hv0, hv1, HV⟩ := hrel
      by_cases hlt : k < len
      · obtain ⟨ha', hbB⟩ := ha (by omega)
        subst ha'
        obtain ⟨a', len', cap', b', o', c0, hs, c1, c2⟩ := hc k hlt
        have HE : Hid (esizesTo es (k + 1) = esizesTo es k + esize (es.getD k Ex.zero)) := rfl
        generalize es.getD k Ex.zero = x at *
        obtain ⟨hl', hlc', hcm', ha2, hc'⟩ := hs
        unfold maxLen at hcm'
        clear hc ha
        go_wp2_with fail
        refine (add_any v len' 16 w hv0 hv1 (by omega) (by omega) (by omega)).mono ?_
        rintro e w' ⟨rfl, rfl⟩
        cases hf : fitsB v len' 16 with
        | false =>
          go_wp2
          go_ret2
          exact ⟨Sized.no, rfl⟩
        | true =>
          rw [addT_true hf]
          have hb1 := fits_true (by omega) hf
          clear hf
          obtain ⟨v1, hv1e⟩ : ∃ v1, v1 = v + (len' : Int) * 16 := ⟨_, rfl⟩
          rw [← hv1e] at hb1 ⊢
          have H1 : Hid (v1 = v + (len' : Int) * 16) := hv1e
          have hv10 : 0 ≤ v1 := by omega
          clear hv1e
          go_wp2_with fail
          go_loop [6, 7, 10] (fun t _ j => ∃ (m : Nat) (u : Int), m ≤ len' ∧ j = .int .i64 m ∧ t = .int .i64 u ∧ 0 ≤ u ∧ u ≤ 1048576 ∧ Hid (u = v1 + lensTo x.attr m)) (fun _ _ j => len' - (intOf j).toNat)
          case atStart => exact ⟨0, v1, Nat.zero_le _, rfl, rfl, hv10, hb1, (by simp [lensTo] : v1 = v1 + lensTo x.attr 0)⟩
          case round =>
            obtain ⟨m, u, hm, rfl, rfl, hu0, hu1, HU⟩ := hrel
            by_cases hlt2 : m < len'
            · obtain ⟨ha2', _⟩ := ha2 (by omega)
              subst ha2'
              have d0 := hc' m hlt2
              have HL : Hid (lensTo x.attr (m + 1) = lensTo x.attr m + ((x.attr.getD m ⟨#[]⟩).size : Int)) := rfl
              generalize x.attr.getD m ⟨#[]⟩ = y at *
              clear hc' ha2
              go_wp2_with fail
              refine (add_any u y.size 1 w hu0 hu1 (by omega) (by omega) (by omega)).mono ?_
              rintro e w' ⟨rfl, rfl⟩
              cases hf : fitsB u y.size 1 with
              | false =>
                go_wp2
                go_ret2
                exact ⟨Sized.no, rfl⟩
              | true =>
                rw [addT_true hf]
                have hb2 := fits_true (by omega) hf
                clear hf
                rw [Int.mul_one] at hb2 ⊢
                go_wp2
                go_round
                case rel =>
                  refine ⟨m + 1, u + (y.size : Int), by omega, by go_num, rfl, by omega, hb2, ?_⟩
                  show u + (y.size : Int) = v1 + lensTo x.attr (m + 1)
                  rw [HL.out, HU.out]
                  omega
                case measure => simp [intOf]; omega
            · obtain rfl : m = len' := by omega
              have HU2 : Hid (u = v1 + lens x.attr) := by
                have := HU.out
                rw [← hl', lensTo_all] at this
                exact this
              clear HU hc' ha2
              go_wp2_with fail
              refine (add_any u x.op.size 1 w hu0 hu1 (by omega) (by omega) (by omega)).mono ?_
              rintro e w' ⟨rfl, rfl⟩
              cases hf : fitsB u x.op.size 1 with
              | false =>
                go_wp2
                go_ret2
                exact ⟨Sized.no, rfl⟩
              | true =>
                rw [addT_true hf]
                have hb2 := fits_true (by omega) hf
                clear hf
                rw [Int.mul_one] at hb2 ⊢
                go_wp2_with fail
                refine (add_any (u + (x.op.size : Int)) x.val.size 1 w (by omega) hb2 (by omega) (by omega) (by omega)).mono ?_
                rintro e w' ⟨rfl, rfl⟩
                cases hf : fitsB (u + (x.op.size : Int)) x.val.size 1 with
                | false =>
                  go_wp2
                  go_ret2
                  exact ⟨Sized.no, rfl⟩
                | true =>
                  rw [addT_true hf]
                  have hb3 := fits_true (by omega) hf
                  clear hf
                  rw [Int.mul_one] at hb3 ⊢
                  go_wp2
                  go_round
                  case rel =>
                    refine ⟨k + 1, u + (x.op.size : Int) + (x.val.size : Int), by omega, by go_num, rfl, by omega, hb3, ?_⟩
                    show u + (x.op.size : Int) + (x.val.size : Int) = T0 + esizesTo es (k + 1)
                    have e1 : esizesTo es (k + 1) = esizesTo es k + esize x := HE.out
                    have e2 : v = T0 + esizesTo es k := HV.out
                    have e3 : u = v1 + lens x.attr := HU2.out
                    have e4 : v1 = v + (m : Int) * 16 := H1.out
                    have e5 : esize x = 16 * (x.attr.length : Int) + lens x.attr + (x.op.size : Int) + (x.val.size : Int) := rfl
                    rw [e1, e5, e3, e4, e2, hl']
                    omega
                  case measure => simp [intOf]; omega
      · obtain rfl : k = len := by omega
        go_wp2
        go_ret2
        refine ⟨Sized.yes ⟨?_, hv1⟩, rfl⟩
        have h1 : v = T0 + esizesTo es k := HV.out
        have h2 : T0 = t0 + (k : Int) * 56 := H0.out
        rw [h1, h2, ← hl, esizesTo_all]

end Go.Proofs.Qxb6613313a
