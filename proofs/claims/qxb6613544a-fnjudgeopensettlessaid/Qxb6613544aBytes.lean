/-
  zzBytes, judgeSizeOK: THE WALKS.
-/
import Derived.Test.Qxb6613544aLinks
namespace Go.Proofs.Qxb6613544a
open Go.RowKit

set_option maxHeartbeats 8000000 in
set_option maxRecDepth 10000 in
theorem bytes_any (B : Nat) (period tick : Int) (hyst : Nat) (ticks : Int) (a : Option Addr) (len cap b o : Nat) (f : Nat → Lk) (a' : Option Addr) (len' cap' b' o' : Nat) (g : Nat → Nat → Int) (w : World) (hR : LRow B w a len cap b o f) (hR' : GRow B w a' len' cap' b' o' g) :
    Calls Try.prog 7 #[.int .i64 period, .int .i64 tick, .float .f64 hyst, .int .u64 ticks, .slice a len cap, .slice a' len' cap'] w fun e w' => ∃ z, e = .returned (.bool z) ∧ w' = w := by
  have hlc := hR.lc
  have hcm := hR.cm
  have hlc' := hR'.lc
  have hcm' := hR'.cm
  unfold maxLen at hcm hcm'
  have HR : Hid (LRow B w a len cap b o f) := hR
  clear hR hR'
  go_enter Try.func7, Try.ntmps7
  go_wp2_with fail
  · go_ret
    exact ⟨_, rfl, rfl⟩
  have hl20 : len ≤ 1048576 := by omega
  go_loopw [13, 14] (fun s13 s14 wr => ∃ (k : Nat) (t : Int), k ≤ len ∧ s14 = .int .i64 k ∧ s13 = .int .i64 t ∧ 0 ≤ t ∧ t ≤ 1048576 ∧ wr = w) (fun _ s14 _ => len - (intOf s14).toNat)
  case atStart => exact ⟨0, _, Nat.zero_le _, rfl, rfl, by omega, by omega, rfl⟩
  case round =>
    obtain ⟨k, t, hk, rfl, rfl, ht0, ht1, rfl⟩ := hrel
    by_cases hlt : k < len
    · obtain ⟨am, cm, bm, om, ap, cp, bp, op, hl⟩ := HR.out.link k hlt
      obtain ⟨hada, hbB⟩ := HR.out.at_ (by omega)
      subst hada
      have x21 := hl.c21
      have x22 := hl.c22
      have hm1 := hl.mrow.lc
      have hm2 := hl.mrow.cm
      have hp1 := hl.prow.lc
      have hp2 := hl.prow.cm
      unfold maxLen at hm2 hp2
      generalize (f k).missed.length = nm at *
      generalize (f k).pending.length = np at *
      clear hl
      go_wp2
      all_goals try (go_ret; exact ⟨_, rfl, rfl⟩)
      go_roundw
      case rel => exact ⟨k + 1, _, by omega, by go_num, rfl, by omega, by omega, by first | rfl | trivial⟩
      case measure => simp [intOf]; omega
    · obtain rfl : k = len := by omega
      clear HR
      go_wp2_with fail
      all_goals try (go_ret; exact ⟨_, rfl, rfl⟩)
      go_loopw [13, 15] (fun s13 s15 wx => ∃ (i : Nat) (t : Int), i ≤ len' ∧ s15 = .int .i64 i ∧ s13 = .int .i64 t ∧ 0 ≤ t ∧ t ≤ 1048576 ∧ wx = wr) (fun _ s15 _ => len' - (intOf s15).toNat)
      case atStart => exact ⟨0, _, Nat.zero_le _, rfl, rfl, by omega, by omega, rfl⟩
      case round =>
        obtain ⟨i, t, hi, rfl, rfl, ht0, ht1, rfl⟩ := hrel
        by_cases hlt' : i < len'
        · go_wp2
          all_goals try (go_ret; exact ⟨_, rfl, rfl⟩)
          go_roundw
          case rel => exact ⟨i + 1, _, by omega, by go_num, rfl, by omega, by omega, by first | rfl | trivial⟩
          case measure => simp [intOf]; omega
        · obtain rfl : i = len' := by omega
          go_wp2
          go_ret
          exact ⟨_, rfl, rfl⟩

/-- What the size check leaves known. -/
structure Sized (len len' : Nat) (f : Nat → Lk) : Prop where
  l : len ≤ 4096
  g : len' ≤ 16384
  m : ∀ i, i < len → (f i).missed.length ≤ 65536
  p : ∀ i, i < len → (f i).pending.length ≤ 65536

set_option maxHeartbeats 8000000 in
set_option maxRecDepth 10000 in
theorem sizeOK_any (B : Nat) (a : Option Addr) (len cap b o : Nat) (f : Nat → Lk) (a' : Option Addr) (len' cap' b' o' : Nat) (g : Nat → Nat → Int) (w : World) (hR : LRow B w a len cap b o f) (hR' : GRow B w a' len' cap' b' o' g) (hB : B ≤ w.heap.size) :
    Calls Try.prog 8 #[.slice a len cap, .slice a' len' cap'] w fun e w' => (e = .returned (.bool false) ∨ (e = .returned (.bool true) ∧ Sized len len' f)) ∧ Below w.heap.size w w' := by
  have hlc := hR.lc
  have hcm := hR.cm
  have hlc' := hR'.lc
  have hcm' := hR'.cm
  unfold maxLen at hcm hcm'
  have HR : Hid (LRow B w a len cap b o f) := hR
  clear hR hR'
  by_cases h1 : len ≤ 4096
  · by_cases h2 : len' ≤ 16384
    · have d1 : decide ((4096 : Int) < (len : Int)) = false := by simp; omega
      have d2 : decide ((16384 : Int) < (len' : Int)) = false := by simp; omega
      go_enter Try.func8, Try.ntmps8
      go_wp2_with fail
      clear d1 d2
      go_loopw [5, 24] (fun s5 s24 wr => ∃ (k : Nat) (t : Int), k ≤ len ∧ s24 = .int .i64 k ∧ s5 = .int .i64 t ∧ 0 ≤ t ∧ t ≤ 1048576 ∧ (∀ i, i < k → (f i).missed.length ≤ 65536 ∧ (f i).pending.length ≤ 65536) ∧ Below w.heap.size w wr) (fun _ s24 _ => len - (intOf s24).toNat)
      case atStart => exact ⟨0, _, Nat.zero_le _, rfl, rfl, by omega, by omega, fun i hi => absurd hi (by omega), Below.refl _ _⟩
      case round =>
        obtain ⟨k, t, hk, rfl, rfl, ht0, ht1, hall, hBel⟩ := hrel
        have HA : Hid _ := hall
        have HBl : Hid (Below w.heap.size w wr) := hBel
        clear hall
        by_cases hlt : k < len
        · obtain ⟨am, cm, bm, om, ap, cp, bp, op, hl⟩ := (HR.out.kept (hBel.mono hB)).link k hlt
          obtain ⟨hada, hbB⟩ := HR.out.at_ (by omega)
          subst hada
          have x21 := hl.c21
          have x22 := hl.c22
          have hm1 := hl.mrow.lc
          have hm2 := hl.mrow.cm
          have hp1 := hl.prow.lc
          have hp2 := hl.prow.cm
          unfold maxLen at hm2 hp2
          have HN : Hid (∀ nm np, (f k).missed.length = nm → (f k).pending.length = np → nm ≤ 65536 → np ≤ 65536 → ∀ i, i < k + 1 → (f i).missed.length ≤ 65536 ∧ (f i).pending.length ≤ 65536) := fun nm np e1 e2 q1 q2 i hi => by
            by_cases e : i = k
            · subst e
              rw [e1, e2]
              exact ⟨q1, q2⟩
            · exact HA.out i (by omega)
          obtain ⟨nm, hnm⟩ : ∃ nm, nm = (f k).missed.length := ⟨_, rfl⟩
          obtain ⟨np, hnp⟩ : ∃ np, np = (f k).pending.length := ⟨_, rfl⟩
          rw [← hnm] at x21 hm1
          rw [← hnp] at x22 hp1
          have HQ : Hid ((f k).missed.length = nm ∧ (f k).pending.length = np) := ⟨hnm.symm, hnp.symm⟩
          clear hl hnm hnp hBel
          by_cases q1 : nm ≤ 65536
          · have d1 : decide ((65536 : Int) < (nm : Int)) = false := by simp; omega
            by_cases q2 : np ≤ 65536
            · have d2 : decide ((65536 : Int) < (np : Int)) = false := by simp; omega
              go_wp2_with fail
              go_quiet (fail)
              clear d1 d2
              go_wp2
              · go_ret
                exact ⟨.inl rfl, Only.below (S := fun _ => False) ((Only.ofBelow HBl.out).drewN nq) (Nat.le_refl _) (fun _ hf => hf.elim)⟩
              · go_roundw
                case rel => exact ⟨k + 1, _, by omega, by go_num, rfl, by omega, by omega, HN.out nm np HQ.out.1 HQ.out.2 q1 q2, Only.below (S := fun _ => False) ((Only.ofBelow HBl.out).drewN nq) (Nat.le_refl _) (fun _ hf => hf.elim)⟩
                case measure => simp [intOf]; omega
            · go_wp2
              go_ret
              exact ⟨.inl rfl, HBl.out⟩
          · go_wp2
            go_ret
            exact ⟨.inl rfl, HBl.out⟩
        · obtain rfl : k = len := by omega
          go_wp2
          go_ret
          exact ⟨.inr ⟨rfl, h1, h2, fun i hi => (HA.out i hi).1, fun i hi => (HA.out i hi).2⟩, HBl.out⟩
    · have d1 : decide ((4096 : Int) < (len : Int)) = false := by simp; omega
      go_enter Try.func8, Try.ntmps8
      go_wp2
      go_ret
      exact ⟨.inl rfl, Below.refl _ _⟩
  · go_enter Try.func8, Try.ntmps8
    go_wp2
    go_ret
    exact ⟨.inl rfl, Below.refl _ _⟩

end Go.Proofs.Qxb6613544a
