/-
  THE BOUNDS: each answers some bool; nothing turns.
-/
import Derived.Test.Qxb6613079aPuts
namespace Go.Proofs.Qxb6613079a
open Go.RowKit

/-- The call gives some bool. -/
def GivesBool (e : Ending) : Prop := ∃ x, e = .returned (.bool x)
theorem GivesBool.mk (x : Bool) : GivesBool (.returned (.bool x)) := ⟨x, rfl⟩

set_option maxHeartbeats 1000000 in
theorem bytes17_any (a : Option Addr) (len cap : Nat) (b off : Nat) (cs : List Cl) (key : Int) (c : Cl) (w : World) (hR : Row w a len b off cs) :
    Calls Try.prog 17 #[.slice a len cap, .int .i64 key, c.val] w fun e w' => GivesBool e ∧ w.grownBy w' none := by
  obtain ⟨hl, ha, hc⟩ := hR
  unfold maxLen at hl
  unfold Cl.val
  by_cases h1 : (1048576 : Int) < (len : Int)
  · go_enter Try.func17, Try.ntmps17
    go_wp2
    go_ret
    exact ⟨GivesBool.mk _, World.grownBy_alloc _ _ _⟩
  · go_enter Try.func17, Try.ntmps17
    go_wp2
    go_loop [7, 8] (fun n i => ∃ (k : Nat) (v : Int), k ≤ len ∧ i = .int .i64 k ∧ n = .int .i64 v) (fun _ i => len - (intOf i).toNat)
    case atStart => exact ⟨0, _, Nat.zero_le _, rfl, rfl⟩
    case round =>
      obtain ⟨k, v, hk, rfl, rfl⟩ := hrel
      by_cases hlt : k < len
      · obtain ⟨c0, c1, c2, c3⟩ := hc k hlt
        have ha' := ha (by omega)
        subst ha'
        have d2 := (World.grownBy_alloc w (.cells #[.int .i64 c.key, .int .u8 c.kind, .string c.text, .int .i64 c.num] 36) none).cell c2 (by simp)
        clear hc ha c0 c1 c2 c3
        go_wp2
        · go_ret
          exact ⟨GivesBool.mk _, World.grownBy_alloc _ _ _⟩
        · go_ret
          exact ⟨GivesBool.mk _, World.grownBy_alloc _ _ _⟩
        · go_round
          case rel => exact ⟨k + 1, _, by omega, by go_num, rfl⟩
          case measure => simp [intOf]; omega
      · go_wp2
        all_goals go_ret
        all_goals exact ⟨GivesBool.mk _, World.grownBy_alloc _ _ _⟩

set_option maxHeartbeats 1000000 in
theorem bytes26_any (a : Option Addr) (len cap : Nat) (b off : Nat) (cs : List Cl) (key : Int) (s : ByteArray) (w : World) (hR : Row w a len b off cs) :
    Calls Try.prog 26 #[.slice a len cap, .int .i64 key, .string s] w fun e w' => GivesBool e ∧ w.grownBy w' none := by
  obtain ⟨hl, ha, hc⟩ := hR
  unfold maxLen at hl
  by_cases h1 : (1048576 : Int) < (len : Int)
  · go_enter Try.func26, Try.ntmps26
    go_wp2
    go_ret
    exact ⟨GivesBool.mk _, World.grownBy.refl _ _⟩
  · go_enter Try.func26, Try.ntmps26
    go_wp2
    go_loop [7, 8] (fun n i => ∃ (k : Nat) (v : Int), k ≤ len ∧ i = .int .i64 k ∧ n = .int .i64 v) (fun _ i => len - (intOf i).toNat)
    case atStart => exact ⟨0, _, Nat.zero_le _, rfl, rfl⟩
    case round =>
      obtain ⟨k, v, hk, rfl, rfl⟩ := hrel
      by_cases hlt : k < len
      · obtain ⟨c0, c1, c2, c3⟩ := hc k hlt
        have ha' := ha (by omega)
        subst ha'
        clear hc ha c0 c1 c3
        go_wp2
        · go_ret
          exact ⟨GivesBool.mk _, World.grownBy.refl _ _⟩
        · go_ret
          exact ⟨GivesBool.mk _, World.grownBy.refl _ _⟩
        · go_round
          case rel => exact ⟨k + 1, _, by omega, by go_num, rfl⟩
          case measure => simp [intOf]; omega
      · go_wp2
        all_goals go_ret
        all_goals exact ⟨GivesBool.mk _, World.grownBy.refl _ _⟩

set_option maxHeartbeats 1000000 in
theorem bytes29_any (a : Option Addr) (len cap : Nat) (b off : Nat) (cs : List Cl)  (c : Cl) (w : World) (hR : Row w a len b off cs) :
    Calls Try.prog 29 #[.slice a len cap, c.val] w fun e w' => GivesBool e ∧ w.grownBy w' none := by
  obtain ⟨hl, ha, hc⟩ := hR
  unfold maxLen at hl
  unfold Cl.val
  by_cases h1 : (1048576 : Int) < (len : Int)
  · go_enter Try.func29, Try.ntmps29
    go_wp2
    go_ret
    exact ⟨GivesBool.mk _, World.grownBy_alloc _ _ _⟩
  · go_enter Try.func29, Try.ntmps29
    go_wp2
    go_loop [5, 6] (fun n i => ∃ (k : Nat) (v : Int), k ≤ len ∧ i = .int .i64 k ∧ n = .int .i64 v) (fun _ i => len - (intOf i).toNat)
    case atStart => exact ⟨0, _, Nat.zero_le _, rfl, rfl⟩
    case round =>
      obtain ⟨k, v, hk, rfl, rfl⟩ := hrel
      by_cases hlt : k < len
      · obtain ⟨c0, c1, c2, c3⟩ := hc k hlt
        have ha' := ha (by omega)
        subst ha'
        have d2 := (World.grownBy_alloc w (.cells #[.int .i64 c.key, .int .u8 c.kind, .string c.text, .int .i64 c.num] 36) none).cell c2 (by simp)
        clear hc ha c0 c1 c2 c3
        go_wp2
        · go_ret
          exact ⟨GivesBool.mk _, World.grownBy_alloc _ _ _⟩
        · go_ret
          exact ⟨GivesBool.mk _, World.grownBy_alloc _ _ _⟩
        · go_round
          case rel => exact ⟨k + 1, _, by omega, by go_num, rfl⟩
          case measure => simp [intOf]; omega
      · go_wp2
        all_goals go_ret
        all_goals exact ⟨GivesBool.mk _, World.grownBy_alloc _ _ _⟩

set_option maxHeartbeats 1000000 in
theorem bytes31_any (a : Option Addr) (len cap : Nat) (b off : Nat) (cs : List Cl)  (s : ByteArray) (w : World) (hR : Row w a len b off cs) :
    Calls Try.prog 31 #[.slice a len cap, .string s] w fun e w' => GivesBool e ∧ w.grownBy w' none := by
  obtain ⟨hl, ha, hc⟩ := hR
  unfold maxLen at hl
  by_cases h1 : (1048576 : Int) < (len : Int)
  · go_enter Try.func31, Try.ntmps31
    go_wp2
    go_ret
    exact ⟨GivesBool.mk _, World.grownBy.refl _ _⟩
  · go_enter Try.func31, Try.ntmps31
    go_wp2
    go_loop [5, 6] (fun n i => ∃ (k : Nat) (v : Int), k ≤ len ∧ i = .int .i64 k ∧ n = .int .i64 v) (fun _ i => len - (intOf i).toNat)
    case atStart => exact ⟨0, _, Nat.zero_le _, rfl, rfl⟩
    case round =>
      obtain ⟨k, v, hk, rfl, rfl⟩ := hrel
      by_cases hlt : k < len
      · obtain ⟨c0, c1, c2, c3⟩ := hc k hlt
        have ha' := ha (by omega)
        subst ha'
        clear hc ha c0 c1 c3
        go_wp2
        · go_ret
          exact ⟨GivesBool.mk _, World.grownBy.refl _ _⟩
        · go_ret
          exact ⟨GivesBool.mk _, World.grownBy.refl _ _⟩
        · go_round
          case rel => exact ⟨k + 1, _, by omega, by go_num, rfl⟩
          case measure => simp [intOf]; omega
      · go_wp2
        all_goals go_ret
        all_goals exact ⟨GivesBool.mk _, World.grownBy.refl _ _⟩

end Go.Proofs.Qxb6613079a
