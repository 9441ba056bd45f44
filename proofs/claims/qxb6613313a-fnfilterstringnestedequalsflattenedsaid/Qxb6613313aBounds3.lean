/-
  THE BOUND LAID BY PROGRAM OVER THREE ROWS: it answers some bool; nothing turns.
-/
import Derived.Test.Qxb6613313aBounds
namespace Go.Proofs.Qxb6613313a
open Go.RowKit

set_option maxHeartbeats 20000000 in
set_option maxRecDepth 20000 in
theorem bytes25_any (B : Nat) (a0 a1 a2 : Option Addr) (l0 c0 b0 o0 l1 c1 b1 o1 l2 c2 b2 o2 : Nat) (es0 es1 es2 : List Ex) (p q : ByteArray) (w : World)
    (hE0 : ERow B w a0 l0 c0 b0 o0 es0) (hE1 : ERow B w a1 l1 c1 b1 o1 es1) (hE2 : ERow B w a2 l2 c2 b2 o2 es2) :
    Calls Try.prog 25 #[.slice a0 l0 c0, .string p, .slice a1 l1 c1, .string q, .slice a2 l2 c2] w fun e w' => GivesBool e ∧ w = w' := by
  obtain ⟨hl0, hlc0, hcm0, ha0, hc0⟩ := hE0
  obtain ⟨hl1, hlc1, hcm1, ha1, hc1⟩ := hE1
  obtain ⟨hl2, hlc2, hcm2, ha2, hc2⟩ := hE2
  unfold maxLen at hcm0 hcm1 hcm2
  clear hl0 hl1 hl2
  by_cases h1 : (1048576 : Int) < (l0 : Int)
  · go_enter Try.func25, Try.ntmps25
    go_wp2
    go_ret
    exact ⟨GivesBool.mk _, rfl⟩
  · go_enter Try.func25, Try.ntmps25
    go_wp2
    go_loop [11, 12] (fun n i => ∃ (k : Nat) (v : Int), k ≤ l0 ∧ i = .int .i64 k ∧ n = .int .i64 v) (fun _ i => l0 - (intOf i).toNat)
    case atStart => exact ⟨0, _, Nat.zero_le _, rfl, rfl⟩
    case round =>
      obtain ⟨k, v, hk, rfl, rfl⟩ := hrel
      by_cases hlt : k < l0
      · obtain ⟨ha', hbB⟩ := ha0 (by omega)
        subst ha'
        obtain ⟨a', len', cap', b', o', e0, ⟨hl', hlc', hcm', hax, hc'⟩, e1, e2⟩ := hc0 k hlt
        generalize es0.getD k Ex.zero = x at e0 e1 e2 hc' hl'
        unfold maxLen at hcm'
        go_wp2
        · go_ret
          exact ⟨GivesBool.mk _, rfl⟩
        · go_ret
          exact ⟨GivesBool.mk _, rfl⟩
        · go_loop [11, 13] (fun n i => ∃ (k : Nat) (v : Int), k ≤ len' ∧ i = .int .i64 k ∧ n = .int .i64 v) (fun _ i => len' - (intOf i).toNat)
          case atStart => exact ⟨0, _, Nat.zero_le _, rfl, rfl⟩
          case round =>
            obtain ⟨m, u, hm, rfl, rfl⟩ := hrel
            by_cases hlt2 : m < len'
            · obtain ⟨hax', _⟩ := hax (by omega)
              subst hax'
              have d0 := hc' m hlt2
              generalize x.attr.getD m ⟨#[]⟩ = y at d0
              go_wp2
              · go_ret
                exact ⟨GivesBool.mk _, rfl⟩
              · go_ret
                exact ⟨GivesBool.mk _, rfl⟩
              · go_round
                case rel => exact ⟨m + 1, _, by omega, by go_num, rfl⟩
                case measure => simp [intOf]; omega
            · go_wp2
              · go_ret
                exact ⟨GivesBool.mk _, rfl⟩
              · go_ret
                exact ⟨GivesBool.mk _, rfl⟩
              · go_ret
                exact ⟨GivesBool.mk _, rfl⟩
              · go_ret
                exact ⟨GivesBool.mk _, rfl⟩
              · go_round
                case rel => exact ⟨k + 1, _, by omega, by go_num, rfl⟩
                case measure => simp [intOf]; omega
      · clear hc0 ha0
        go_wp2
        · go_ret
          exact ⟨GivesBool.mk _, rfl⟩
        · go_ret
          exact ⟨GivesBool.mk _, rfl⟩
        · go_ret
          exact ⟨GivesBool.mk _, rfl⟩
        · go_ret
          exact ⟨GivesBool.mk _, rfl⟩
        · go_loop [11, 14] (fun n i => ∃ (k : Nat) (v : Int), k ≤ l1 ∧ i = .int .i64 k ∧ n = .int .i64 v) (fun _ i => l1 - (intOf i).toNat)
          case atStart => exact ⟨0, _, Nat.zero_le _, rfl, rfl⟩
          case round =>
            obtain ⟨k, v, hk, rfl, rfl⟩ := hrel
            by_cases hlt : k < l1
            · obtain ⟨ha', hbB⟩ := ha1 (by omega)
              subst ha'
              obtain ⟨a', len', cap', b', o', e0, ⟨hl', hlc', hcm', hax, hc'⟩, e1, e2⟩ := hc1 k hlt
              generalize es1.getD k Ex.zero = x at e0 e1 e2 hc' hl'
              unfold maxLen at hcm'
              go_wp2
              · go_ret
                exact ⟨GivesBool.mk _, rfl⟩
              · go_ret
                exact ⟨GivesBool.mk _, rfl⟩
              · go_loop [11, 15] (fun n i => ∃ (k : Nat) (v : Int), k ≤ len' ∧ i = .int .i64 k ∧ n = .int .i64 v) (fun _ i => len' - (intOf i).toNat)
                case atStart => exact ⟨0, _, Nat.zero_le _, rfl, rfl⟩
                case round =>
                  obtain ⟨m, u, hm, rfl, rfl⟩ := hrel
                  by_cases hlt2 : m < len'
                  · obtain ⟨hax', _⟩ := hax (by omega)
                    subst hax'
                    have d0 := hc' m hlt2
                    generalize x.attr.getD m ⟨#[]⟩ = y at d0
                    go_wp2
                    · go_ret
                      exact ⟨GivesBool.mk _, rfl⟩
                    · go_ret
                      exact ⟨GivesBool.mk _, rfl⟩
                    · go_round
                      case rel => exact ⟨m + 1, _, by omega, by go_num, rfl⟩
                      case measure => simp [intOf]; omega
                  · go_wp2
                    · go_ret
                      exact ⟨GivesBool.mk _, rfl⟩
                    · go_ret
                      exact ⟨GivesBool.mk _, rfl⟩
                    · go_ret
                      exact ⟨GivesBool.mk _, rfl⟩
                    · go_ret
                      exact ⟨GivesBool.mk _, rfl⟩
                    · go_round
                      case rel => exact ⟨k + 1, _, by omega, by go_num, rfl⟩
                      case measure => simp [intOf]; omega
            · clear hc1 ha1
              go_wp2
              · go_ret
                exact ⟨GivesBool.mk _, rfl⟩
              · go_ret
                exact ⟨GivesBool.mk _, rfl⟩
              · go_ret
                exact ⟨GivesBool.mk _, rfl⟩
              · go_ret
                exact ⟨GivesBool.mk _, rfl⟩
              · go_loop [11, 16] (fun n i => ∃ (k : Nat) (v : Int), k ≤ l2 ∧ i = .int .i64 k ∧ n = .int .i64 v) (fun _ i => l2 - (intOf i).toNat)
                case atStart => exact ⟨0, _, Nat.zero_le _, rfl, rfl⟩
                case round =>
                  obtain ⟨k, v, hk, rfl, rfl⟩ := hrel
                  by_cases hlt : k < l2
                  · obtain ⟨ha', hbB⟩ := ha2 (by omega)
                    subst ha'
                    obtain ⟨a', len', cap', b', o', e0, ⟨hl', hlc', hcm', hax, hc'⟩, e1, e2⟩ := hc2 k hlt
                    generalize es2.getD k Ex.zero = x at e0 e1 e2 hc' hl'
                    unfold maxLen at hcm'
                    go_wp2
                    · go_ret
                      exact ⟨GivesBool.mk _, rfl⟩
                    · go_ret
                      exact ⟨GivesBool.mk _, rfl⟩
                    · go_loop [11, 17] (fun n i => ∃ (k : Nat) (v : Int), k ≤ len' ∧ i = .int .i64 k ∧ n = .int .i64 v) (fun _ i => len' - (intOf i).toNat)
                      case atStart => exact ⟨0, _, Nat.zero_le _, rfl, rfl⟩
                      case round =>
                        obtain ⟨m, u, hm, rfl, rfl⟩ := hrel
                        by_cases hlt2 : m < len'
                        · obtain ⟨hax', _⟩ := hax (by omega)
                          subst hax'
                          have d0 := hc' m hlt2
                          generalize x.attr.getD m ⟨#[]⟩ = y at d0
                          go_wp2
                          · go_ret
                            exact ⟨GivesBool.mk _, rfl⟩
                          · go_ret
                            exact ⟨GivesBool.mk _, rfl⟩
                          · go_round
                            case rel => exact ⟨m + 1, _, by omega, by go_num, rfl⟩
                            case measure => simp [intOf]; omega
                        · go_wp2
                          · go_ret
                            exact ⟨GivesBool.mk _, rfl⟩
                          · go_ret
                            exact ⟨GivesBool.mk _, rfl⟩
                          · go_ret
                            exact ⟨GivesBool.mk _, rfl⟩
                          · go_ret
                            exact ⟨GivesBool.mk _, rfl⟩
                          · go_round
                            case rel => exact ⟨k + 1, _, by omega, by go_num, rfl⟩
                            case measure => simp [intOf]; omega
                  · go_wp2
                    go_ret
                    exact ⟨GivesBool.mk _, rfl⟩

end Go.Proofs.Qxb6613313a
