/-
  THE BOUND LAID BY PROGRAM: it answers some bool; nothing turns.
-/
import Derived.Test.Qxb6613313aData
namespace Go.Proofs.Qxb6613313a
open Go.RowKit

/-- The call gives some bool. -/
def GivesBool (e : Ending) : Prop := ∃ x, e = .returned (.bool x)
theorem GivesBool.mk (x : Bool) : GivesBool (.returned (.bool x)) := ⟨x, rfl⟩

set_option maxHeartbeats 4000000 in
set_option maxRecDepth 10000 in
theorem bytes20_any (B : Nat) (a : Option Addr) (len cap b o : Nat) (es : List Ex) (key : Int) (w : World) (hE : ERow B w a len cap b o es) :
    Calls Try.prog 20 #[.slice a len cap, .int .i64 key] w fun e w' => GivesBool e ∧ w = w' := by
  obtain ⟨hl, hlc, hcm, ha, hc⟩ := hE
  unfold maxLen at hcm
  by_cases h1 : (1048576 : Int) < (len : Int)
  · go_enter Try.func20, Try.ntmps20
    go_wp2
    go_ret
    exact ⟨GivesBool.mk _, rfl⟩
  · go_enter Try.func20, Try.ntmps20
    go_wp2
    go_loop [5, 6] (fun n i => ∃ (k : Nat) (v : Int), k ≤ len ∧ i = .int .i64 k ∧ n = .int .i64 v) (fun _ i => len - (intOf i).toNat)
    case atStart => exact ⟨0, _, Nat.zero_le _, rfl, rfl⟩
    case round =>
      obtain ⟨k, v, hk, rfl, rfl⟩ := hrel
      by_cases hlt : k < len
      · obtain ⟨ha', hbB⟩ := ha (by omega)
        subst ha'
        obtain ⟨a', len', cap', b', o', c0, ⟨hl', hlc', hcm', ha2, hc'⟩, c1, c2⟩ := hc k hlt
        generalize es.getD k Ex.zero = x at *
        unfold maxLen at hcm'
        clear hc ha
        go_wp2
        · go_ret
          exact ⟨GivesBool.mk _, rfl⟩
        · go_ret
          exact ⟨GivesBool.mk _, rfl⟩
        · go_loop [5, 7] (fun n i => ∃ (k : Nat) (v : Int), k ≤ len' ∧ i = .int .i64 k ∧ n = .int .i64 v) (fun _ i => len' - (intOf i).toNat)
          case atStart => exact ⟨0, _, Nat.zero_le _, rfl, rfl⟩
          case round =>
            obtain ⟨m, u, hm, rfl, rfl⟩ := hrel
            by_cases hlt2 : m < len'
            · obtain ⟨ha2', _⟩ := ha2 (by omega)
              subst ha2'
              have d0 := hc' m hlt2
              generalize x.attr.getD m ⟨#[]⟩ = y at *
              clear hc' ha2
              go_wp2
              · go_ret
                exact ⟨GivesBool.mk _, rfl⟩
              · go_ret
                exact ⟨GivesBool.mk _, rfl⟩
              · go_round
                case rel => exact ⟨m + 1, _, by omega, by go_num, rfl⟩
                case measure => simp [intOf]; omega
            · clear hc' ha2
              go_wp2
              · go_ret
                exact ⟨GivesBool.mk _, rfl⟩
              · go_ret
                exact ⟨GivesBool.mk _, rfl⟩
              · go_ret
                exact ⟨GivesBool.mk _, rfl⟩
              · go_ret
                exact ⟨GivesBool.mk _, rfl⟩
              · go_round
                case rel => exact ⟨k + 1, _, by omega, by go_num, rfl⟩
                case measure => simp [intOf]; omega
      · go_wp2
        go_ret
        exact ⟨GivesBool.mk _, rfl⟩

end Go.Proofs.Qxb6613313a
