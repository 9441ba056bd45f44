/-
  THE READERS: Get, Claims, textClaim, Subject; a claim's value; a claim put.
-/
import Derived.Test.Qxb6613079aPlain
import Derived.Test.Qxb6613079aSmall
namespace Go.Proofs.Qxb6613079a
open Go.RowKit

/-- The two results of a look-up. -/
def got : Option Value → Value
  | some v => v
  | none => .nilIface
def isThere : Option Value → Bool
  | some _ => true
  | none => false

theorem okOf_eq (x : Option Value) : okOf x = .tuple #[got x, .bool (isThere x)] := by cases x <;> rfl

set_option maxHeartbeats 400000 in
theorem get_any (w : World) (b : Nat) (m : Int → Option Value) (k : Int) (h : IMap w b m) :
    Calls Try.prog 38 #[.map (some b), .int .i64 k] w fun e w' => e = .returned (.tuple #[got (m k), .bool (isThere (m k))]) ∧ w' = w := by
  have hr := h.lookup k
  rw [okOf_eq] at hr
  unfold ikey at hr
  go_enter Try.func38, Try.ntmps38
  go_wp2
  go_ret2
  exact ⟨rfl, rfl⟩

set_option maxHeartbeats 400000 in
theorem get_nil (w : World) (k : Int) :
    Calls Try.prog 38 #[.map none, .int .i64 k] w fun e w' => e = .returned (.tuple #[.nilIface, .bool false]) ∧ w' = w := by
  have hr := lookup_nil k w
  rw [okOf_eq] at hr
  unfold ikey at hr
  simp only [got, isThere] at hr
  go_enter Try.func38, Try.ntmps38
  go_wp2
  go_ret2
  exact ⟨rfl, rfl⟩

theorem ta41_yes (v : Value) (w : World) : (Instr.typeAssert (.iface 41 v) 20 41 true).run Try.prog w = .ok (.tuple #[v, .bool true]) w := by kernel_rfl
theorem ta41_nil (w : World) : (Instr.typeAssert .nilIface 20 41 true).run Try.prog w = .ok (.tuple #[.map none, .bool false]) w := by kernel_rfl
theorem ta41_no (v : Value) (w : World) : (Instr.typeAssert (.iface 9 v) 20 41 true).run Try.prog w = .ok (.tuple #[.map none, .bool false]) w := by kernel_rfl
theorem ta9_yes (v : Value) (w : World) : (Instr.typeAssert (.iface 9 v) 20 9 true).run Try.prog w = .ok (.tuple #[v, .bool true]) w := by kernel_rfl
theorem ta9_nil (w : World) : (Instr.typeAssert .nilIface 20 9 true).run Try.prog w = .ok (.tuple #[.string ⟨#[]⟩, .bool false]) w := by kernel_rfl
theorem ta9_no2 (v : Value) (w : World) : (Instr.typeAssert (.iface 2 v) 20 9 true).run Try.prog w = .ok (.tuple #[.string ⟨#[]⟩, .bool false]) w := by kernel_rfl
theorem ta9_no4 (v : Value) (w : World) : (Instr.typeAssert (.iface 4 v) 20 9 true).run Try.prog w = .ok (.tuple #[.string ⟨#[]⟩, .bool false]) w := by kernel_rfl

set_option maxHeartbeats 400000 in
theorem claims_yes (w : World) (mb pb hb : Nat) (M : Int → Option Value) (hc : w.cell? ⟨mb, 2, none⟩ = some (.map (some pb))) (h : IMap w pb M) (hM : M 15 = some (.iface 41 (.map (some hb)))) :
    Calls Try.prog 39 #[.pointer (some ⟨mb, 0, none⟩)] w fun e w' => e = .returned (.map (some hb)) ∧ w' = w := by
  have ht := fun v w => ta41_yes v w
  go_enter Try.func39, Try.ntmps39
  go_wp2_with fail
  refine (get_any w pb M 15 h).mono ?_
  rw [hM]
  rintro e w' ⟨rfl, rfl⟩
  simp only [got, isThere]
  go_wp2
  go_ret
  exact ⟨rfl, rfl⟩

/-- Label 15 holds nothing, or a text: no claims. -/
def NoClaims (x : Option Value) : Prop := x = none ∨ ∃ v, x = some (.iface 9 v)

set_option maxHeartbeats 400000 in
theorem claims_no (w : World) (mb pb : Nat) (M : Int → Option Value) (hc : w.cell? ⟨mb, 2, none⟩ = some (.map (some pb))) (h : IMap w pb M) (hM : NoClaims (M 15)) :
    Calls Try.prog 39 #[.pointer (some ⟨mb, 0, none⟩)] w fun e w' => e = .returned (.map none) ∧ w' = w := by
  have ht := fun v w => ta41_no v w
  have hn := fun w => ta41_nil w
  rcases hM with hM | ⟨v, hM⟩
  all_goals
    go_enter Try.func39, Try.ntmps39
    go_wp2_with fail
    refine (get_any w pb M 15 h).mono ?_
    rw [hM]
    rintro e w' ⟨rfl, rfl⟩
    simp only [got, isThere]
    go_wp2
    go_ret
    exact ⟨rfl, rfl⟩

set_option maxHeartbeats 1000000 in
theorem textClaim_yes (w : World) (mb pb hb : Nat) (M m : Int → Option Value) (k : Int) (hc : w.cell? ⟨mb, 2, none⟩ = some (.map (some pb))) (h : IMap w pb M) (hM : M 15 = some (.iface 41 (.map (some hb)))) (hm : IMap w hb m) (hp : IsPlace (m k)) :
    Calls Try.prog 35 #[.pointer (some ⟨mb, 0, none⟩), .int .i64 k] w fun e w' => e = .returned (.tuple #[.string (vtext (m k)), .bool (vok (m k))]) ∧ w' = w := by
  have t1 := fun v w => ta9_yes v w
  have t2 := fun w => ta9_nil w
  have t3 := fun v w => ta9_no2 v w
  have t4 := fun v w => ta9_no4 v w
  rcases hp with hp | ⟨s, hp⟩ | ⟨n, hp⟩ | ⟨b, hp⟩
  all_goals
    have hg := get_any w hb m k hm
    rw [hp] at hg ⊢
    simp only [got, isThere, vtext, vok] at hg ⊢
    go_enter Try.func35, Try.ntmps35
    go_wp2_with fail
    refine (claims_yes w mb pb hb M hc h hM).mono ?_
    rintro e w' ⟨rfl, rfl⟩
    go_wp2_with fail
    refine hg.mono ?_
    rintro e w' ⟨rfl, rfl⟩
    clear hg
    go_wp2
    go_ret2
    exact ⟨rfl, rfl⟩

set_option maxHeartbeats 400000 in
theorem textClaim_no (w : World) (mb pb : Nat) (M : Int → Option Value) (k : Int) (hc : w.cell? ⟨mb, 2, none⟩ = some (.map (some pb))) (h : IMap w pb M) (hM : NoClaims (M 15)) :
    Calls Try.prog 35 #[.pointer (some ⟨mb, 0, none⟩), .int .i64 k] w fun e w' => e = .returned (.tuple #[.string ⟨#[]⟩, .bool false]) ∧ w' = w := by
  have t2 := fun w => ta9_nil w
  go_enter Try.func35, Try.ntmps35
  go_wp2_with fail
  refine (claims_no w mb pb M hc h hM).mono ?_
  rintro e w' ⟨rfl, rfl⟩
  go_wp2_with fail
  refine (get_nil _ k).mono ?_
  rintro e w' ⟨rfl, rfl⟩
  go_wp2
  go_ret2
  exact ⟨rfl, rfl⟩

set_option maxHeartbeats 400000 in
theorem zzText_of (w : World) (p : Value) (k : Int) (s : ByteArray) (x : Bool)
    (h : Calls Try.prog 35 #[p, .int .i64 k] w fun e w' => e = .returned (.tuple #[.string s, .bool x]) ∧ w' = w) :
    Calls Try.prog 23 #[p, .int .i64 k] w fun e w' => e = .returned (.tuple #[.string s, .bool x]) ∧ w' = w := by
  have H : Hid (Calls Try.prog 35 #[p, .int .i64 k] w fun e w' => e = .returned (.tuple #[.string s, .bool x]) ∧ w' = w) := h
  clear h
  go_enter Try.func23, Try.ntmps23
  go_wp2_with fail
  refine H.out.mono ?_
  rintro e w' ⟨rfl, rfl⟩
  go_wp2
  go_ret2
  exact ⟨rfl, rfl⟩

set_option maxHeartbeats 400000 in
theorem subject_of (w : World) (p : Value) (s : ByteArray) (x : Bool)
    (h : Calls Try.prog 35 #[p, .int .i64 2] w fun e w' => e = .returned (.tuple #[.string s, .bool x]) ∧ w' = w) :
    Calls Try.prog 30 #[p] w fun e w' => e = .returned (.tuple #[.string s, .bool x]) ∧ w' = w := by
  have H : Hid (Calls Try.prog 35 #[p, .int .i64 2] w fun e w' => e = .returned (.tuple #[.string s, .bool x]) ∧ w' = w) := h
  clear h
  go_enter Try.func30, Try.ntmps30
  go_wp2_with fail
  refine H.out.mono ?_
  rintro e w' ⟨rfl, rfl⟩
  go_wp2
  go_ret2
  exact ⟨rfl, rfl⟩

set_option maxHeartbeats 400000 in
theorem claimValue_any (c : Cl) (w : World) :
    Calls Try.prog 25 #[c.val] w fun e w' => e = .returned (.tuple #[.string (ctext c), .bool (cok c)]) ∧ w.grownBy w' none := by
  unfold Cl.val ctext cok
  by_cases h0 : c.kind = 0
  · rw [if_pos h0, if_pos h0]
    go_enter Try.func25, Try.ntmps25
    go_wp2
    go_ret2
    exact ⟨rfl, World.grownBy_alloc _ _ _⟩
  · rw [if_neg h0, if_neg h0]
    go_enter Try.func25, Try.ntmps25
    go_wp2
    go_ret2
    exact ⟨rfl, World.grownBy_alloc _ _ _⟩

set_option maxHeartbeats 400000 in
theorem addText_any (t : Int) (s : ByteArray) (w : World) :
    Calls Try.prog 11 #[.int .i64 t, .string s] w fun e w' => (∃ v, e = .returned (.int .i64 v)) ∧ w' = w := by
  by_cases h0 : (1048576 : Int) < (s.size : Int)
  · go_enter Try.func11, Try.ntmps11
    go_wp2
    go_ret
    exact ⟨⟨_, rfl⟩, rfl⟩
  · go_enter Try.func11, Try.ntmps11
    go_wp2
    go_ret
    exact ⟨⟨_, rfl⟩, rfl⟩

end Go.Proofs.Qxb6613079a
