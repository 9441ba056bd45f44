/-
  A CLAIM PUT; THE CLAIMS BUILT; THE MODEL's ANSWER; THE BOUNDS.
-/
import Derived.Test.Qxb6613079aReads
namespace Go.Proofs.Qxb6613079a
open Go.RowKit

theorem cval0 {c : Cl} (h : c.kind = 0) : cval c = .iface 9 (.string c.text) := by unfold cval; rw [if_pos h]
theorem cval1 {c : Cl} (h : c.kind = 1) : cval c = .iface 2 (.int .i64 c.num) := by unfold cval; rw [if_neg (by omega), if_pos h]
theorem cval2 {c : Cl} (h0 : c.kind ≠ 0) (h1 : c.kind ≠ 1) : cval c = .iface 4 (.bool (c.num != 0)) := by unfold cval; rw [if_neg h0, if_neg h1]

theorem IMap.alloc {w : World} {b : Nat} {m : Int → Option Value} (h : IMap w b m) (o : Obj) : IMap (w.alloc o) b m := h.kept (World.grownBy_alloc w o none) (by simp)

set_option maxHeartbeats 400000 in
theorem putClaim_any (w : World) (b : Nat) (m : Int → Option Value) (c : Cl) (h : IMap w b m) :
    Calls Try.prog 24 #[.map (some b), c.val] w fun e w' => e = .returned (.tuple #[]) ∧ IMap w' b (putM m c.key (cval c)) ∧ w.grownBy w' (some b) := by
  unfold Cl.val
  by_cases h0 : c.kind = 0
  · rw [cval0 h0]
    go_enter Try.func24, Try.ntmps24
    go_wp2_with fail
    refine (claimText_any _ b m c.key c.text (h.alloc _)).mono ?_
    rintro e w' ⟨rfl, hm, hg⟩
    go_wp2
    refine bodyPost_ret (results_none rfl _ _ _) rfl ?_
    exact ⟨rfl, hm, (World.grownBy_alloc _ _ _).trans hg⟩
  · by_cases h1 : c.kind = 1
    · rw [cval1 h1]
      go_enter Try.func24, Try.ntmps24
      go_wp2_with fail
      refine (claimInt_any _ b m c.key c.num (h.alloc _)).mono ?_
      rintro e w' ⟨rfl, hm, hg⟩
      go_wp2
      refine bodyPost_ret (results_none rfl _ _ _) rfl ?_
      exact ⟨rfl, hm, (World.grownBy_alloc _ _ _).trans hg⟩
    · rw [cval2 h0 h1]
      go_enter Try.func24, Try.ntmps24
      go_wp2_with fail
      refine (claimBool_any _ b m c.key (c.num != 0) (h.alloc _)).mono ?_
      rintro e w' ⟨rfl, hm, hg⟩
      go_wp2
      go_end0
      exact ⟨rfl, hm, (World.grownBy_alloc _ _ _).trans hg⟩

/-- THE CLAIMS AS THEY CAME IN. -/
def Row (w : World) (a : Option Addr) (len : Nat) (b off : Nat) (cs : List Cl) : Prop :=
  len ≤ maxLen ∧ (0 < len → a = some ⟨b, off, none⟩) ∧ ∀ i, i < len →
    w.cell? ⟨b, off + i * 4, none⟩ = some (.int .i64 (cs.getD i Cl.zero).key) ∧ w.cell? ⟨b, off + i * 4 + 1, none⟩ = some (.int .u8 (cs.getD i Cl.zero).kind) ∧
    w.cell? ⟨b, off + i * 4 + 2, none⟩ = some (.string (cs.getD i Cl.zero).text) ∧ w.cell? ⟨b, off + i * 4 + 3, none⟩ = some (.int .i64 (cs.getD i Cl.zero).num)

set_option maxHeartbeats 400000 in
theorem addClaims_any (t : Int) (a : Option Addr) (len cap : Nat) (b off : Nat) (cs : List Cl) (w : World) (hR : Row w a len b off cs) :
    Calls Try.prog 18 #[.int .i64 t, .slice a len cap] w fun e w' => (∃ v, e = .returned (.int .i64 v)) ∧ w' = w := by
  obtain ⟨hl, ha, hc⟩ := hR
  unfold maxLen at hl
  go_enter Try.func18, Try.ntmps18
  go_wp2
  go_loop [0, 5] (fun n i => ∃ (k : Nat) (v : Int), k ≤ len ∧ i = .int .i64 k ∧ n = .int .i64 v) (fun _ i => len - (intOf i).toNat)
  case atStart => exact ⟨0, t, Nat.zero_le _, rfl, rfl⟩
  case round =>
    obtain ⟨k, v, hk, rfl, rfl⟩ := hrel
    by_cases hlt : k < len
    · obtain ⟨c0, c1, c2, c3⟩ := hc k hlt
      have ha' := ha (by omega)
      clear hc ha
      go_wp2
      · go_ret
        exact ⟨⟨_, rfl⟩, rfl⟩
      · go_ret
        exact ⟨⟨_, rfl⟩, rfl⟩
      · go_round
        case rel => exact ⟨k + 1, _, by omega, by go_num, rfl⟩
        case measure => simp [intOf]; omega
    · go_wp2
      go_ret
      exact ⟨⟨_, rfl⟩, rfl⟩

set_option maxHeartbeats 400000 in
theorem claimModel_any (a : Option Addr) (len cap : Nat) (b off : Nat) (cs : List Cl) (key : Int) (w : World) (hR : Row w a len b off cs) :
    Calls Try.prog 19 #[.slice a len cap, .int .i64 key] w fun e w' => e = .returned (.tuple #[.string (mtext cs key len), .bool (mok cs key len)]) ∧ w.grownBy w' none := by
  obtain ⟨hl, ha, hc⟩ := hR
  unfold maxLen at hl
  go_enter Try.func19, Try.ntmps19
  go_wp2
  go_loop [6] (fun i => ∃ (k : Nat), k ≤ len ∧ i = .int .i64 ((k : Int) - 1) ∧ mtext cs key len = mtext cs key k ∧ mok cs key len = mok cs key k) (fun i => (intOf i + 1).toNat)
  case atStart => exact ⟨len, Nat.le_refl _, rfl, rfl, rfl⟩
  case round =>
    obtain ⟨k, hk, rfl, ht, ho⟩ := hrel
    have HT : Hid (mtext cs key len = mtext cs key k) := ht
    have HO : Hid (mok cs key len = mok cs key k) := ho
    clear ht ho
    by_cases hlt : 0 < k
    · obtain ⟨j, rfl⟩ : ∃ j, k = j + 1 := ⟨k - 1, by omega⟩
      obtain ⟨c0, c1, c2, c3⟩ := hc j (by omega)
      have ha' := ha (by omega)
      clear hc ha
      have e1 : ((j + 1 : Nat) : Int) - 1 = (j : Int) := by omega
      rw [e1]
      obtain ⟨c, hcd⟩ : ∃ c, c = cs.getD j Cl.zero := ⟨_, rfl⟩
      rw [← hcd] at c0 c1 c2 c3
      have HT2 : Hid (mtext cs key len = if c.key = key then ctext c else mtext cs key j) := by rw [hcd]; exact HT.out
      have HO2 : Hid (mok cs key len = if c.key = key then cok c else mok cs key j) := by rw [hcd]; exact HO.out
      clear hcd HT HO
      by_cases hkey : c.key = key
      · have hkb : (c.key == key) = true := by simpa using hkey
        have HT3 : Hid (mtext cs key len = ctext c) := by have := HT2.out; rw [if_pos hkey] at this; exact this
        have HO3 : Hid (mok cs key len = cok c) := by have := HO2.out; rw [if_pos hkey] at this; exact this
        clear hkey HT2 HO2
        go_wp2_with fail
        refine (claimValue_any c w).mono ?_
        rintro e w' ⟨rfl, hg⟩
        go_wp2
        go_ret2
        refine ⟨?_, hg⟩
        rw [HT3.out, HO3.out]
        rfl
      · have hkb : (c.key == key) = false := by simpa using hkey
        have HT3 : Hid (mtext cs key len = mtext cs key j) := by have := HT2.out; rw [if_neg hkey] at this; exact this
        have HO3 : Hid (mok cs key len = mok cs key j) := by have := HO2.out; rw [if_neg hkey] at this; exact this
        clear hkey HT2 HO2
        go_wp2
        go_round
        case rel => exact ⟨j, by omega, by go_num, HT3.out, HO3.out⟩
        case measure => simp [intOf]
    · obtain rfl : k = 0 := by omega
      go_wp2
      go_ret2
      refine ⟨?_, World.grownBy.refl _ _⟩
      rw [HT.out, HO.out]
      rfl


set_option maxHeartbeats 400000 in
theorem buildClaims_any (a : Option Addr) (len cap : Nat) (b off : Nat) (cs : List Cl) (w : World) (hR : Row w a len b off cs) (hb : 0 < len → b < w.heap.size) :
    Calls Try.prog 21 #[.slice a len cap] w fun e w' => e = .returned (.map (some w.heap.size)) ∧ IMap w' w.heap.size (cmap cs len) ∧ w.grownBy w' none ∧ w.heap.size < w'.heap.size := by
  obtain ⟨hl, ha, hc⟩ := hR
  unfold maxLen at hl
  go_enter Try.func21, Try.ntmps21
  go_wp2_with fail
  refine (newHeader_any w).mono ?_
  rintro e w' ⟨rfl, rfl⟩
  go_wp2_with fail
  go_loopw [4] (fun i wr => ∃ (k : Nat), k ≤ len ∧ i = .int .i64 k ∧ IMap wr w.heap.size (cmap cs k) ∧ w.grownBy wr none ∧ w.heap.size < wr.heap.size) (fun i _ => len - (intOf i).toNat)
  case atStart => exact ⟨0, Nat.zero_le _, rfl, IMap.made w, World.grownBy_alloc _ _ _, by simp⟩
  case round =>
    obtain ⟨k, hk, rfl, hm, hg, hs⟩ := hrel
    by_cases hlt : k < len
    · obtain ⟨c0, c1, c2, c3⟩ := hc k hlt
      have ha' := ha (by omega)
      subst ha'
      have hb' := hb (by omega)
      obtain ⟨c, hcd⟩ : ∃ c, c = cs.getD k Cl.zero := ⟨_, rfl⟩
      rw [← hcd] at c0 c1 c2 c3
      have d0 := hg.cell c0 (by simp)
      have d1 := hg.cell c1 (by simp)
      have d2 := hg.cell c2 (by simp)
      have d3 := hg.cell c3 (by simp)
      have HC : Hid (cmap cs (k + 1) = putM (cmap cs k) c.key (cval c)) := by rw [hcd]; exact rfl
      clear hc ha hb c0 c1 c2 c3 hcd
      go_wp2_with fail
      refine (putClaim_any _ _ _ c hm).mono ?_
      rintro e w' ⟨rfl, hm1, hg1⟩
      go_wp2
      go_roundw
      case rel => exact ⟨k + 1, by omega, by go_num, by rw [HC.out]; exact hm1, hg.andThen hg1 (fun j hj => by cases hj; exact Or.inl (Nat.le_refl _)), Nat.lt_of_lt_of_le hs hg1.size⟩
      case measure => simp [intOf]; omega
    · obtain rfl : k = len := by omega
      go_wp2
      go_ret
      exact ⟨rfl, hm, hg, hs⟩

end Go.Proofs.Qxb6613079a
