/-
  THE LAW: THE GETTERS; THE PLAIN LAW OF THE OPEN LIST.
-/
import Derived.Test.Qxb6613544aMade
import Derived.Test.Qxb6613544aSame
namespace Go.Proofs.Qxb6613544a
open Go.RowKit

set_option maxHeartbeats 2000000 in
set_option maxRecDepth 10000 in
theorem getOpen_any (bb : Nat) (v : Value) (w : World) (h : w.cell? ⟨bb, 7, none⟩ = some v) : Calls Try.prog 12 #[.pointer (some ⟨bb, 0, none⟩)] w fun e w' => e = .returned v ∧ w' = w := by
  go_enter Try.func12, Try.ntmps12
  go_wp2
  go_ret
  exact ⟨rfl, rfl⟩

set_option maxHeartbeats 2000000 in
set_option maxRecDepth 10000 in
theorem getGone_any (bb : Nat) (v : Value) (w : World) (h : w.cell? ⟨bb, 9, none⟩ = some v) : Calls Try.prog 13 #[.pointer (some ⟨bb, 0, none⟩)] w fun e w' => e = .returned v ∧ w' = w := by
  go_enter Try.func13, Try.ntmps13
  go_wp2
  go_ret
  exact ⟨rfl, rfl⟩

set_option maxHeartbeats 2000000 in
set_option maxRecDepth 10000 in
theorem getPending_any (F : Nat) (v : Value) (w : World) (h : w.cell? ⟨F, 23, none⟩ = some v) : Calls Try.prog 15 #[.pointer (some ⟨F, 0, none⟩)] w fun e w' => e = .returned v ∧ w' = w := by
  go_enter Try.func15, Try.ntmps15
  go_wp2
  go_ret
  exact ⟨rfl, rfl⟩

set_option maxHeartbeats 2000000 in
set_option maxRecDepth 10000 in
theorem getMissed_any (F : Nat) (v : Value) (w : World) (h : w.cell? ⟨F, 21, none⟩ = some v) : Calls Try.prog 16 #[.pointer (some ⟨F, 0, none⟩)] w fun e w' => e = .returned v ∧ w' = w := by
  go_enter Try.func16, Try.ntmps16
  go_wp2
  go_ret
  exact ⟨rfl, rfl⟩

set_option maxHeartbeats 2000000 in
set_option maxRecDepth 10000 in
theorem getLoss_any (F : Nat) (v : Value) (w : World) (h : w.cell? ⟨F, 20, none⟩ = some v) : Calls Try.prog 17 #[.pointer (some ⟨F, 0, none⟩)] w fun e w' => e = .returned v ∧ w' = w := by
  go_enter Try.func17, Try.ntmps17
  go_wp2
  go_ret
  exact ⟨rfl, rfl⟩

set_option maxHeartbeats 2000000 in
set_option maxRecDepth 10000 in
theorem zzJudge_any (bb : Nat) (w : World) (R : World → Prop) (h : Calls Try.prog 32 #[.pointer (some ⟨bb, 0, none⟩)] w fun e w' => e = .returned (.tuple #[]) ∧ R w') : Calls Try.prog 11 #[.pointer (some ⟨bb, 0, none⟩)] w fun e w' => e = .returned (.tuple #[]) ∧ R w' := by
  have H : Hid _ := h
  clear h
  go_enter Try.func11, Try.ntmps11
  go_wp2_with (go_at_call 32; refine Calls.mono H.out ?_; rintro e w2 ⟨rfl, hR⟩)
  go_end0
  exact ⟨rfl, hR⟩

/-- How many below i are kept. -/
def cnt (P : Nat → Bool) (i : Nat) : Nat := ((List.range i).filter P).length

theorem cnt_succ (P : Nat → Bool) (i : Nat) : cnt P (i + 1) = cnt P i + (if P i then 1 else 0) := by
  unfold cnt
  rw [List.range_succ, List.filter_append, List.length_append]
  cases h : P i <;> simp [h]

theorem range_split (n i : Nat) (hi : i ≤ n) : List.range n = List.range i ++ (List.range' i (n - i)) := by
  rw [List.range_eq_range', List.range_eq_range']
  have := List.range'_append_1 (s := 0) (m := i) (n := n - i)
  rw [Nat.zero_add] at this
  rw [this]
  congr 1
  omega

theorem cnt_get (P : Nat → Bool) (n i : Nat) (hi : i < n) : (P i = true → ((List.range n).filter P)[cnt P i]? = some i) ∧ (P i = false → ∀ x, ((List.range n).filter P)[cnt P i]? = some x → x ≠ i) := by
  have e : (List.range n).filter P = (List.range i).filter P ++ (List.range' i (n - i)).filter P := by rw [range_split n i (by omega), List.filter_append]
  have e2 : List.range' i (n - i) = i :: List.range' (i + 1) (n - i - 1) := by
    have : n - i = (n - i - 1) + 1 := by omega
    rw [this, List.range'_succ]
    simp
  have e3 : ((List.range n).filter P)[cnt P i]? = ((List.range' i (n - i)).filter P)[0]? := by
    rw [e]
    unfold cnt
    rw [List.getElem?_append_right (Nat.le_refl _), Nat.sub_self]
  rw [e3, e2]
  constructor
  · intro h
    rw [List.filter_cons_of_pos h]
    rfl
  · intro h x hx hxi
    rw [List.filter_cons_of_neg (by simp [h])] at hx
    have hm := List.mem_of_getElem? hx
    have := (List.mem_filter.1 hm).1
    rw [List.mem_range'_1] at this
    omega

theorem cnt_lt (P : Nat → Bool) (n i : Nat) (hi : i < n) (h : P i = true) : cnt P i < ((List.range n).filter P).length := by
  have := ((cnt_get P n i hi).1 h)
  exact (List.getElem?_eq_some_iff.1 this).1

/-- A fresh start: the state at hand as the state at the call. -/
theorem Core.restart {w0 : World} {B n : Nat} {Fs : Nat → Nat} {es0 : Nat → Ent} {bb go : Nat} {vg0 : Value} {period tick : Int} {hyst : Nat} {ticks : Int} {L cap : Nat} {vo : Value} {w : World} {es : Nat → Ent} {vg : Value} {gs : List (Nat → Int)} {xs : List Value}
    (h : Core w0 B n Fs es0 bb go vg0 period tick hyst ticks L cap vo w es vg gs xs) : Core w B n Fs es bb go vg period tick hyst ticks L cap vo w es vg gs xs :=
  ⟨h.net, h.box, h.c7, h.c9, h.opn, h.gone, Only.refl _ _, fun _ h => .inl h, h.good, fun _ _ => ⟨rfl, rfl, rfl, rfl, rfl, rfl⟩⟩

theorem Core.zone_lt {w0 : World} {B n : Nat} {Fs : Nat → Nat} {es0 : Nat → Ent} {bb go : Nat} {vg0 : Value} {period tick : Int} {hyst : Nat} {ticks : Int} {L cap : Nat} {vo : Value} {w : World} {es : Nat → Ent} {vg : Value} {gs : List (Nat → Int)} {xs : List Value}
    (h : Core w0 B n Fs es0 bb go vg0 period tick hyst ticks L cap vo w es vg gs xs) {k : Nat} (hk : Zone n Fs es bb go vg k) : k < w.heap.size := by
  rcases hk with ⟨i, hi, hf⟩ | rfl | rfl | hk
  · exact (h.net.ent i hi).foot_lt hf
  · exact h.box.hi
  · exact (h.opn.lt _ rfl).2
  · exact (h.gone.lt k hk).2

end Go.Proofs.Qxb6613544a
