/-
  judgeOpen: THE LISTS, ROUND BY ROUND.
-/
import Derived.Test.Qxb6613544aOpenData
namespace Go.Proofs.Qxb6613544a
open Go.RowKit

/-- Is the link kept open? -/
def keepL (es : Nat → Ent) (j : Nat) : Bool := !(es j).l.dropped && !(es j).l.pending.isEmpty

structure Lists (es0 : Nat → Ent) (Fs : Nat → Nat) (ks : List Nat) (period tick ticks : Int) (gs0 : List (Nat → Int)) (i : Nat) (es : Nat → Ent) (gs : List (Nat → Int)) (ms : List Nat) (xs : List Value) : Prop where
  eq : ms = (ks.take i).filter (keepL es)
  A : xs.take ms.length = ms.map (fun j => ptrV (Fs j))
  Bx : xs.drop i = (ks.drop i).map (fun j => ptrV (Fs j))
  settled : ∀ j ∈ ks.take i, (es j).l.dropped = false → Settled period tick ticks (es j).l
  rest : ∀ j, j ∉ ks.take i → es j = es0 j
  glen : gs.length ≤ gs0.length + i
  stay : (∀ j ∈ ks, Settled period tick ticks (es0 j).l) → (∀ j, (es j).l = (es0 j).l) ∧ gs = gs0

section
variable {es0 : Nat → Ent} {Fs : Nat → Nat} {ks : List Nat} {period tick ticks : Int} {gs0 : List (Nat → Int)} {i : Nat} {es : Nat → Ent} {gs : List (Nat → Int)} {ms : List Nat} {xs : List Value}

theorem Lists.start (hx : xs = ks.map (fun j => ptrV (Fs j))) : Lists es0 Fs ks period tick ticks gs0 0 es0 gs0 [] xs :=
  ⟨by simp, by simp, by simp [hx], by simp, fun _ _ => rfl, Nat.le_refl _, fun _ => ⟨fun _ => rfl, rfl⟩⟩

theorem Lists.mle (h : Lists es0 Fs ks period tick ticks gs0 i es gs ms xs) : ms.length ≤ i := by
  rw [h.eq]
  exact Nat.le_trans (List.length_filter_le _ _) (by simp; omega)

theorem Lists.head (h : Lists es0 Fs ks period tick ticks gs0 i es gs ms xs) (hi : i < ks.length) : xs[i]? = some (ptrV (Fs ks[i])) := by
  have h1 : (xs.drop i)[0]? = some (ptrV (Fs ks[i])) := by
    rw [h.Bx, List.drop_eq_getElem_cons hi]
    rfl
  simpa using h1

theorem Lists.next_drop (h : Lists es0 Fs ks period tick ticks gs0 i es gs ms xs) (i1 : (ks.drop i) = ks[i]! :: ks.drop (i + 1)) : xs.drop (i + 1) = (ks.drop (i + 1)).map (fun j => ptrV (Fs j)) := by
  have h1 := h.Bx
  rw [i1] at h1
  have h2 : (xs.drop i).drop 1 = (ks.drop (i + 1)).map (fun j => ptrV (Fs j)) := by rw [h1]; rfl
  rw [List.drop_drop] at h2
  exact h2

theorem take_succ_of {ks : List Nat} {i : Nat} (hi : i < ks.length) : ks.take (i + 1) = ks.take i ++ [ks[i]] := by
  rw [List.take_succ_eq_append_getElem hi]

theorem not_in_take {ks : List Nat} {i : Nat} (hn : ks.Nodup) (hi : i < ks.length) : ks[i] ∉ ks.take i := by
  have h : (ks.take (i + 1)).Nodup := hn.sublist (List.take_sublist _ _)
  rw [take_succ_of hi, List.nodup_append] at h
  intro hc
  exact h.2.2 _ hc _ List.mem_cons_self rfl

theorem drop_of {ks : List Nat} {i : Nat} (hi : i < ks.length) : ks.drop i = ks[i]! :: ks.drop (i + 1) := by
  rw [List.drop_eq_getElem_cons hi]
  simp [hi]

theorem Lists.dropped (h : Lists es0 Fs ks period tick ticks gs0 i es gs ms xs) (hi : i < ks.length) (hd : (es ks[i]).l.dropped = true) : Lists es0 Fs ks period tick ticks gs0 (i + 1) es gs ms xs where
  eq := by
    rw [take_succ_of hi, List.filter_append, ← h.eq]
    simp [keepL, hd]
  A := h.A
  Bx := h.next_drop (drop_of hi)
  settled := fun j hj hdj => by
    rw [take_succ_of hi, List.mem_append] at hj
    rcases hj with hj | hj
    · exact h.settled j hj hdj
    · have : j = ks[i] := by simpa using hj
      subst this
      rw [hd] at hdj
      cases hdj
  rest := fun j hj => h.rest j (fun hc => hj (by rw [take_succ_of hi]; exact List.mem_append_left _ hc))
  glen := by have := h.glen; omega
  stay := h.stay

theorem Lists.judged {e' : Ent} {g : Bool} {gs' : List (Nat → Int)} (h : Lists es0 Fs ks period tick ticks gs0 i es gs ms xs) (hn : ks.Nodup) (hi : i < ks.length) (hx : xs.length = ks.length)
    (hset : Settled period tick ticks e'.l) (hstay : Settled period tick ticks (es ks[i]).l → e'.l = (es ks[i]).l ∧ g = false) (hg : g = false → gs' = gs) (hgl : gs'.length ≤ gs.length + 1) {ms' : List Nat} {xs' : List Value}
    (hm : (keepL (upd es ks[i] e') ks[i] = true ∧ ms' = ms ++ [ks[i]] ∧ xs' = xs.set ms.length (ptrV (Fs ks[i]))) ∨ (keepL (upd es ks[i] e') ks[i] = false ∧ ms' = ms ∧ xs' = xs)) :
    Lists es0 Fs ks period tick ticks gs0 (i + 1) (upd es ks[i] e') gs' ms' xs' := by
  have hnot := not_in_take hn hi
  have hfil : (ks.take i).filter (keepL (upd es ks[i] e')) = ms := by
    rw [h.eq]
    refine List.filter_congr (fun j hj => ?_)
    unfold keepL
    have e : j ≠ ks[i] := fun e => hnot (e ▸ hj)
    rw [upd_other _ _ e]
  refine ⟨?_, ?_, ?_, ?_, ?_, ?_, ?_⟩
  · rw [take_succ_of hi, List.filter_append, hfil]
    rcases hm with ⟨hk, rfl, _⟩ | ⟨hk, rfl, _⟩
    · simp [hk]
    · simp [hk]
  · rcases hm with ⟨_, rfl, rfl⟩ | ⟨_, rfl, rfl⟩
    · have hml := h.mle
      rw [List.length_append, List.map_append, ← h.A]
      simp only [List.length_cons, List.length_nil, Nat.zero_add, List.map_cons, List.map_nil]
      rw [List.take_succ_eq_append_getElem (by rw [List.length_set]; omega), List.getElem_set_self, List.take_set_of_le (Nat.le_refl _)]
    · exact h.A
  · have h1 := h.next_drop (drop_of hi)
    rcases hm with ⟨_, _, rfl⟩ | ⟨_, _, rfl⟩
    · have hml := h.mle
      rw [List.drop_set_of_lt (by omega)]
      exact h1
    · exact h1
  · intro j hj hd
    rw [take_succ_of hi, List.mem_append] at hj
    rcases hj with hj | hj
    · have e : j ≠ ks[i] := fun e => hnot (e ▸ hj)
      rw [upd_other _ _ e] at hd ⊢
      exact h.settled j hj hd
    · have : j = ks[i] := by simpa using hj
      subst this
      rw [upd_same]
      exact hset
  · intro j hj
    rw [take_succ_of hi, List.mem_append, not_or] at hj
    rw [upd_other _ _ (fun e => hj.2 (by simp [e]))]
    exact h.rest j hj.1
  · have := h.glen
    omega
  · intro hs
    obtain ⟨s1, s2⟩ := h.stay hs
    have h1 : Settled period tick ticks (es ks[i]).l := by
      rw [s1]
      exact hs _ (List.getElem_mem _)
    obtain ⟨t1, t2⟩ := hstay h1
    refine ⟨fun j => ?_, (hg t2).trans s2⟩
    by_cases e : j = ks[i]
    · subst e
      rw [upd_same, t1]
      exact s1 _
    · rw [upd_other _ _ e]
      exact s1 j

end

end Go.Proofs.Qxb6613544a
