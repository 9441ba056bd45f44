/-
  MAPS KEYED BY 'any' WHOSE KEYS ARE ALL int64: what a store and a look-up do.
-/
import Derived.Test.Qxb6613079aProg
import Derived.WalkKit
import Derived.WalkSpells
import Derived.WalkLawsBesides
import Derived.Maps.OwnSet
namespace Go.Proofs.Qxb6613079a
open Go.RowKit Go.ChangeMaps Go.MapKept

/-- An int64 as a key of type 'any'. -/
def ikey (k : Int) : Value := .iface 2 (.int .i64 k)

def keyN : Value → Int
  | .iface _ (.int _ n) => n
  | _ => 0

theorem keyN_ikey (k : Int) : keyN (ikey k) = k := rfl

/-- What a list of entries holds at key k. -/
def lk (k : Int) : List MapEntry → Option Value
  | [] => none
  | e :: es => if k = keyN e.key then some e.val else lk k es

theorem run_equal_ikey (k n : Int) (w : World) : (Op.equal 20 (ikey k) (ikey n)).run Try.prog w = .ok (k == n) w := by kernel_rfl
theorem run_check_ikey (b : Bool) (k : Int) (w : World) : (Instr.checkKey b 10000 20 (ikey k)).run Try.prog w = .ok () w := by kernel_rfl
theorem run_stays_ikey (k : Int) (w : World) : (Instr.keyThatStays (ikey k) (ikey k)).run Try.prog w = .ok (ikey k) w := by
  have h : Instr.sameBits 10000 (ikey k) (ikey k) = true := by
    show ((2 : Nat) == 2 && (IntKind.i64 == IntKind.i64 && k == k)) = true
    simp
  unfold Instr.keyThatStays
  rw [if_pos h]
  rfl

def IKeys (es : List MapEntry) : Prop := ∀ e ∈ es, ∃ n, e.key = ikey n

/-- The search: nothing at that key; or the first entry that bears it. -/
theorem run_asking (k : Int) (w : World) : ∀ (es : List MapEntry) (i : Nat), IKeys es →
    ((Instr.findAsking 20 (ikey k) es i).run Try.prog w = .ok none w ∧ lk k es = none) ∨
    ∃ j e, (Instr.findAsking 20 (ikey k) es i).run Try.prog w = .ok (some (i + j, e.val)) w ∧ es[j]? = some e ∧ e.key = ikey k ∧ lk k es = some e.val ∧ ∀ i e', i < j → es[i]? = some e' → keyN e'.key ≠ k
  | [], i, _ => Or.inl ⟨rfl, rfl⟩
  | e :: es, i, h => by
    obtain ⟨n, hn⟩ := h e (by simp)
    by_cases hk : k = n
    · refine Or.inr ⟨0, e, ?_, rfl, by rw [hn, hk], ?_, ?_⟩
      · simp [Instr.findAsking, hn, run_equal_ikey, hk, Result.andThen]
      · simp [lk, hn, keyN_ikey, hk]
      · intro i' e' hi
        omega
    · have hb : (k == n) = false := by simpa using hk
      have hstep : (Instr.findAsking 20 (ikey k) (e :: es) i).run Try.prog w = (Instr.findAsking 20 (ikey k) es (i + 1)).run Try.prog w := by
        simp [Instr.findAsking, hn, run_equal_ikey, hb, Result.andThen]
      have hlk : lk k (e :: es) = lk k es := by simp [lk, hn, keyN_ikey, hk]
      rcases run_asking k w es (i + 1) (fun x hx => h x (by simp [hx])) with ⟨h1, h2⟩ | ⟨j, e0, h1, h2, h3, h4, h5⟩
      · exact Or.inl ⟨hstep.trans h1, hlk.trans h2⟩
      · refine Or.inr ⟨j + 1, e0, ?_, by simpa using h2, h3, hlk.trans h4, ?_⟩
        · rw [hstep, h1]
          have : i + 1 + j = i + (j + 1) := by omega
          rw [this]
        · intro i' e' hi he'
          cases i' with
          | zero =>
            simp at he'
            subst he'
            rw [hn, keyN_ikey]
            exact fun e1 => hk e1.symm
          | succ i' => exact h5 i' e' (by omega) (by simpa using he')

theorem underlying20 : Try.prog.underlying 20 = some (.interface #[]) := Try.underlying20

theorem run_find (k : Int) (w : World) (es : List MapEntry) (h : IKeys es) :
    ((Instr.findKey 20 (ikey k) es).run Try.prog w = .ok none w ∧ lk k es = none) ∨
    ∃ j e, (Instr.findKey 20 (ikey k) es).run Try.prog w = .ok (some (j, e.val)) w ∧ es[j]? = some e ∧ e.key = ikey k ∧ lk k es = some e.val ∧ ∀ i e', i < j → es[i]? = some e' → keyN e'.key ≠ k := by
  cases es with
  | nil =>
    left
    refine ⟨?_, rfl⟩
    simp [Instr.findKey, run_underlying underlying20, Instr.findNow, Result.andThen]
  | cons e es =>
    have hr : (Instr.findKey 20 (ikey k) (e :: es)).run Try.prog w = (Instr.findAsking 20 (ikey k) (e :: es) 0).run Try.prog w := by
      simp [Instr.findKey, run_underlying underlying20, Instr.findNow, Instr.sameNow, Result.andThen]
    rcases run_asking k w (e :: es) 0 h with ⟨h1, h2⟩ | ⟨j, e0, h1, h2, h3, h4, h5⟩
    · exact Or.inl ⟨hr.trans h1, h2⟩
    · exact Or.inr ⟨j, e0, by rw [hr, h1]; simp, h2, h3, h4, h5⟩

/-- BLOCK b IS A MAP WITH int64 KEYS THAT HOLDS 'm k' AT KEY k. -/
def IMap (w : World) (b : Nat) (m : Int → Option Value) : Prop :=
  ∃ es clock, w.heap[b]? = some (.map es clock) ∧ IKeys es.toList ∧ ∀ k, lk k es.toList = m k

def putM (m : Int → Option Value) (k : Int) (v : Value) : Int → Option Value := fun n => if n = k then some v else m n

theorem IMap.made (w : World) : IMap (w.alloc (.map #[] 0)) w.heap.size (fun _ => none) :=
  ⟨#[], 0, (MapKept.heap_alloc w _).1, by intro e he; simp at he, fun _ => rfl⟩

theorem IMap.lt {w : World} {b : Nat} {m : Int → Option Value} (h : IMap w b m) : b < w.heap.size := by
  obtain ⟨es, clock, hb, _⟩ := h
  exact (Array.getElem?_eq_some_iff.1 hb).1

theorem IMap.kept {w w' : World} {b : Nat} {m : Int → Option Value} {row : Option Nat} (h : IMap w b m) (hg : w.grownBy w' row) (hne : some b ≠ row) : IMap w' b m := by
  have hlt := h.lt
  obtain ⟨es, clock, hb, r⟩ := h
  exact ⟨es, clock, (hg.block b hlt hne).trans hb, r⟩

theorem IMap.below {w w' : World} {b B : Nat} {m : Int → Option Value} (h : IMap w b m) (hg : Below B w w') (hb : b < B) : IMap w' b m := by
  obtain ⟨es, clock, hb', r⟩ := h
  exact ⟨es, clock, (hg.block b hb).trans hb', r⟩

theorem lk_push (k n : Int) (v : Value) (c : Nat) : ∀ es : List MapEntry, lk k es = none → lk n (es ++ [⟨ikey k, v, c⟩]) = if n = k then some v else lk n es
  | [], _ => by by_cases hn : n = k <;> simp [lk, keyN_ikey, hn]
  | e :: es, h => by
    simp only [lk] at h
    by_cases hk : k = keyN e.key
    · rw [if_pos hk] at h; cases h
    · rw [if_neg hk] at h
      simp only [List.cons_append, lk]
      rw [lk_push k n v c es h]
      by_cases hn : n = keyN e.key
      · rw [if_pos hn, if_pos hn, if_neg (fun e1 => hk (by rw [← e1]; exact hn))]
      · rw [if_neg hn, if_neg hn]

theorem lk_set (k n : Int) (v : Value) : ∀ (es : List MapEntry) (j : Nat) (e : MapEntry), es[j]? = some e → e.key = ikey k → (∀ i e', i < j → es[i]? = some e' → keyN e'.key ≠ k) → lk n (es.set j ⟨ikey k, v, e.born⟩) = if n = k then some v else lk n es
  | [], j, e, h, _, _ => by simp at h
  | x :: es, 0, e, h, hk, _ => by
    simp at h
    subst h
    simp only [List.set_cons_zero, lk, keyN_ikey, hk]
    by_cases hn : n = k <;> simp [hn]
  | x :: es, j + 1, e, h, hk, hf => by
    simp only [List.set_cons_succ, lk]
    have hx : keyN x.key ≠ k := hf 0 x (by omega) rfl
    rw [lk_set k n v es j e (by simpa using h) hk (fun i e' hi he' => hf (i + 1) e' (by omega) (by simpa using he'))]
    by_cases hn : n = keyN x.key
    · rw [if_pos hn, if_pos hn, if_neg (fun e1 => hx (by rw [← hn]; exact e1))]
    · rw [if_neg hn, if_neg hn]

/-- 'm[k] = v'. -/
theorem IMap.update {w : World} {b : Nat} {m : Int → Option Value} (h : IMap w b m) (k : Int) (v : Value) :
    ∃ w', (Instr.mapUpdate 42 (.map (some b)) (ikey k) v).run Try.prog w = .ok () w' ∧ IMap w' b (putM m k v) ∧ w.grownBy w' (some b) := by
  obtain ⟨es, clock, hb, hk, hm⟩ := h
  have hg : ∀ o, w.grownBy (setBlock w b o) (some b) := fun o => ⟨rfl, rfl, rfl, by simp [setBlock], fun i _ hi => heap_setBlock_other hb _ (fun e => hi (by rw [e]))⟩
  rcases run_find k w es.toList hk with ⟨h1, h2⟩ | ⟨j, e0, h1, h2, h3, h4, h5⟩
  · refine ⟨setBlock w b (.map (es.push ⟨ikey k, v, clock⟩) (clock + 1)), ?_, ⟨_, _, heap_setBlock_same hb _, ?_, ?_⟩, hg _⟩
    · simp [Instr.mapUpdate, run_underlying Try.underlying42, MapKept.run_getObj_map hb, run_check_ikey, h1, MapKept.run_setObj_map _ hb, Result.andThen, setBlock]
    · intro e he
      simp only [Array.toList_push, List.mem_append, List.mem_singleton] at he
      rcases he with he | rfl
      · exact hk e he
      · exact ⟨k, rfl⟩
    · intro n
      rw [Array.toList_push, lk_push k n v clock _ h2, hm]
      rfl
  · have hj : es[j]? = some e0 := by simpa using h2
    have hlist : (es.modify j (fun e' => { e' with key := ikey k, val := v })).toList = es.toList.set j ⟨ikey k, v, e0.born⟩ := by rw [Array.toList_modify, modify_eq_set _ _ _ _ h2]
    refine ⟨setBlock w b (.map (es.modify j (fun e' => { e' with key := ikey k, val := v })) clock), ?_, ⟨_, _, heap_setBlock_same hb _, ?_, ?_⟩, hg _⟩
    · simp [Instr.mapUpdate, run_underlying Try.underlying42, MapKept.run_getObj_map hb, run_check_ikey, h1, hj, h3, run_stays_ikey, MapKept.run_setObj_map _ hb, Result.andThen, setBlock]
    · intro e he
      rw [hlist] at he
      rcases List.mem_or_eq_of_mem_set he with he | rfl
      · exact hk e he
      · exact ⟨k, rfl⟩
    · intro n
      rw [hlist, lk_set k n v _ j e0 h2 h3 h5, hm]
      rfl

/-- What a look-up with 'ok' answers. -/
def okOf : Option Value → Value
  | some v => .tuple #[v, .bool true]
  | none => .tuple #[.nilIface, .bool false]

/-- 'v, ok := m[k]'. -/
theorem IMap.lookup {w : World} {b : Nat} {m : Int → Option Value} (h : IMap w b m) (k : Int) :
    (Instr.lookup 42 (.map (some b)) (ikey k) true).run Try.prog w = .ok (okOf (m k)) w := by
  obtain ⟨es, clock, hb, hk, hm⟩ := h
  rcases run_find k w es.toList hk with ⟨h1, h2⟩ | ⟨j, e0, h1, h2, h3, h4, h5⟩
  · rw [← hm, h2]
    simp [Instr.lookup, run_underlying Try.underlying42, MapKept.run_getObj_map hb, run_check_ikey, h1, Result.andThen, okOf]
  · rw [← hm, h4]
    simp [Instr.lookup, run_underlying Try.underlying42, MapKept.run_getObj_map hb, run_check_ikey, h1, Result.andThen, okOf]

theorem lookup_nil (k : Int) (w : World) : (Instr.lookup 42 (.map none) (ikey k) true).run Try.prog w = .ok (okOf none) w := by kernel_rfl

end Go.Proofs.Qxb6613079a
