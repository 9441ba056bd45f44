/-
  A MAP KEYED BY PEERS: A STORE GOES THROUGH, WHATEVER IT HOLDS.
-/
import Derived.Test.Qxb6613544aPeers
namespace Go.Proofs.Qxb6613544a
open Go.RowKit Go.ChangeMaps Go.MapKept

def pkey (p : Nat → Int) : Value := .agg (pcells p).toArray

theorem run_check_pkey (b : Bool) (p : Nat → Int) (w : World) : (Instr.checkKey b 10000 39 (pkey p)).run Try.prog w = .ok () w := by kernel_rfl

theorem run_equal_pkey (p q : Nat → Int) (w : World) : (Op.equal 39 (pkey p) (pkey q)).run Try.prog w = .ok (alikeI 20 (plist p) (plist q)) w := by
  have h := run_equalIn_ints w 9998 39 5 20 Try.underlying39 Try.underlying5 Try.sizeOf5 (plist p) (plist q) rfl rfl
  unfold pkey
  rw [pcells_eq, pcells_eq]
  exact h

theorem alike_eq {p q : Nat → Int} (h : alikeI 20 (plist p) (plist q) = true) : pkey p = pkey q := by
  have e : plist p = plist q := by
    refine List.ext_getElem rfl (fun i h1 h2 => ?_)
    have hi : i < 20 := h1
    have := List.all_eq_true.1 h i (List.mem_range.2 hi)
    simpa [List.getD, h1, h2] using this
  unfold pkey
  rw [pcells_eq, pcells_eq, e]

theorem same_bits (p : Nat → Int) : Instr.sameBits 10000 (pkey p) (pkey p) = true := by
  show ((pcells p).toArray.size == (pcells p).toArray.size && ((pcells p).toArray.toList.zip (pcells p).toArray.toList).all fun (x, y) => Instr.sameBits 9999 x y) = true
  simp only [beq_self_eq_true, Bool.true_and, List.all_eq_true]
  rintro ⟨x, y⟩ hxy
  have hz : ∀ (xs : List Value) (x y : Value), (x, y) ∈ xs.zip xs → x = y ∧ x ∈ xs := by
    intro xs
    induction xs with
    | nil => intro x y h; simp at h
    | cons a xs ih =>
      intro x y h
      simp only [List.zip_cons_cons, List.mem_cons, Prod.mk.injEq] at h
      rcases h with ⟨rfl, rfl⟩ | h
      · exact ⟨rfl, List.mem_cons_self⟩
      · exact ⟨(ih x y h).1, List.mem_cons_of_mem _ (ih x y h).2⟩
  obtain ⟨rfl, hm⟩ := hz _ x y hxy
  have hm2 : x ∈ pcells p := hm
  rw [pcells_eq, List.mem_map] at hm2
  obtain ⟨n, _, rfl⟩ := hm2
  simp [Instr.sameBits]

theorem run_stays_pkey (p : Nat → Int) (w : World) : (Instr.keyThatStays (pkey p) (pkey p)).run Try.prog w = .ok (pkey p) w := by
  unfold Instr.keyThatStays
  rw [if_pos (same_bits p)]
  rfl

def AKeys (es : List MapEntry) : Prop := ∀ e ∈ es, ∃ p, e.key = pkey p

theorem run_asking (k : Nat → Int) (w : World) : ∀ (es : List MapEntry) (i : Nat), AKeys es →
    ((Instr.findAsking 39 (pkey k) es i).run Try.prog w = .ok none w) ∨
    ∃ j e, (Instr.findAsking 39 (pkey k) es i).run Try.prog w = .ok (some (i + j, e.val)) w ∧ es[j]? = some e ∧ e.key = pkey k
  | [], i, _ => Or.inl rfl
  | e :: es, i, h => by
    obtain ⟨n, hn⟩ := h e (by simp)
    cases hk : alikeI 20 (plist k) (plist n) with
    | true =>
      refine Or.inr ⟨0, e, ?_, rfl, by rw [hn, alike_eq hk]⟩
      simp [Instr.findAsking, hn, run_equal_pkey, hk, Result.andThen]
    | false =>
      have hstep : (Instr.findAsking 39 (pkey k) (e :: es) i).run Try.prog w = (Instr.findAsking 39 (pkey k) es (i + 1)).run Try.prog w := by
        simp [Instr.findAsking, hn, run_equal_pkey, hk, Result.andThen]
      rcases run_asking k w es (i + 1) (fun x hx => h x (by simp [hx])) with h1 | ⟨j, e0, h1, h2, h3⟩
      · exact Or.inl (hstep.trans h1)
      · refine Or.inr ⟨j + 1, e0, ?_, by simpa using h2, h3⟩
        rw [hstep, h1]
        have : i + 1 + j = i + (j + 1) := by omega
        rw [this]

theorem run_find (k : Nat → Int) (w : World) (es : List MapEntry) (h : AKeys es) :
    ((Instr.findKey 39 (pkey k) es).run Try.prog w = .ok none w) ∨
    ∃ j e, (Instr.findKey 39 (pkey k) es).run Try.prog w = .ok (some (j, e.val)) w ∧ es[j]? = some e ∧ e.key = pkey k := by
  cases es with
  | nil =>
    left
    simp [Instr.findKey, run_underlying Try.underlying39, Instr.findNow, Result.andThen]
  | cons e es =>
    have hr : (Instr.findKey 39 (pkey k) (e :: es)).run Try.prog w = (Instr.findAsking 39 (pkey k) (e :: es) 0).run Try.prog w := by
      simp [Instr.findKey, run_underlying Try.underlying39, Instr.findNow, Instr.sameNow, Result.andThen]
    rcases run_asking k w (e :: es) 0 h with h1 | ⟨j, e0, h1, h2, h3⟩
    · exact Or.inl (hr.trans h1)
    · exact Or.inr ⟨j, e0, by rw [hr, h1]; simp, h2, h3⟩

/-- BLOCK b IS A MAP KEYED BY PEERS. -/
def AMap (w : World) (b : Nat) : Prop := ∃ es clock, w.heap[b]? = some (.map es clock) ∧ AKeys es.toList

theorem AMap.made (w : World) : AMap (w.alloc (.map #[] 0)) w.heap.size := ⟨#[], 0, (MapKept.heap_alloc w _).1, by intro e he; simp at he⟩

theorem AMap.lt {w : World} {b : Nat} (h : AMap w b) : b < w.heap.size := by
  obtain ⟨es, clock, hb, _⟩ := h
  exact (Array.getElem?_eq_some_iff.1 hb).1

theorem AMap.kept {w w' : World} {b : Nat} {S : Nat → Prop} (h : AMap w b) (ho : Only S w w') (hn : ¬ S b) : AMap w' b := by
  have hlt := h.lt
  obtain ⟨es, clock, hb, r⟩ := h
  exact ⟨es, clock, (ho.block b hlt hn).trans hb, r⟩

/-- 'm[k] = v'. -/
theorem AMap.update {w : World} {b : Nat} (h : AMap w b) (k : Nat → Int) (v : Value) :
    ∃ w', (Instr.mapUpdate 73 (.map (some b)) (pkey k) v).run Try.prog w = .ok () w' ∧ AMap w' b ∧ Only (fun x => x = b) w w' := by
  obtain ⟨es, clock, hb, hk⟩ := h
  have hg : ∀ o, Only (fun x => x = b) w (setBlock w b o) := fun o => ⟨rfl, rfl, rfl, by simp [setBlock], fun i _ hi => heap_setBlock_other hb _ (fun e => hi e)⟩
  rcases run_find k w es.toList hk with h1 | ⟨j, e0, h1, h2, h3⟩
  · refine ⟨setBlock w b (.map (es.push ⟨pkey k, v, clock⟩) (clock + 1)), ?_, ⟨_, _, heap_setBlock_same hb _, ?_⟩, hg _⟩
    · simp [Instr.mapUpdate, run_underlying Try.underlying73, MapKept.run_getObj_map hb, run_check_pkey, h1, MapKept.run_setObj_map _ hb, Result.andThen, setBlock]
    · intro e he
      simp only [Array.toList_push, List.mem_append, List.mem_singleton] at he
      rcases he with he | rfl
      · exact hk e he
      · exact ⟨k, rfl⟩
  · have hj : es[j]? = some e0 := by simpa using h2
    refine ⟨setBlock w b (.map (es.modify j (fun e' => { e' with key := pkey k, val := v })) clock), ?_, ⟨_, _, heap_setBlock_same hb _, ?_⟩, hg _⟩
    · simp [Instr.mapUpdate, run_underlying Try.underlying73, MapKept.run_getObj_map hb, run_check_pkey, h1, hj, h3, run_stays_pkey, MapKept.run_setObj_map _ hb, Result.andThen, setBlock]
    · have hlist : (es.modify j (fun e' => { e' with key := pkey k, val := v })).toList = es.toList.set j ⟨pkey k, v, e0.born⟩ := by rw [Array.toList_modify, modify_eq_set _ _ _ _ h2]
      intro e he
      rw [hlist] at he
      rcases List.mem_or_eq_of_mem_set he with he | rfl
      · exact hk e he
      · exact ⟨k, rfl⟩

end Go.Proofs.Qxb6613544a
