/-
  AN EXPRESSION's CELLS; append IN A REGION THAT DRAWS.
-/
import Derived.Test.Qxb6613313aPartsWalk
import Derived.Deep.RegionLaw
namespace Go.Proofs.Qxb6613313a
open Go.RowKit

/-- An expression's fourteen cells. -/
def xcells (c : Value) (op val : ByteArray) : List Value :=
  [c, .string ⟨#[]⟩, .string op, .string val, .slice none 0 0, .int .i64 0, .bool false, .string ⟨#[]⟩, .int .i64 0, .bool false, .int .u64 0, .int .i64 0, .pointer none, .bool false]

def xzero : Value := .agg #[.slice none 0 0, .string ⟨#[]⟩, .string ⟨#[]⟩, .string ⟨#[]⟩, .slice none 0 0, .int .i64 0, .bool false, .string ⟨#[]⟩, .int .i64 0, .bool false, .int .u64 0, .int .i64 0, .pointer none, .bool false]

theorem Try.info80 : (Try.prog.info? 80).map (fun i => (i.zero, i.size, i.bytes)) = some (some xzero, 14, 176) := by kernel_rfl

theorem xcells_one (a : Option Addr) (n c : Nat) (op val : ByteArray) : ∀ u ∈ xcells (.slice a n c) op val, u.oneCell' = true := by
  intro u hu
  simp [xcells] at hu
  rcases hu with rfl | rfl | rfl | rfl | rfl | rfl | rfl | rfl | rfl | rfl | rfl | rfl | rfl | rfl <;> rfl

/-- append TO A ROW OF THE CALL's OWN, as one step of a region that draws. -/
theorem step_append_own {P : Program} {ops : Array Oper} {o : Oper} {a : Act} {w : World} {K : Act → World → Prop} {Q : Exit → Act → World → Prop} {E : Prop}
    (hg : o.guard = none) (s x : Operand) (t : TypeId) (hop : o.op = Op.call { callee := Callee.builtin Builtin.append, args := #[s, x], argTypes := #[t, t] })
    (base : Nat) (e : TypeId) (i : TypeInfo) (z : Value) (size bytes : Nat) (h1 : P.underlying t = some (.slice e)) (h2 : P.info? e = some i) (h3 : i.zero = some z) (h4 : i.size = size) (h5 : i.bytes = bytes) (h6 : z.cells.size = size) (h7 : 0 < size)
    (v : Value) (n : Nat) (xs : List Value) (hs : a.eval s = v) (hown : w.ownsRow base e size v n xs)
    (ad : Addr) (m c : Nat) (news : List Value) (hx : a.eval x = .slice (some ad) m c) (hn : news.length = m * size) (hc : ∀ j u, news[j]? = some u → w.cell? (ad.add j) = some u) (h1c : ∀ u ∈ news, u.oneCell' = true)
    (b1 : n + m ≤ maxLen) (b2 : (n + m) * bytes ≤ 140737488355328) (b3 : base ≤ w.heap.size)
    (hK : ∀ v' w', w'.ownsRow base e size v' (n + m) (xs ++ news) → w.grownBy w' v.ownBlock → (v'.ownBlock = v.ownBlock ∨ v'.ownBlock = some w.heap.size) → K (a.put o.dst v') w') :
    if Region.wanted o (yielded ops a.tmps) = true then Oper.wp P o a w K Q else E := by
  have hw : Region.wanted o (yielded ops a.tmps) = true := by simp [Region.wanted, hg]
  rw [if_pos hw]
  obtain ⟨v', w', hrun, r1, r2, _, r4⟩ := run_append_own_at (P := P) w base t o.type e i z size bytes h1 h2 h3 h4 h5 h6 h7 v n xs hown ad m c news hn hc h1c b1 b2 b3
  unfold Oper.wp
  simp [execOp, hop, resolve, invoke, builtin, hs, hx, hrun, Result.andThen]
  exact hK v' w' r1 r2 r4

/-- New cells, as they were laid. -/
theorem cells_new (w : World) (xs : List Value) (t : TypeId) : ∀ j u, xs[j]? = some u → (w.alloc (.cells xs.toArray t)).cell? ((⟨w.heap.size, 0, none⟩ : Addr).add j) = some u := by
  intro j u hj
  have hadd : (⟨w.heap.size, 0, none⟩ : Addr).add j = ⟨w.heap.size, j, none⟩ := by unfold Addr.add; split <;> simp_all
  rw [hadd, cell_of_row _ w.heap.size j xs.toArray t (0, 0) (heap_alloc_new w _)]
  simpa using hj

/-- A slice that owns its row, written out. -/
theorem own_form {w : World} {base : Nat} {e : TypeId} {v : Value} {n : Nat} {xs : List Value} (h : w.ownsRow base e 1 v n xs) :
    ∃ a cap g, v = .slice a n cap ∧ n ≤ cap ∧ cap ≤ maxLen ∧ (0 < n → a = some ⟨g, 0, none⟩ ∧ base ≤ g ∧ g < w.heap.size) ∧ ∀ j u, xs[j]? = some u → w.cell? ⟨g, 0 + j, none⟩ = some u := by
  have h0 := h
  rcases h.2 with ⟨rfl, rfl⟩ | ⟨g, cap, cur, rfl, hb, hg, h1, h2, _⟩
  · refine ⟨none, 0, 0, rfl, Nat.le_refl _, Nat.zero_le _, fun h => absurd h (by omega), fun j u hu => ?_⟩
    have := h0.1
    have hx : xs = [] := List.eq_nil_of_length_eq_zero (by omega)
    rw [hx] at hu
    simp at hu
  · refine ⟨_, cap, g, rfl, h1, h2, fun _ => ⟨rfl, hb, (Array.getElem?_eq_some_iff.1 hg).1⟩, fun j u hu => ?_⟩
    have := h0.cells (g := g) rfl j u hu
    have hadd : (⟨g, 0, none⟩ : Addr).add j = ⟨g, 0 + j, none⟩ := by unfold Addr.add; split <;> simp_all
    rwa [hadd] at this

/-- .. of whatever size its elements are, where it holds one. -/
theorem own_some {w : World} {base : Nat} {e : TypeId} {size : Nat} {v : Value} {n : Nat} {xs : List Value} (h : w.ownsRow base e size v (n + 1) xs) : ∃ g cap, v = .slice (some ⟨g, 0, none⟩) (n + 1) cap ∧ base ≤ g ∧ g < w.heap.size := by
  rcases h.2 with ⟨_, h0⟩ | ⟨g, cap, cur, rfl, hb, hg, _⟩
  · omega
  · exact ⟨g, cap, rfl, hb, (Array.getElem?_eq_some_iff.1 hg).1⟩

/-- All cells of the first n expressions. -/
def flat (A : List Value) (L : List Ex) : Nat → List Value
  | 0 => []
  | k + 1 => flat A L k ++ xcells (A.getD k (.slice none 0 0)) (L.getD k Ex.zero).op (L.getD k Ex.zero).val

theorem flat_length (A : List Value) (L : List Ex) : ∀ k, (flat A L k).length = k * 14
  | 0 => rfl
  | k + 1 => by
    rw [flat, List.length_append, flat_length A L k]
    simp [xcells]
    omega

theorem flat_get (A : List Value) (L : List Ex) : ∀ (n k j : Nat), k < n → j < 14 → (flat A L n)[k * 14 + j]? = (xcells (A.getD k (.slice none 0 0)) (L.getD k Ex.zero).op (L.getD k Ex.zero).val)[j]?
  | 0, k, j, hk, _ => absurd hk (by omega)
  | n + 1, k, j, hk, hj => by
    rw [flat]
    by_cases h : k < n
    · rw [List.getElem?_append_left (by rw [flat_length]; omega)]
      exact flat_get A L n k j h hj
    · obtain rfl : k = n := by omega
      rw [List.getElem?_append_right (by rw [flat_length]; omega), flat_length]
      congr 1
      omega

end Go.Proofs.Qxb6613313a
