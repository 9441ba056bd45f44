/-
  TWO PEERS COMPARED; FLOATS COMPARED.
-/
import Derived.Test.Qxb6613544aLinks
import Derived.Laws.StructEq
namespace Go.Proofs.Qxb6613544a
open Go.RowKit

/-- Are the arrays alike? -/
def alikeI (n : Nat) (xs ys : List Int) : Bool := (List.range n).all fun i => xs.getD i 0 == ys.getD i 0

theorem alikeI_self (n : Nat) (xs : List Int) : alikeI n xs xs = true := by simp [alikeI]

theorem run_equalIn_ints {P : Program} (w : World) (d : Nat) (t e : TypeId) (n : Nat) (ht : P.underlying t = some (.array n e)) (he : P.underlying e = some (.int .u8)) (hsz : ∀ w, (sizeOf e).run P w = .ok 1 w)
    (xs ys : List Int) (hx : xs.length = n) (hy : ys.length = n) :
    (Op.equalIn (d + 2) t (.agg (xs.map (Value.int .u8)).toArray) (.agg (ys.map (Value.int .u8)).toArray)).run P w = .ok (alikeI n xs ys) w := by
  unfold alikeI
  rw [List.range_eq_range', Op.equalIn]
  simp only [Sem.run_bind, run_underlying ht, Result.andThen_ok, hsz, Std.Legacy.Range.forIn_eq_forIn_range', Std.Legacy.Range.size, Nat.sub_zero, Nat.add_sub_cancel, Nat.div_one]
  have hl : ∀ i ∈ List.range' 0 n 1, i < n := fun i hi => by simpa using (List.mem_range'_1.1 hi).2
  generalize List.range' 0 n 1 = l at hl ⊢
  induction l with
  | nil => simp
  | cons i l ih =>
    have hi : i < n := hl i (by simp)
    have px : (part e (xs.map (Value.int .u8)).toArray (i * 1)).run P w = .ok (.int .u8 (xs.getD i 0)) w := by
      simp [part, isAgg, run_underlying he, List.getD, List.getElem?_eq_getElem (show i < xs.length by omega)]
    have py : (part e (ys.map (Value.int .u8)).toArray (i * 1)).run P w = .ok (.int .u8 (ys.getD i 0)) w := by
      simp [part, isAgg, run_underlying he, List.getD, List.getElem?_eq_getElem (show i < ys.length by omega)]
    have pe : (Op.equalIn (d + 1) e (.int .u8 (xs.getD i 0)) (.int .u8 (ys.getD i 0))).run P w = .ok (xs.getD i 0 == ys.getD i 0) w := by
      rw [run_equalIn_int w d e .u8 .u8 _ _ he]
    simp only [List.forIn_cons, Sem.run_bind, px, py, pe, Result.andThen_ok, List.all_cons]
    cases hb : (xs.getD i 0 == ys.getD i 0)
    · simp
    · simp only [Bool.not_true, Bool.false_eq_true, if_false, Sem.run_pure, Result.andThen_ok, Bool.true_and]
      exact ih fun j hj => hl j (by simp [hj])

def plist (p : Nat → Int) : List Int := [p 0, p 1, p 2, p 3, p 4, p 5, p 6, p 7, p 8, p 9, p 10, p 11, p 12, p 13, p 14, p 15, p 16, p 17, p 18, p 19]
theorem pcells_eq (p : Nat → Int) : pcells p = (plist p).map (Value.int .u8) := rfl

theorem run_peer_eql (t : TypeId) (ht : Try.prog.underlying t = some (.array 20 5)) (p q : Nat → Int) (w : World) : (binOp .eql t (.agg (pcells p).toArray) (.agg (pcells q).toArray)).run Try.prog w = .ok (.bool (alikeI 20 (plist p) (plist q))) w := by
  rw [run_eql_struct, pcells_eq, pcells_eq, run_equalIn_ints w 9998 t 5 20 ht Try.underlying5 Try.sizeOf5 (plist p) (plist q) rfl rfl]
  rfl

theorem run_peer_neq (t : TypeId) (ht : Try.prog.underlying t = some (.array 20 5)) (p q : Nat → Int) (w : World) : (binOp .neq t (.agg (pcells p).toArray) (.agg (pcells q).toArray)).run Try.prog w = .ok (.bool (!alikeI 20 (plist p) (plist q))) w := by
  have h := run_equalIn_ints w 9998 t 5 20 ht Try.underlying5 Try.sizeOf5 (plist p) (plist q) rfl rfl
  rw [pcells_eq, pcells_eq]
  simp only [binOp, Op.equal, Op.maxDepth, Sem.run_bind]
  rw [h]
  rfl

theorem run_fgtr (P : Program) (w : World) (t : TypeId) (a b : Nat) : (binOp BinOp.gtr t (.float .f64 a) (.float .f64 b)).run P w = .ok (.bool (Ieee.double.order a b == some .gt)) w := by simp [binOp, Op.floatCmp, FloatKind.format]
theorem run_fgeq (P : Program) (w : World) (t : TypeId) (a b : Nat) : (binOp BinOp.geq t (.float .f64 a) (.float .f64 b)).run P w = .ok (.bool (Ieee.double.order a b == some .gt || Ieee.double.order a b == some .eq)) w := by simp [binOp, Op.floatCmp, FloatKind.format]
theorem run_fleq (P : Program) (w : World) (t : TypeId) (a b : Nat) : (binOp BinOp.leq t (.float .f64 a) (.float .f64 b)).run P w = .ok (.bool (Ieee.double.order a b == some .lt || Ieee.double.order a b == some .eq)) w := by simp [binOp, Op.floatCmp, FloatKind.format]
theorem run_fneq (P : Program) (w : World) (t : TypeId) (a b : Nat) : (binOp BinOp.neq t (.float .f64 a) (.float .f64 b)).run P w = .ok (.bool (Ieee.double.order a b != some .eq)) w := by simp [binOp, Op.floatCmp, FloatKind.format]

end Go.Proofs.Qxb6613544a
