/-
  ZZbeaconingAddLink, ZZnewBeaconing: THE WALKS.
-/
import Derived.Test.Qxb6613544aAMap
import Derived.Test.Qxb6613544aNewLink
namespace Go.Proofs.Qxb6613544a
open Go.RowKit

/-- A store into a map keyed by peers, as one step of a region that draws. -/
theorem step_put_map {ops : Array Oper} {o : Oper} {a : Act} {w : World} {K : Act → World → Prop} {Q : Exit → Act → World → Prop} {E : Prop} (hg : o.guard = none) (m x v : Operand) (hop : o.op = Op.mapUpdate 73 m x v)
    (b : Nat) (hm : a.eval m = .map (some b)) (p : Nat → Int) (hx : a.eval x = pkey p) (hb : AMap w b) (hK : ∀ w', AMap w' b → Only (fun k => k = b) w w' → K (a.put o.dst undef) w') :
    if Region.wanted o (yielded ops a.tmps) = true then Oper.wp Try.prog o a w K Q else E := by
  have hw : Region.wanted o (yielded ops a.tmps) = true := by simp [Region.wanted, hg]
  rw [if_pos hw]
  obtain ⟨w', hrun, r1, r2⟩ := hb.update p (a.eval v)
  unfold Oper.wp
  simp [execOp, hop, hm, hx, hrun, Result.andThen]
  exact hK w' r1 r2

set_option maxHeartbeats 4000000 in
set_option maxRecDepth 10000 in
theorem addLink_any (bb F mb : Nat) (p : Nat → Int) (w : World) (c6 : w.cell? ⟨bb, 6, none⟩ = some (.map (some mb))) (hr : w.rangeAt F 0 (pcells p)) (hm : AMap w mb) (hb : bb < w.heap.size) (hF : F < w.heap.size) (hbm : bb ≠ mb) (hFm : F ≠ mb) :
    Calls Try.prog 31 #[.pointer (some ⟨bb, 0, none⟩), .pointer (some ⟨F, 0, none⟩)] w fun e w' => e = .returned (.tuple #[]) ∧ AMap w' mb ∧ Only (fun k => k = mb) w w' := by
  have HR : Hid (w.rangeAt F 0 (pcells p) ∧ AMap w mb) := ⟨hr, hm⟩
  clear hr hm
  go_enter Try.func31, Try.ntmps31
  go_upto_region 0 with fail
  refine wp_region_held_drew (S := fun w' => w'.cell? ⟨bb, 6, none⟩ = some (.map (some mb)) ∧ w'.rangeAt F 0 (pcells p)) (by kernel_rfl) ⟨c6, HR.out.1⟩ (fun hHeld => ?_)
  refine wpAnyH_take (i := 0) (oi := { dst := some 4, op := Op.move (Operand.tmp 0), type := 29, pos := "zzexport.go:38", after := #[], guard := none }) (v := .pointer (some ⟨bb, 0, none⟩)) rfl (by kernel_rfl) (by kernel_rfl) (by kernel_rfl) (fun _ _ _ h => h) (Or.inl ⟨by rfl, by intro w hSw; go_simp⟩) (by assumption) ?_
  simp only [Act.put, List.setIfInBounds_toArray, List.set_cons_zero, List.set_cons_succ]
  refine wpAnyH_take (i := 1) (oi := { dst := some 5, op := Op.nilCheck (Operand.tmp 4), type := 0, pos := "zzexport.go:38", after := #[{ on := 0, ground := Ground.data }], guard := none }) (v := .pointer (some ⟨bb, 0, none⟩)) rfl (by kernel_rfl) (by kernel_rfl) (by kernel_rfl) (fun _ _ _ h => h) (Or.inl ⟨by rfl, by intro w hSw; go_simp⟩) (by assumption) ?_
  simp only [Act.put, List.setIfInBounds_toArray, List.set_cons_zero, List.set_cons_succ]
  refine wpAnyH_take (i := 2) (oi := { dst := some 6, op := Op.fieldAddr 76 (Operand.tmp 5) 6, type := 0, pos := "zzexport.go:38", after := #[{ on := 1, ground := Ground.data }], guard := none }) (v := .pointer (some ⟨bb, 6, none⟩)) rfl (by kernel_rfl) (by kernel_rfl) (by kernel_rfl) (fun _ _ _ h => h) (Or.inl ⟨by rfl, by intro w hSw; go_simp⟩) (by assumption) ?_
  simp only [Act.put, List.setIfInBounds_toArray, List.set_cons_zero, List.set_cons_succ]
  refine wpAnyH_take (i := 3) (oi := { dst := some 7, op := Op.load 73 (Operand.tmp 6), type := 73, pos := "zzexport.go:38", after := #[{ on := 2, ground := Ground.data }], guard := none }) (v := .map (some mb)) rfl (by kernel_rfl) (by kernel_rfl) (by kernel_rfl) (fun _ _ _ h => h) (Or.inl ⟨by rfl, by intro w hSw; have h6 := hSw.1; go_simp⟩) (by assumption) ?_
  simp only [Act.put, List.setIfInBounds_toArray, List.set_cons_zero, List.set_cons_succ]
  refine wpAnyH_take (i := 4) (oi := { dst := some 8, op := Op.move (Operand.tmp 1), type := 35, pos := "zzexport.go:38", after := #[], guard := none }) (v := .pointer (some ⟨F, 0, none⟩)) rfl (by kernel_rfl) (by kernel_rfl) (by kernel_rfl) (fun _ _ _ h => h) (Or.inl ⟨by rfl, by intro w hSw; go_simp⟩) (by assumption) ?_
  simp only [Act.put, List.setIfInBounds_toArray, List.set_cons_zero, List.set_cons_succ]
  refine wpAnyH_take (i := 5) (oi := { dst := some 9, op := Op.nilCheck (Operand.tmp 8), type := 0, pos := "zzexport.go:38", after := #[{ on := 4, ground := Ground.data }], guard := none }) (v := .pointer (some ⟨F, 0, none⟩)) rfl (by kernel_rfl) (by kernel_rfl) (by kernel_rfl) (fun _ _ _ h => h) (Or.inl ⟨by rfl, by intro w hSw; go_simp⟩) (by assumption) ?_
  simp only [Act.put, List.setIfInBounds_toArray, List.set_cons_zero, List.set_cons_succ]
  refine wpAnyH_take (i := 6) (oi := { dst := some 10, op := Op.fieldAddr 83 (Operand.tmp 9) 0, type := 0, pos := "zzexport.go:38", after := #[{ on := 5, ground := Ground.data }], guard := none }) (v := .pointer (some ⟨F, 0, none⟩)) rfl (by kernel_rfl) (by kernel_rfl) (by kernel_rfl) (fun _ _ _ h => h) (Or.inl ⟨by rfl, by intro w hSw; go_simp⟩) (by assumption) ?_
  simp only [Act.put, List.setIfInBounds_toArray, List.set_cons_zero, List.set_cons_succ]
  refine wpAnyH_take (i := 7) (oi := { dst := some 11, op := Op.load 39 (Operand.tmp 10), type := 39, pos := "zzexport.go:38", after := #[{ on := 6, ground := Ground.data }], guard := none }) (v := .agg (pcells p).toArray) rfl (by kernel_rfl) (by kernel_rfl) (by kernel_rfl) (fun _ _ _ h => h) (yieldsIf_load_mid (by rfl) 39 (.tmp 10) rfl (F) (0) rfl (pcells p) _ (fun _ h => h.2) Try.underlying39 rfl Try.size39) (by assumption) ?_
  simp only [Act.put, List.setIfInBounds_toArray, List.set_cons_zero, List.set_cons_succ]
  refine wpAnyH_take (i := 8) (oi := { dst := some 12, op := Op.move (Operand.tmp 1), type := 35, pos := "zzexport.go:38", after := #[], guard := none }) (v := .pointer (some ⟨F, 0, none⟩)) rfl (by kernel_rfl) (by kernel_rfl) (by kernel_rfl) (fun _ _ _ h => h) (Or.inl ⟨by rfl, by intro w hSw; go_simp⟩) (by assumption) ?_
  simp only [Act.put, List.setIfInBounds_toArray, List.set_cons_zero, List.set_cons_succ]
  refine wpAnyH_ready (rs := [9]) (by kernel_rfl) (by simp) ?_
  refine AllReadyH.cons (i := 9) (rs := []) (o := { dst := none, op := Op.mapUpdate 73 (Operand.tmp 7) (Operand.tmp 11) (Operand.tmp 12), type := 0, pos := "zzexport.go:38", after := #[{ on := 3, ground := Ground.data }, { on := 7, ground := Ground.data }, { on := 8, ground := Ground.data }, { on := 0, ground := Ground.phase }, { on := 1, ground := Ground.phase }, { on := 2, ground := Ground.phase }, { on := 3, ground := Ground.phase }, { on := 4, ground := Ground.phase }, { on := 5, ground := Ground.phase }, { on := 6, ground := Ground.phase }, { on := 7, ground := Ground.phase }, { on := 8, ground := Ground.phase }], guard := none }) (by kernel_rfl) ?_ AllReadyH.nil
  intro K hK
  refine step_put_map rfl (.tmp 7) (.tmp 11) (.tmp 12) rfl mb rfl p rfl HR.out.2 ?_
  intro w4 hm4 ho4
  have c4 := (ho4.cell (p := ⟨bb, 6, none⟩) hb hbm).trans c6
  refine hK.out _ _ ⟨c4, fun j u hu => (ho4.cell (p := ⟨F, 0 + j, none⟩) hF hFm).trans (HR.out.1 j u hu)⟩ (fun hHeld => ?_)
  refine wpAnyH_done (by kernel_rfl) ?_ _
  go_end0
  exact ⟨rfl, hm4, ho4.undrew⟩

/-- The 13 cells of a new beaconing. -/
def boxCells (period tick : Int) (hyst : Nat) (ticks : Int) (mb : Nat) (vo vg : Value) : List Value :=
  [.int .i64 period, .int .i64 tick, .float .f64 hyst, .float .f64 0, .int .u64 ticks, .int .u64 0, .map (some mb), vo, .slice none 0 0, vg, .slice none 0 0, .int .u64 0, .int .u64 0]

set_option maxHeartbeats 4000000 in
set_option maxRecDepth 10000 in
theorem newBeaconing_any (period tick : Int) (hyst : Nat) (ticks : Int) (ao ag : Option Addr) (no co ng cg : Nat) (w : World) :
    Calls Try.prog 30 #[.int .i64 period, .int .i64 tick, .float .f64 hyst, .int .u64 ticks, .slice ao no co, .slice ag ng cg] w fun e w' =>
      e = .returned (.pointer (some ⟨w.heap.size + 1, 0, none⟩)) ∧ w' = (w.alloc (.map #[] 0)).alloc (.cells (boxCells period tick hyst ticks w.heap.size (.slice ao no co) (.slice ag ng cg)).toArray 76) := by
  unfold boxCells
  have hmm := @run_makeMap Try.prog
  go_enter Try.func30, Try.ntmps30
  go_wp2
  go_ret
  exact ⟨rfl, rfl⟩

end Go.Proofs.Qxb6613544a
