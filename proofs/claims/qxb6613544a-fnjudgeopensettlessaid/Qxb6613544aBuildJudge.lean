/-
  buildJudge: THE WALK.
-/
import Derived.Test.Qxb6613544aMade
namespace Go.Proofs.Qxb6613544a
open Go.RowKit

/-- A call, its arguments a list. -/
theorem step_callL {P : Program} {ops : Array Oper} {o : Oper} {a : Act} {w : World} {K : Act → World → Prop} {Q : Exit → Act → World → Prop} {E : Prop}
    (hg : o.guard = none) (f : FuncId) (xs : List Operand) (ts : Array TypeId) (hop : o.op = Op.call { callee := Callee.value (Operand.func f), args := xs.toArray, argTypes := ts })
    (vs : List Value) (hvs : xs.map a.eval = vs) (hen : ∀ (ys : Array Value) (w : World), (callFunc f ys).run P w = .ok (.enter f ys) w) (R : Ending → World → Prop) (hc : Calls P f vs.toArray w R)
    (hK : ∀ e w', R e w' → ∃ v, e = .returned v ∧ K (a.put o.dst v) w') :
    if Region.wanted o (yielded ops a.tmps) = true then Oper.wp P o a w K Q else E :=
  step_call hg f xs.toArray ts hop vs.toArray (by rw [List.map_toArray, hvs]) hen R hc hK

theorem enters29 : ∀ (ys : Array Value) (w : World), (callFunc 29 ys).run Try.prog w = .ok (.enter 29 ys) w := Go.Proofs.enters_of Try.func29 (by kernel_rfl) rfl
theorem enters28 : ∀ (ys : Array Value) (w : World), (callFunc 28 ys).run Try.prog w = .ok (.enter 28 ys) w := Go.Proofs.enters_of Try.func28 (by kernel_rfl) rfl

set_option maxHeartbeats 16000000 in
set_option maxRecDepth 10000 in
theorem buildJudge_any (B : Nat) (period tick : Int) (hyst : Nat) (ticks : Int) (a : Option Addr) (len cap b o : Nat) (f : Nat → Lk) (a' : Option Addr) (len' cap' b' o' : Nat) (g : Nat → Nat → Int) (w : World) (hR : LRow B w a len cap b o f) (hR' : GRow B w a' len' cap' b' o' g) (hB : B ≤ w.heap.size) (hS : Sized len len' f) (hFine : ∀ i, i < len → Fine (f i) ticks) :
    Calls Try.prog 10 #[.int .i64 period, .int .i64 tick, .float .f64 hyst, .int .u64 ticks, .slice a len cap, .slice a' len' cap'] w fun e w' => ∃ (Fs : Nat → Nat) (es : Nat → Ent) (bb go : Nat) (vg : Value) (lsb : Nat), e = .returned (.tuple #[.pointer (some ⟨bb, 0, none⟩), .slice (some ⟨lsb, 0, none⟩) len len]) ∧ Made w w' len len' f g period tick hyst ticks Fs es bb go vg lsb := by
  obtain ⟨i35, hi35, hz35, hs35, hb35⟩ := info_parts Try.info35
  have HI35 : Hid (Try.prog.info? 35 = some i35 ∧ i35.zero = some (.pointer none) ∧ i35.size = 1 ∧ i35.bytes = 8) := ⟨hi35, hz35, hs35, hb35⟩
  have HR : Hid (LRow B w a len cap b o f) := hR
  have HR' : Hid (GRow B w a' len' cap' b' o' g) := hR'
  have HS : Hid (Sized len len' f) := hS
  have HFine : Hid (∀ i, i < len → Fine (f i) ticks) := hFine
  have hlc := hR.lc
  have hcm := hR.cm
  have hlc' := hR'.lc
  have hcm' := hR'.cm
  have hl4 := hS.l
  have hg4 := hS.g
  unfold maxLen at hcm hcm'
  clear hR hR' hS hFine
  go_enter Try.func10, Try.ntmps10
  go_wp2_with (at_make; refine wpList_make_own _ rfl _ _ 30 rfl w.heap.size 35 i35 (.pointer none) 1 Try.underlying30 HI35.out.1 HI35.out.2.1 HI35.out.2.2.1 .i64 .i64 _ len rfl rfl (by omega) (by rw [HI35.out.2.2.2]; omega) (by unfold maxLen; omega) (Nat.le_refl _) ?_; intro w1 hown1 hgrow1)
  clear hi35 hz35 hs35 hb35
  obtain ⟨lsb, hlsb⟩ : ∃ z, z = w.heap.size := ⟨_, rfl⟩
  have HB0 : Hid (Built w w1 w.heap.size 0 f (fun _ => 0) (fun _ => ⟨f 0, .slice none 0 0, .slice none 0 0⟩) lsb len) := by
    have hb1 : Below w.heap.size w w1 := (Below.refl _ _).grown hgrow1 (Nat.le_refl _) (fun j hj => by simp at hj)
    rw [hlsb]
    exact ⟨fun i hi => absurd hi (by omega), fun i hi => absurd hi (by omega), fun i j x hi => absurd hi (by omega), fun i hi => absurd hi (by omega), by simpa using hown1, hb1, hb1.size⟩
  clear hown1 hgrow1
  rw [← hlsb]
  clear hlsb
  go_loopw [14, 28] (fun s14 s28 wr => ∃ (k : Nat) (Fs : Nat → Nat) (es : Nat → Ent), k ≤ len ∧ s28 = .int .i64 k ∧ s14 = .slice (some ⟨lsb, 0, none⟩) k len ∧ Built w wr w.heap.size k f Fs es lsb len) (fun _ s28 _ => len - (intOf s28).toNat)
  case atStart => exact ⟨0, _, _, Nat.zero_le _, rfl, rfl, HB0.out⟩
  case round =>
    obtain ⟨k, Fs, es, hk, rfl, rfl, hBt⟩ := hrel
    have HBt : Hid (Built w wr w.heap.size k f Fs es lsb len) := hBt
    by_cases hlt : k < len
    · obtain ⟨am, cm, bm, om, ap, cp, bp, op, hl⟩ := (HR.out.kept (hBt.below.mono hB)).link k hlt
      obtain ⟨hada, hbB⟩ := HR.out.at_ (by omega)
      subst hada
      have hBw : B ≤ wr.heap.size := Nat.le_trans hB hBt.size
      have HL : Hid (LCell B wr b (o + k * 28) (f k) am cm bm om ap cp bp op) := hl
      have HLd : Hid (LCell B wr.drew b (o + k * 28) (f k) am cm bm om ap cp bp op) := hl.kept hbB (Below.refl _ _).drew
      have HM : Hid _ := buildBeacons_any B am (f k).missed.length cm bm om (f k).missed wr.drew HLd.out.mrow hBw (HS.out.m k hlt)
      have hPl := HS.out.p k hlt
      have hkI : (k : Int) < (len : Int) := by omega
      clear hl hBt
      go_upto_region 6 with fail
      refine wp_region_held_drew (S := fun w' => LCell B w' b (o + k * 28) (f k) am cm bm om ap cp bp op) (by kernel_rfl) HLd.out (fun hHeld => ?_)
      refine wpAnyH_take (i := 0) (oi := { dst := some 34, op := Op.move (Operand.tmp 14), type := 30, pos := "laws_root_b1.go:128", after := #[], guard := none }) (v := .slice (some ⟨lsb, 0, none⟩) k len) rfl (by kernel_rfl) (by kernel_rfl) (by kernel_rfl) (fun _ _ _ h => h) (Or.inl ⟨by rfl, by intro w hSw; go_simp⟩) (by assumption) ?_
      simp only [Act.put, List.setIfInBounds_toArray, List.set_cons_zero, List.set_cons_succ]
      refine wpAnyH_take (i := 1) (oi := { dst := some 35, op := Op.move (Operand.tmp 16), type := 52, pos := "laws_root_b1.go:128", after := #[], guard := none }) (v := .pointer (some ⟨b, o + k * 28, none⟩)) rfl (by kernel_rfl) (by kernel_rfl) (by kernel_rfl) (fun _ _ _ h => h) (Or.inl ⟨by rfl, by intro w hSw; go_simp⟩) (by assumption) ?_
      simp only [Act.put, List.setIfInBounds_toArray, List.set_cons_zero, List.set_cons_succ]
      refine wpAnyH_take (i := 2) (oi := { dst := some 36, op := Op.nilCheck (Operand.tmp 35), type := 0, pos := "laws_root_b1.go:128", after := #[{ on := 1, ground := Ground.data }], guard := none }) (v := .pointer (some ⟨b, o + k * 28, none⟩)) rfl (by kernel_rfl) (by kernel_rfl) (by kernel_rfl) (fun _ _ _ h => h) (Or.inl ⟨by rfl, by intro w hSw; go_simp⟩) (by assumption) ?_
      simp only [Act.put, List.setIfInBounds_toArray, List.set_cons_zero, List.set_cons_succ]
      refine wpAnyH_take (i := 3) (oi := { dst := some 37, op := Op.fieldAddr 48 (Operand.tmp 36) 0, type := 0, pos := "laws_root_b1.go:128", after := #[{ on := 2, ground := Ground.data }], guard := none }) (v := .pointer (some ⟨b, o + k * 28, none⟩)) rfl (by kernel_rfl) (by kernel_rfl) (by kernel_rfl) (fun _ _ _ h => h) (Or.inl ⟨by rfl, by intro w hSw; go_simp⟩) (by assumption) ?_
      simp only [Act.put, List.setIfInBounds_toArray, List.set_cons_zero, List.set_cons_succ]
      refine wpAnyH_take (i := 4) (oi := { dst := some 38, op := Op.load 38 (Operand.tmp 37), type := 38, pos := "laws_root_b1.go:128", after := #[{ on := 3, ground := Ground.data }], guard := none }) (v := .agg (pcells (f k).peer).toArray) rfl (by kernel_rfl) (by kernel_rfl) (by kernel_rfl) (fun _ _ _ h => h) (yieldsIf_load_mid (by rfl) 38 (.tmp 37) rfl (b) (o + k * 28) rfl (pcells (f k).peer) _ (fun _ h => h.peer) Try.underlying38 rfl Try.size38) (by assumption) ?_
      simp only [Act.put, List.setIfInBounds_toArray, List.set_cons_zero, List.set_cons_succ]
      refine wpAnyH_take (i := 5) (oi := { dst := some 39, op := Op.move (Operand.tmp 16), type := 52, pos := "laws_root_b1.go:128", after := #[], guard := none }) (v := .pointer (some ⟨b, o + k * 28, none⟩)) rfl (by kernel_rfl) (by kernel_rfl) (by kernel_rfl) (fun _ _ _ h => h) (Or.inl ⟨by rfl, by intro w hSw; go_simp⟩) (by assumption) ?_
      simp only [Act.put, List.setIfInBounds_toArray, List.set_cons_zero, List.set_cons_succ]
      refine wpAnyH_take (i := 6) (oi := { dst := some 40, op := Op.nilCheck (Operand.tmp 39), type := 0, pos := "laws_root_b1.go:128", after := #[{ on := 5, ground := Ground.data }], guard := none }) (v := .pointer (some ⟨b, o + k * 28, none⟩)) rfl (by kernel_rfl) (by kernel_rfl) (by kernel_rfl) (fun _ _ _ h => h) (Or.inl ⟨by rfl, by intro w hSw; go_simp⟩) (by assumption) ?_
      simp only [Act.put, List.setIfInBounds_toArray, List.set_cons_zero, List.set_cons_succ]
      refine wpAnyH_take (i := 7) (oi := { dst := some 41, op := Op.fieldAddr 48 (Operand.tmp 40) 1, type := 0, pos := "laws_root_b1.go:128", after := #[{ on := 6, ground := Ground.data }], guard := none }) (v := .pointer (some ⟨b, o + k * 28 + 20, none⟩)) rfl (by kernel_rfl) (by kernel_rfl) (by kernel_rfl) (fun _ _ _ h => h) (Or.inl ⟨by rfl, by intro w hSw; go_simp⟩) (by assumption) ?_
      simp only [Act.put, List.setIfInBounds_toArray, List.set_cons_zero, List.set_cons_succ]
      refine wpAnyH_take (i := 8) (oi := { dst := some 42, op := Op.load 22 (Operand.tmp 41), type := 22, pos := "laws_root_b1.go:128", after := #[{ on := 7, ground := Ground.data }], guard := none }) (v := .float .f64 (f k).loss) rfl (by kernel_rfl) (by kernel_rfl) (by kernel_rfl) (fun _ _ _ h => h) (Or.inl ⟨by rfl, by intro w hSw; have h6 := hSw.c20; clear hSw; go_simp⟩) (by assumption) ?_
      simp only [Act.put, List.setIfInBounds_toArray, List.set_cons_zero, List.set_cons_succ]
      refine wpAnyH_take (i := 9) (oi := { dst := some 43, op := Op.move (Operand.tmp 16), type := 52, pos := "laws_root_b1.go:128", after := #[], guard := none }) (v := .pointer (some ⟨b, o + k * 28, none⟩)) rfl (by kernel_rfl) (by kernel_rfl) (by kernel_rfl) (fun _ _ _ h => h) (Or.inl ⟨by rfl, by intro w hSw; go_simp⟩) (by assumption) ?_
      simp only [Act.put, List.setIfInBounds_toArray, List.set_cons_zero, List.set_cons_succ]
      refine wpAnyH_take (i := 10) (oi := { dst := some 44, op := Op.nilCheck (Operand.tmp 43), type := 0, pos := "laws_root_b1.go:128", after := #[{ on := 9, ground := Ground.data }], guard := none }) (v := .pointer (some ⟨b, o + k * 28, none⟩)) rfl (by kernel_rfl) (by kernel_rfl) (by kernel_rfl) (fun _ _ _ h => h) (Or.inl ⟨by rfl, by intro w hSw; go_simp⟩) (by assumption) ?_
      simp only [Act.put, List.setIfInBounds_toArray, List.set_cons_zero, List.set_cons_succ]
      refine wpAnyH_take (i := 11) (oi := { dst := some 45, op := Op.fieldAddr 48 (Operand.tmp 44) 2, type := 0, pos := "laws_root_b1.go:128", after := #[{ on := 10, ground := Ground.data }], guard := none }) (v := .pointer (some ⟨b, o + k * 28 + 21, none⟩)) rfl (by kernel_rfl) (by kernel_rfl) (by kernel_rfl) (fun _ _ _ h => h) (Or.inl ⟨by rfl, by intro w hSw; go_simp⟩) (by assumption) ?_
      simp only [Act.put, List.setIfInBounds_toArray, List.set_cons_zero, List.set_cons_succ]
      refine wpAnyH_take (i := 12) (oi := { dst := some 46, op := Op.load 42 (Operand.tmp 45), type := 42, pos := "laws_root_b1.go:128", after := #[{ on := 11, ground := Ground.data }], guard := none }) (v := .slice am (f k).missed.length cm) rfl (by kernel_rfl) (by kernel_rfl) (by kernel_rfl) (fun _ _ _ h => h) (Or.inl ⟨by rfl, by intro w hSw; have h6 := hSw.c21; clear hSw; go_simp⟩) (by assumption) ?_
      simp only [Act.put, List.setIfInBounds_toArray, List.set_cons_zero, List.set_cons_succ]
      refine wpAnyH_take (i := 14) (oi := { dst := some 48, op := Op.move (Operand.tmp 16), type := 52, pos := "laws_root_b1.go:128", after := #[], guard := none }) (v := .pointer (some ⟨b, o + k * 28, none⟩)) rfl (by kernel_rfl) (by kernel_rfl) (by kernel_rfl) (fun _ _ _ h => h) (Or.inl ⟨by rfl, by intro w hSw; go_simp⟩) (by assumption) ?_
      simp only [Act.put, List.setIfInBounds_toArray, List.set_cons_zero, List.set_cons_succ]
      refine wpAnyH_take (i := 15) (oi := { dst := some 49, op := Op.nilCheck (Operand.tmp 48), type := 0, pos := "laws_root_b1.go:128", after := #[{ on := 14, ground := Ground.data }], guard := none }) (v := .pointer (some ⟨b, o + k * 28, none⟩)) rfl (by kernel_rfl) (by kernel_rfl) (by kernel_rfl) (fun _ _ _ h => h) (Or.inl ⟨by rfl, by intro w hSw; go_simp⟩) (by assumption) ?_
      simp only [Act.put, List.setIfInBounds_toArray, List.set_cons_zero, List.set_cons_succ]
      refine wpAnyH_take (i := 16) (oi := { dst := some 50, op := Op.fieldAddr 48 (Operand.tmp 49) 3, type := 0, pos := "laws_root_b1.go:128", after := #[{ on := 15, ground := Ground.data }], guard := none }) (v := .pointer (some ⟨b, o + k * 28 + 22, none⟩)) rfl (by kernel_rfl) (by kernel_rfl) (by kernel_rfl) (fun _ _ _ h => h) (Or.inl ⟨by rfl, by intro w hSw; go_simp⟩) (by assumption) ?_
      simp only [Act.put, List.setIfInBounds_toArray, List.set_cons_zero, List.set_cons_succ]
      refine wpAnyH_take (i := 17) (oi := { dst := some 51, op := Op.load 42 (Operand.tmp 50), type := 42, pos := "laws_root_b1.go:128", after := #[{ on := 16, ground := Ground.data }], guard := none }) (v := .slice ap (f k).pending.length cp) rfl (by kernel_rfl) (by kernel_rfl) (by kernel_rfl) (fun _ _ _ h => h) (Or.inl ⟨by rfl, by intro w hSw; have h6 := hSw.c22; clear hSw; go_simp⟩) (by assumption) ?_
      simp only [Act.put, List.setIfInBounds_toArray, List.set_cons_zero, List.set_cons_succ]
      refine wpAnyH_take (i := 19) (oi := { dst := some 53, op := Op.move (Operand.tmp 16), type := 52, pos := "laws_root_b1.go:128", after := #[], guard := none }) (v := .pointer (some ⟨b, o + k * 28, none⟩)) rfl (by kernel_rfl) (by kernel_rfl) (by kernel_rfl) (fun _ _ _ h => h) (Or.inl ⟨by rfl, by intro w hSw; go_simp⟩) (by assumption) ?_
      simp only [Act.put, List.setIfInBounds_toArray, List.set_cons_zero, List.set_cons_succ]
      refine wpAnyH_take (i := 20) (oi := { dst := some 54, op := Op.nilCheck (Operand.tmp 53), type := 0, pos := "laws_root_b1.go:128", after := #[{ on := 19, ground := Ground.data }], guard := none }) (v := .pointer (some ⟨b, o + k * 28, none⟩)) rfl (by kernel_rfl) (by kernel_rfl) (by kernel_rfl) (fun _ _ _ h => h) (Or.inl ⟨by rfl, by intro w hSw; go_simp⟩) (by assumption) ?_
      simp only [Act.put, List.setIfInBounds_toArray, List.set_cons_zero, List.set_cons_succ]
      refine wpAnyH_take (i := 21) (oi := { dst := some 55, op := Op.fieldAddr 48 (Operand.tmp 54) 4, type := 0, pos := "laws_root_b1.go:128", after := #[{ on := 20, ground := Ground.data }], guard := none }) (v := .pointer (some ⟨b, o + k * 28 + 23, none⟩)) rfl (by kernel_rfl) (by kernel_rfl) (by kernel_rfl) (fun _ _ _ h => h) (Or.inl ⟨by rfl, by intro w hSw; go_simp⟩) (by assumption) ?_
      simp only [Act.put, List.setIfInBounds_toArray, List.set_cons_zero, List.set_cons_succ]
      refine wpAnyH_take (i := 22) (oi := { dst := some 56, op := Op.load 2 (Operand.tmp 55), type := 2, pos := "laws_root_b1.go:128", after := #[{ on := 21, ground := Ground.data }], guard := none }) (v := .int .i64 (f k).rtt) rfl (by kernel_rfl) (by kernel_rfl) (by kernel_rfl) (fun _ _ _ h => h) (Or.inl ⟨by rfl, by intro w hSw; have h6 := hSw.c23; clear hSw; go_simp⟩) (by assumption) ?_
      simp only [Act.put, List.setIfInBounds_toArray, List.set_cons_zero, List.set_cons_succ]
      refine wpAnyH_take (i := 23) (oi := { dst := some 57, op := Op.move (Operand.tmp 16), type := 52, pos := "laws_root_b1.go:128", after := #[], guard := none }) (v := .pointer (some ⟨b, o + k * 28, none⟩)) rfl (by kernel_rfl) (by kernel_rfl) (by kernel_rfl) (fun _ _ _ h => h) (Or.inl ⟨by rfl, by intro w hSw; go_simp⟩) (by assumption) ?_
      simp only [Act.put, List.setIfInBounds_toArray, List.set_cons_zero, List.set_cons_succ]
      refine wpAnyH_take (i := 24) (oi := { dst := some 58, op := Op.nilCheck (Operand.tmp 57), type := 0, pos := "laws_root_b1.go:128", after := #[{ on := 23, ground := Ground.data }], guard := none }) (v := .pointer (some ⟨b, o + k * 28, none⟩)) rfl (by kernel_rfl) (by kernel_rfl) (by kernel_rfl) (fun _ _ _ h => h) (Or.inl ⟨by rfl, by intro w hSw; go_simp⟩) (by assumption) ?_
      simp only [Act.put, List.setIfInBounds_toArray, List.set_cons_zero, List.set_cons_succ]
      refine wpAnyH_take (i := 25) (oi := { dst := some 59, op := Op.fieldAddr 48 (Operand.tmp 58) 5, type := 0, pos := "laws_root_b1.go:128", after := #[{ on := 24, ground := Ground.data }], guard := none }) (v := .pointer (some ⟨b, o + k * 28 + 24, none⟩)) rfl (by kernel_rfl) (by kernel_rfl) (by kernel_rfl) (fun _ _ _ h => h) (Or.inl ⟨by rfl, by intro w hSw; go_simp⟩) (by assumption) ?_
      simp only [Act.put, List.setIfInBounds_toArray, List.set_cons_zero, List.set_cons_succ]
      refine wpAnyH_take (i := 26) (oi := { dst := some 60, op := Op.load 4 (Operand.tmp 59), type := 4, pos := "laws_root_b1.go:128", after := #[{ on := 25, ground := Ground.data }], guard := none }) (v := .bool (f k).timed) rfl (by kernel_rfl) (by kernel_rfl) (by kernel_rfl) (fun _ _ _ h => h) (Or.inl ⟨by rfl, by intro w hSw; have h6 := hSw.c24; clear hSw; go_simp⟩) (by assumption) ?_
      simp only [Act.put, List.setIfInBounds_toArray, List.set_cons_zero, List.set_cons_succ]
      refine wpAnyH_take (i := 27) (oi := { dst := some 61, op := Op.move (Operand.tmp 16), type := 52, pos := "laws_root_b1.go:128", after := #[], guard := none }) (v := .pointer (some ⟨b, o + k * 28, none⟩)) rfl (by kernel_rfl) (by kernel_rfl) (by kernel_rfl) (fun _ _ _ h => h) (Or.inl ⟨by rfl, by intro w hSw; go_simp⟩) (by assumption) ?_
      simp only [Act.put, List.setIfInBounds_toArray, List.set_cons_zero, List.set_cons_succ]
      refine wpAnyH_take (i := 28) (oi := { dst := some 62, op := Op.nilCheck (Operand.tmp 61), type := 0, pos := "laws_root_b1.go:128", after := #[{ on := 27, ground := Ground.data }], guard := none }) (v := .pointer (some ⟨b, o + k * 28, none⟩)) rfl (by kernel_rfl) (by kernel_rfl) (by kernel_rfl) (fun _ _ _ h => h) (Or.inl ⟨by rfl, by intro w hSw; go_simp⟩) (by assumption) ?_
      simp only [Act.put, List.setIfInBounds_toArray, List.set_cons_zero, List.set_cons_succ]
      refine wpAnyH_take (i := 29) (oi := { dst := some 63, op := Op.fieldAddr 48 (Operand.tmp 62) 6, type := 0, pos := "laws_root_b1.go:128", after := #[{ on := 28, ground := Ground.data }], guard := none }) (v := .pointer (some ⟨b, o + k * 28 + 25, none⟩)) rfl (by kernel_rfl) (by kernel_rfl) (by kernel_rfl) (fun _ _ _ h => h) (Or.inl ⟨by rfl, by intro w hSw; go_simp⟩) (by assumption) ?_
      simp only [Act.put, List.setIfInBounds_toArray, List.set_cons_zero, List.set_cons_succ]
      refine wpAnyH_take (i := 30) (oi := { dst := some 64, op := Op.load 2 (Operand.tmp 63), type := 2, pos := "laws_root_b1.go:128", after := #[{ on := 29, ground := Ground.data }], guard := none }) (v := .int .i64 (f k).srtt) rfl (by kernel_rfl) (by kernel_rfl) (by kernel_rfl) (fun _ _ _ h => h) (Or.inl ⟨by rfl, by intro w hSw; have h6 := hSw.c25; clear hSw; go_simp⟩) (by assumption) ?_
      simp only [Act.put, List.setIfInBounds_toArray, List.set_cons_zero, List.set_cons_succ]
      refine wpAnyH_take (i := 31) (oi := { dst := some 65, op := Op.move (Operand.tmp 16), type := 52, pos := "laws_root_b1.go:128", after := #[], guard := none }) (v := .pointer (some ⟨b, o + k * 28, none⟩)) rfl (by kernel_rfl) (by kernel_rfl) (by kernel_rfl) (fun _ _ _ h => h) (Or.inl ⟨by rfl, by intro w hSw; go_simp⟩) (by assumption) ?_
      simp only [Act.put, List.setIfInBounds_toArray, List.set_cons_zero, List.set_cons_succ]
      refine wpAnyH_take (i := 32) (oi := { dst := some 66, op := Op.nilCheck (Operand.tmp 65), type := 0, pos := "laws_root_b1.go:128", after := #[{ on := 31, ground := Ground.data }], guard := none }) (v := .pointer (some ⟨b, o + k * 28, none⟩)) rfl (by kernel_rfl) (by kernel_rfl) (by kernel_rfl) (fun _ _ _ h => h) (Or.inl ⟨by rfl, by intro w hSw; go_simp⟩) (by assumption) ?_
      simp only [Act.put, List.setIfInBounds_toArray, List.set_cons_zero, List.set_cons_succ]
      refine wpAnyH_take (i := 33) (oi := { dst := some 67, op := Op.fieldAddr 48 (Operand.tmp 66) 7, type := 0, pos := "laws_root_b1.go:128", after := #[{ on := 32, ground := Ground.data }], guard := none }) (v := .pointer (some ⟨b, o + k * 28 + 26, none⟩)) rfl (by kernel_rfl) (by kernel_rfl) (by kernel_rfl) (fun _ _ _ h => h) (Or.inl ⟨by rfl, by intro w hSw; go_simp⟩) (by assumption) ?_
      simp only [Act.put, List.setIfInBounds_toArray, List.set_cons_zero, List.set_cons_succ]
      refine wpAnyH_take (i := 34) (oi := { dst := some 68, op := Op.load 2 (Operand.tmp 67), type := 2, pos := "laws_root_b1.go:128", after := #[{ on := 33, ground := Ground.data }], guard := none }) (v := .int .i64 (f k).rttvar) rfl (by kernel_rfl) (by kernel_rfl) (by kernel_rfl) (fun _ _ _ h => h) (Or.inl ⟨by rfl, by intro w hSw; have h6 := hSw.c26; clear hSw; go_simp⟩) (by assumption) ?_
      simp only [Act.put, List.setIfInBounds_toArray, List.set_cons_zero, List.set_cons_succ]
      refine wpAnyH_take (i := 35) (oi := { dst := some 69, op := Op.move (Operand.tmp 16), type := 52, pos := "laws_root_b1.go:128", after := #[], guard := none }) (v := .pointer (some ⟨b, o + k * 28, none⟩)) rfl (by kernel_rfl) (by kernel_rfl) (by kernel_rfl) (fun _ _ _ h => h) (Or.inl ⟨by rfl, by intro w hSw; go_simp⟩) (by assumption) ?_
      simp only [Act.put, List.setIfInBounds_toArray, List.set_cons_zero, List.set_cons_succ]
      refine wpAnyH_take (i := 36) (oi := { dst := some 70, op := Op.nilCheck (Operand.tmp 69), type := 0, pos := "laws_root_b1.go:128", after := #[{ on := 35, ground := Ground.data }], guard := none }) (v := .pointer (some ⟨b, o + k * 28, none⟩)) rfl (by kernel_rfl) (by kernel_rfl) (by kernel_rfl) (fun _ _ _ h => h) (Or.inl ⟨by rfl, by intro w hSw; go_simp⟩) (by assumption) ?_
      simp only [Act.put, List.setIfInBounds_toArray, List.set_cons_zero, List.set_cons_succ]
      refine wpAnyH_take (i := 37) (oi := { dst := some 71, op := Op.fieldAddr 48 (Operand.tmp 70) 8, type := 0, pos := "laws_root_b1.go:128", after := #[{ on := 36, ground := Ground.data }], guard := none }) (v := .pointer (some ⟨b, o + k * 28 + 27, none⟩)) rfl (by kernel_rfl) (by kernel_rfl) (by kernel_rfl) (fun _ _ _ h => h) (Or.inl ⟨by rfl, by intro w hSw; go_simp⟩) (by assumption) ?_
      simp only [Act.put, List.setIfInBounds_toArray, List.set_cons_zero, List.set_cons_succ]
      refine wpAnyH_take (i := 38) (oi := { dst := some 72, op := Op.load 4 (Operand.tmp 71), type := 4, pos := "laws_root_b1.go:128", after := #[{ on := 37, ground := Ground.data }], guard := none }) (v := .bool (f k).dropped) rfl (by kernel_rfl) (by kernel_rfl) (by kernel_rfl) (fun _ _ _ h => h) (Or.inl ⟨by rfl, by intro w hSw; have h6 := hSw.c27; clear hSw; go_simp⟩) (by assumption) ?_
      simp only [Act.put, List.setIfInBounds_toArray, List.set_cons_zero, List.set_cons_succ]
      refine wpAnyH_ready (rs := [13]) (by kernel_rfl) (by simp) ?_
      refine AllReadyH.cons (i := 13) (rs := []) (o := { dst := some 47, op := Op.call { callee := Callee.value (Operand.func 29), args := #[Operand.tmp 46], argTypes := #[42] }, type := 44, pos := "laws_root_b1.go:128", after := #[{ on := 12, ground := Ground.data }], guard := none }) (by kernel_rfl) ?_ AllReadyH.nil
      intro K hK
      refine step_callL rfl 29 [.tmp 46] #[42] rfl [.slice am (f k).missed.length cm] rfl enters29 _ HM.out ?_
      rintro e w2 ⟨v2, rfl, hown2, hB2⟩
      obtain ⟨am2, cm2, hv2, _⟩ := row_shape hown2
      subst hv2
      have hB2' : Below wr.heap.size wr w2 := ⟨hB2.os, hB2.tape, hB2.output, hB2.size, hB2.block⟩
      have HL2 : Hid (LCell B w2 b (o + k * 28) (f k) am cm bm om ap cp bp op) := HL.out.kept hbB (hB2'.mono hBw)
      refine ⟨_, rfl, hK.out _ _ HL2.out (fun hHeld => ?_)⟩
      clear hK K
      simp only [Act.put, List.setIfInBounds_toArray, List.set_cons_zero, List.set_cons_succ]
      refine wpAnyH_ready (rs := [18]) (by kernel_rfl) (by simp) ?_
      refine AllReadyH.cons (i := 18) (rs := []) (o := { dst := some 52, op := Op.call { callee := Callee.value (Operand.func 29), args := #[Operand.tmp 51], argTypes := #[42] }, type := 44, pos := "laws_root_b1.go:128", after := #[{ on := 17, ground := Ground.data }, { on := 13, ground := Ground.chain }], guard := none }) (by kernel_rfl) ?_ AllReadyH.nil
      intro K hK
      refine step_callL rfl 29 [.tmp 51] #[42] rfl [.slice ap (f k).pending.length cp] rfl enters29 _ (buildBeacons_any B ap (f k).pending.length cp bp op (f k).pending w2 HL2.out.prow (Nat.le_trans hBw hB2'.size) hPl) ?_
      rintro e w3 ⟨v3, rfl, hown3, hB3⟩
      obtain ⟨ap3, cp3, hv3, _⟩ := row_shape hown3
      subst hv3
      have HL3 : Hid (LCell B w3 b (o + k * 28) (f k) am cm bm om ap cp bp op) := HL2.out.kept hbB (hB3.mono (Nat.le_trans hBw hB2'.size))
      refine ⟨_, rfl, hK.out _ _ HL3.out (fun hHeld => ?_)⟩
      clear hK K
      simp only [Act.put, List.setIfInBounds_toArray, List.set_cons_zero, List.set_cons_succ]
      refine wpAnyH_ready (rs := [39]) (by kernel_rfl) (by simp) ?_
      refine AllReadyH.cons (i := 39) (rs := []) (o := { dst := some 73, op := Op.call { callee := Callee.value (Operand.func 28), args := #[Operand.tmp 38, Operand.tmp 42, Operand.tmp 47, Operand.tmp 52, Operand.tmp 56, Operand.tmp 60, Operand.tmp 64, Operand.tmp 68, Operand.tmp 72], argTypes := #[39, 22, 44, 44, 2, 4, 2, 2, 4] }, type := 35, pos := "laws_root_b1.go:128", after := #[{ on := 4, ground := Ground.data }, { on := 8, ground := Ground.data }, { on := 13, ground := Ground.data }, { on := 18, ground := Ground.data }, { on := 22, ground := Ground.data }, { on := 26, ground := Ground.data }, { on := 30, ground := Ground.data }, { on := 34, ground := Ground.data }, { on := 38, ground := Ground.data }, { on := 18, ground := Ground.chain }], guard := none }) (by kernel_rfl) ?_ AllReadyH.nil
      intro K hK
      refine step_callL rfl 28 [.tmp 38, .tmp 42, .tmp 47, .tmp 52, .tmp 56, .tmp 60, .tmp 64, .tmp 68, .tmp 72] #[39, 22, 44, 44, 2, 4, 2, 2, 4] rfl [.agg (pcells (f k).peer).toArray, .float .f64 (f k).loss, .slice am2 (f k).missed.length cm2, .slice ap3 (f k).pending.length cp3, .int .i64 (f k).rtt, .bool (f k).timed, .int .i64 (f k).srtt, .int .i64 (f k).rttvar, .bool (f k).dropped] rfl enters28 _ (newLink_any (f k) am2 ap3 (f k).missed.length cm2 (f k).pending.length cp3 w3) ?_
      rintro e w4 ⟨rfl, hw4⟩
      have HW4 : Hid (w4 = (w3.alloc (.cells (pcells (f k).peer).toArray 39)).alloc (.cells (lcells (f k) (.slice am2 (f k).missed.length cm2) (.slice ap3 (f k).pending.length cp3)).toArray 83)) := hw4
      have hb34 : Below B w3 w4 := by rw [hw4]; exact ((Below.refl _ _).alloc (Nat.le_trans (Nat.le_trans hBw hB2'.size) hB3.size) _).alloc (Nat.le_trans (Nat.le_trans (Nat.le_trans hBw hB2'.size) hB3.size) (by simp)) _
      have HL4 : Hid (LCell B w4 b (o + k * 28) (f k) am cm bm om ap cp bp op) := HL3.out.kept hbB hb34
      clear hw4
      refine ⟨_, rfl, hK.out _ _ HL4.out (fun hHeld => ?_)⟩
      clear hK K
      simp only [Act.put, List.setIfInBounds_toArray, List.set_cons_zero, List.set_cons_succ]
      refine wpAnyH_ready (rs := [40]) (by kernel_rfl) (by simp) ?_
      refine AllReadyH.cons (i := 40) (rs := []) (o := { dst := some 74, op := Op.buildSlice 30 1 #[(0, Operand.tmp 73)], type := 30, pos := "laws_root_b1.go:128", after := #[{ on := 39, ground := Ground.data }], guard := none }) (by kernel_rfl) ?_ AllReadyH.nil
      intro K hK
      go_simp
      refine hK.out _ _ (HL4.out.kept hbB ((Below.refl _ _).alloc (Nat.le_trans (Nat.le_trans (Nat.le_trans hBw hB2'.size) hB3.size) hb34.size) _)) (fun hHeld => ?_)
      clear hK K
      refine wpAnyH_ready (rs := [41]) (by kernel_rfl) (by simp) ?_
      refine AllReadyH.cons (i := 41) (rs := []) (o := { dst := some 75, op := Op.call { callee := Callee.builtin Builtin.append, args := #[Operand.tmp 34, Operand.tmp 74], argTypes := #[30, 30] }, type := 30, pos := "laws_root_b1.go:128", after := #[{ on := 0, ground := Ground.data }, { on := 40, ground := Ground.data }, { on := 39, ground := Ground.chain }], guard := none }) (by kernel_rfl) ?_ AllReadyH.nil
      intro K hK
      have HO5 : Hid ((w4.alloc (.cells #[ptrV (w3.heap.size + 1)] 35)).ownsRow w.heap.size 35 1 (.slice (some ⟨lsb, 0, none⟩) k len) k ((List.range k).map (fun i => ptrV (Fs i)))) := by
        have q1 : Only (fun _ => False) wr w3 := (Only.ofBelow (S := fun _ => False) hB2').trans (Only.ofBelow (S := fun _ => False) hB3) (fun _ hf => hf.elim)
        have q2 : Only (fun _ => False) w3 w4 := by rw [HW4.out]; exact ((Only.refl _ _).alloc _).alloc _
        exact ((q1.trans q2 (fun _ hf => hf.elim)).alloc _).own HBt.out.row (fun _ _ hf => hf)
      have hb45 : Below B w3 (w4.alloc (.cells #[ptrV (w3.heap.size + 1)] 35)) := hb34.alloc (Nat.le_trans (Nat.le_trans (Nat.le_trans hBw hB2'.size) hB3.size) hb34.size) _
      refine step_append_spare rfl (.tmp 34) (.tmp 74) 30 rfl w.heap.size 35 i35 1 Try.underlying30 HI35.out.1 HI35.out.2.2.1 lsb k len _ rfl HO5.out ⟨w4.heap.size, 0, none⟩ 1 1 [ptrV (w3.heap.size + 1)] rfl rfl (cell_one_new w4 _ 35) (by intro u hu; simp at hu; rw [hu]; rfl) (by omega) ?_
      intro w6 hown6 hg6
      have hlB : w.heap.size ≤ lsb := (HBt.out.row.lt lsb rfl).1
      have HL6 : Hid (LCell B w6 b (o + k * 28) (f k) am cm bm om ap cp bp op) := (HL3.out.kept hbB hb45).kept hbB ((Below.refl _ _).grown hg6 (Nat.le_trans (Nat.le_trans (Nat.le_trans hBw hB2'.size) hB3.size) hb45.size) (fun j hj => by cases hj; omega))
      refine hK.out _ _ HL6.out (fun hHeld => ?_)
      clear hK K
      simp only [Act.put, List.setIfInBounds_toArray, List.set_cons_zero, List.set_cons_succ]
      refine wpAnyH_take (i := 42) (oi := { dst := some 14, op := Op.assign (Operand.tmp 75), type := 30, pos := "laws_root_b1.go:128", after := #[{ on := 41, ground := Ground.data }, { on := 41, ground := Ground.chain }, { on := 0, ground := Ground.phase }, { on := 1, ground := Ground.phase }, { on := 2, ground := Ground.phase }, { on := 3, ground := Ground.phase }, { on := 4, ground := Ground.phase }, { on := 5, ground := Ground.phase }, { on := 6, ground := Ground.phase }, { on := 7, ground := Ground.phase }, { on := 8, ground := Ground.phase }, { on := 9, ground := Ground.phase }, { on := 10, ground := Ground.phase }, { on := 11, ground := Ground.phase }, { on := 12, ground := Ground.phase }, { on := 13, ground := Ground.phase }, { on := 14, ground := Ground.phase }, { on := 15, ground := Ground.phase }, { on := 16, ground := Ground.phase }, { on := 17, ground := Ground.phase }, { on := 18, ground := Ground.phase }, { on := 19, ground := Ground.phase }, { on := 20, ground := Ground.phase }, { on := 21, ground := Ground.phase }, { on := 22, ground := Ground.phase }, { on := 23, ground := Ground.phase }, { on := 24, ground := Ground.phase }, { on := 25, ground := Ground.phase }, { on := 26, ground := Ground.phase }, { on := 27, ground := Ground.phase }, { on := 28, ground := Ground.phase }, { on := 29, ground := Ground.phase }, { on := 30, ground := Ground.phase }, { on := 31, ground := Ground.phase }, { on := 32, ground := Ground.phase }, { on := 33, ground := Ground.phase }, { on := 34, ground := Ground.phase }, { on := 35, ground := Ground.phase }, { on := 36, ground := Ground.phase }, { on := 37, ground := Ground.phase }, { on := 38, ground := Ground.phase }, { on := 39, ground := Ground.phase }, { on := 40, ground := Ground.phase }, { on := 41, ground := Ground.phase }], guard := none }) (v := .slice (some ⟨lsb, 0, none⟩) (k + 1) len) rfl (by kernel_rfl) (by kernel_rfl) (by kernel_rfl) (fun _ _ _ h => h) (Or.inl ⟨by rfl, by intro w hSw; go_simp⟩) (by assumption) ?_
      simp only [Act.put, List.setIfInBounds_toArray, List.set_cons_zero, List.set_cons_succ]
      refine wpAnyH_done (by kernel_rfl) ?_ _
      have hg6' := hg6
      rw [HW4.out] at hg6'
      have HN : Hid (Built w w6 w.heap.size (k + 1) f (fun i => if i = k then w3.heap.size + 1 else Fs i) (upd es k ⟨f k, .slice am2 (f k).missed.length cm2, .slice ap3 (f k).pending.length cp3⟩) lsb len) := HBt.out.next hown2 hB2' hown3 hB3 hown6 hg6'
      clear hg6 hg6' hown6 hown2 hown3 hB2 hB2' hB3 HL2 HL3 HL4 HL6 HO5 HW4 hb34 hb45 hHeld HM HL HLd
      go_wp2
      go_roundw
      case rel => exact ⟨k + 1, _, _, by omega, by go_num, by simp, HN.out⟩
      case measure => simp [intOf]; omega
    · obtain rfl : k = len := by omega
      have hwr : w.heap.size ≤ wr.heap.size := hBt.size
      have hBw : B ≤ wr.heap.size := Nat.le_trans hB hwr
      clear hBt
      generalize wr = W0 at *
      obtain ⟨i39, hi39, hz39, hs39, hb39⟩ := info_parts Try.info39
      have HI39 : Hid (Try.prog.info? 39 = some i39 ∧ i39.zero = some zero20 ∧ i39.size = 20 ∧ i39.bytes = 20) := ⟨hi39, hz39, hs39, hb39⟩
      clear hi39 hz39 hs39 hb39
      go_upto_if 78 with fail
      go_cut [17] (fun s17 wc => Built w wc w.heap.size k f Fs es lsb k ∧ wc.ownsRow w.heap.size 39 20 s17 len' (grow ((List.range len').map g)) ∧ (∀ x, s17.ownBlock = some x → W0.heap.size ≤ x) ∧ Only (fun _ => False) W0 wc)
      case first =>
        cases a' with
        | none =>
          have h0 : len' = 0 := by
            rcases Nat.eq_zero_or_pos len' with h | h
            · exact h
            · exact absurd (HR'.out.at_ h).1 (by simp)
          subst h0
          go_wp2
          go_meet
          case rel => exact ⟨HBt.out, by simpa [grow] using World.ownsRow_nil W0 w.heap.size 39 20, fun x hx => by simp [Value.ownBlock] at hx, Only.refl _ _⟩
        | some ad' =>
          have hat' := HR'.out.at_
          go_wp2_with (at_make; refine wpList_make_own _ rfl _ _ 36 rfl W0.heap.size 39 i39 zero20 20 Try.underlying36 HI39.out.1 HI39.out.2.1 HI39.out.2.2.1 .i64 .i64 _ len' rfl rfl (by omega) (by rw [HI39.out.2.2.2]; omega) (by unfold maxLen; omega) (Nat.le_refl _) ?_; intro w1 hown1 hgrow1)
          go_loopw [17, 84] (fun s17 s84 wx => ∃ j : Nat, j ≤ len' ∧ s84 = .int .i64 j ∧ wx.ownsRow W0.heap.size 39 20 s17 j (grow ((List.range j).map g)) ∧ Below W0.heap.size W0 wx) (fun _ s84 _ => len' - (intOf s84).toNat)
          case atStart => exact ⟨0, Nat.zero_le _, rfl, by simpa [grow] using hown1, (Below.refl _ _).grown hgrow1 (Nat.le_refl _) (fun j hj => by simp at hj)⟩
          case round =>
            obtain ⟨j, hj, rfl, hown, hBel⟩ := hrel
            by_cases hjl : j < len'
            · obtain ⟨hada', hbB'⟩ := hat' (by omega)
              cases hada'
              have hr := (HR'.out.kept ((HBt.out.below.trans (hBel.mono hwr)).mono hB)).id j hjl
              have hjI : (j : Int) < (len' : Int) := by omega
              have HRg : Hid (wr.rangeAt b' (o' + j * 20) (pcells (g j))) := hr
              have HO : Hid ((wr.alloc (.cells (pcells (g j)).toArray 39)).ownsRow W0.heap.size 39 20 u17 j (grow ((List.range j).map g)) ∧ Below W0.heap.size W0 (wr.alloc (.cells (pcells (g j)).toArray 39)) ∧ ∀ x, u17.ownBlock = some x → W0.heap.size ≤ x) := ⟨hown.alloc _, hBel.alloc hBel.size _, fun x hx => (hown.lt x hx).1⟩
              have hcN := cells_new wr (pcells (g j)) 39
              have hone := pcells_one (g j)
              clear hr hown hBel
              generalize hpg : g j = pj at *
              have HP : Hid (pcells (g j) = pcells pj) := by show pcells (g j) = pcells pj; rw [hpg]
              clear hpg
              simp only [pcells] at HO hcN hone
              have HN : Hid _ := hcN
              have HOn : Hid _ := hone
              clear hcN hone
              go_wp2_with (first | (refine wpList_load_mid rfl 38 (.tmp 90) rfl b' (o' + j * 20) rfl (pcells pj) _ HRg.out Try.underlying38 rfl Try.size38 ?_; simp only [pcells]) | (at_builtin; refine wpList_append_own_at _ rfl (.tmp 87) (.tmp 92) 36 rfl W0.heap.size 39 i39 zero20 20 20 Try.underlying36 HI39.out.1 HI39.out.2.1 HI39.out.2.2.1 HI39.out.2.2.2 rfl (by decide) u17 j _ rfl HO.out.1 ⟨wr.heap.size, 0, none⟩ 1 1 _ rfl rfl HN.out HOn.out (by unfold maxLen; omega) (by omega) HO.out.2.1.size ?_; intro v4 w4 hown4 hg4 hn4 hl4))
              go_roundw
              case rel => exact ⟨j + 1, by omega, by go_num, by rw [grow_range_succ, HP.out]; exact hown4, HO.out.2.1.grown hg4 HO.out.2.1.size HO.out.2.2⟩
              case measure => simp [intOf]; omega
            · obtain rfl : j = len' := by omega
              have hON : Only (fun _ => False) W0 wr := Only.ofBelow hBel
              go_wp2
              go_meet
              case rel => exact ⟨HBt.out.later hON, own_mono hown hwr, fun x hx => (hown.lt x hx).1, hON⟩
      case rest =>
        obtain ⟨hBc, hgc, hvc, hoc⟩ := hcut
        have HBc : Hid (Built w wc w.heap.size k f Fs es lsb k) := hBc
        have HGc : Hid (wc.ownsRow w.heap.size 39 20 u17 len' (grow ((List.range len').map g)) ∧ (∀ x, u17.ownBlock = some x → W0.heap.size ≤ x) ∧ Only (fun _ => False) W0 wc) := ⟨hgc, hvc, hoc⟩
        have hwc : w.heap.size ≤ wc.heap.size := hBc.size
        obtain ⟨ag, cg, hvg, _⟩ := row_shape hgc
        subst hvg
        clear hBc hgc hvc hoc
        go_wp2_with (at_make; refine wpList_make_own _ rfl _ _ 30 rfl wc.heap.size 35 i35 (.pointer none) 1 Try.underlying30 HI35.out.1 HI35.out.2.1 HI35.out.2.2.1 .i64 .i64 _ k rfl rfl (by omega) (by rw [HI35.out.2.2.2]; omega) (by unfold maxLen; omega) (Nat.le_refl _) ?_; intro w1 hown1 hgrow1)
        obtain ⟨ob, hob⟩ : ∃ z, z = wc.heap.size := ⟨_, rfl⟩
        rw [← hob]
        go_loopw [19, 100] (fun s19 s100 wx => ∃ j : Nat, j ≤ k ∧ s100 = .int .i64 j ∧ s19 = .slice (some ⟨ob, 0, none⟩) j k ∧ wx.ownsRow ob 35 1 (.slice (some ⟨ob, 0, none⟩) j k) j ((List.range j).map (fun i => ptrV (Fs i))) ∧ Below ob wc wx) (fun _ s100 _ => k - (intOf s100).toNat)
        case atStart => exact ⟨0, Nat.zero_le _, rfl, rfl, by rw [hob]; simpa using hown1, by rw [hob]; exact (Below.refl _ _).grown hgrow1 (Nat.le_refl _) (fun j hj => by simp at hj)⟩
        case round =>
          obtain ⟨j, hj, rfl, rfl, hown, hBel⟩ := hrel
          have hlsb : lsb < ob := by rw [hob]; exact (HBc.out.row.lt lsb rfl).2
          by_cases hjl : j < k
          · have hc := (hBel.cell (p := ⟨lsb, j, none⟩) hlsb).trans (own_cell1 HBc.out.row (i := j) (u := ptrV (Fs j)) (by simp [hjl]))
            have hjI : (j : Int) < (k : Int) := by omega
            have hobs : ob ≤ wr.heap.size := Nat.le_trans (by rw [hob]; exact Nat.le_refl _) hBel.size
            have HO : Hid ((wr.alloc (.cells #[.pointer (some ⟨Fs j, 0, none⟩)] 35)).ownsRow ob 35 1 (.slice (some ⟨ob, 0, none⟩) j k) j ((List.range j).map (fun i => ptrV (Fs i))) ∧ Below ob wc (wr.alloc (.cells #[.pointer (some ⟨Fs j, 0, none⟩)] 35))) := ⟨hown.alloc _, hBel.alloc hobs _⟩
            unfold ptrV at hc
            clear hown hBel hown1 hgrow1 hob
            go_wp2_with (at_builtin; refine wpList_append_own_spare _ rfl (.tmp 103) (.tmp 108) 30 rfl ob 35 i35 1 Try.underlying30 HI35.out.1 HI35.out.2.2.1 ob j k _ rfl HO.out.1 ⟨wr.heap.size, 0, none⟩ 1 1 [.pointer (some ⟨Fs j, 0, none⟩)] rfl rfl (cell_one_new wr _ 35) (by intro u hu; simp at hu; rw [hu]; rfl) (by omega) ?_; intro w4 hown4 hg4)
            go_roundw
            case rel => exact ⟨j + 1, by omega, by go_num, by simp, by rw [range_map_succ]; exact hown4, HO.out.2.grown hg4 (Nat.le_trans hobs (by simp)) (fun x hx => by cases hx; exact Nat.le_refl _)⟩
            case measure => simp [intOf]; omega
          · obtain rfl : j = k := by omega
            have HX : Hid (wr.ownsRow ob 35 1 (.slice (some ⟨ob, 0, none⟩) j j) j ((List.range j).map (fun i => ptrV (Fs i))) ∧ Below ob wc wr ∧ ob = wc.heap.size) := ⟨hown, hBel, hob⟩
            clear hown hBel hown1 hgrow1 hob
            generalize wr = W3 at *
            go_wp2_with (go_at_call 30; refine Calls.mono (newBeaconing_any period tick hyst ticks (some ⟨ob, 0, none⟩) ag j j len' cg W3) ?_; rintro e W5 ⟨rfl, hW5⟩; have HW5 : Hid (W5 = boxed W3 period tick hyst ticks (.slice (some ⟨ob, 0, none⟩) j j) (.slice ag len' cg)) := hW5; clear hW5)
            have HMk : Hid (∀ wx, Only (fun x => x = W3.heap.size) W5 wx → Made w wx j len' f g period tick hyst ticks Fs es (W3.heap.size + 1) ob (.slice ag len' cg) lsb) := fun wx hox => by
              obtain ⟨x1, x2, x3⟩ := HX.out
              rw [HW5.out] at hox
              rw [x3] at x1 x2 hox ⊢
              exact made_of HBt.out HBc.out HGc.out.1 HGc.out.2.1 HGc.out.2.2 x1 x2 hox HS.out HFine.out
            have HM0 : Hid (AMap W5 W3.heap.size ∧ W5.cell? ⟨W3.heap.size + 1, 6, none⟩ = some (.map (some W3.heap.size)) ∧ W3.heap.size + 1 < W5.heap.size) := by
              refine ⟨?_, ?_, ?_⟩
              · rw [HW5.out]; exact boxed_map _ _ _ _ _ _ _
              · rw [HW5.out]; exact boxed_cell _ _ _ _ _ _ _ 6 _ rfl
              · rw [HW5.out, boxed_size]; omega
            have hjk : (j : Int) ≤ 4096 := by omega
            have HFm : Hid (∀ i, i < j → Fs i ≠ W3.heap.size) := fun i hi e => by
              obtain ⟨x1, x2, x3⟩ := HX.out
              have a1 := (HBc.out.ent i hi).hi
              have a2 := x2.size
              omega
            clear HBt HBc HGc HX HW5 HB0 HI35 HI39
            go_loopw [120] (fun s120 wx => ∃ i : Nat, i ≤ j ∧ s120 = .int .i64 i ∧ AMap wx W3.heap.size ∧ Only (fun x => x = W3.heap.size) W5 wx) (fun s120 _ => j - (intOf s120).toNat)
            case atStart => exact ⟨0, Nat.zero_le _, rfl, HM0.out.1, Only.refl _ _⟩
            case round =>
              obtain ⟨i, hi, rfl, hAm, hox⟩ := hrel
              have HK : Hid (AMap wr W3.heap.size ∧ Only (fun x => x = W3.heap.size) W5 wr ∧ Made w wr j len' f g period tick hyst ticks Fs es (W3.heap.size + 1) ob (.slice ag len' cg) lsb) := ⟨hAm, hox, HMk.out wr hox⟩
              clear hAm hox
              by_cases hil : i < j
              · obtain ⟨am, cm, bm, om, ap, cp, bp, op, hl⟩ := (HR.out.kept (HK.out.2.2.below.mono hB)).link i hil
                obtain ⟨hada, hbB⟩ := HR.out.at_ (by omega)
                subst hada
                have x27 := hl.c27
                have hiI : (i : Int) < (j : Int) := by omega
                have hcl : wr.cell? ⟨lsb, i, none⟩ = some (.pointer (some ⟨Fs i, 0, none⟩)) := own_cell1 HK.out.2.2.row (i := i) (u := ptrV (Fs i)) (by simp [hil])
                have hEi := HK.out.2.2.core.net.ent i hil
                have hpe := hEi.peerAt
                rw [HK.out.2.2.link i hil] at hpe
                have HAdd : Hid _ := addLink_any (W3.heap.size + 1) (Fs i) W3.heap.size (f i).peer wr ((HK.out.2.1.cell (p := ⟨W3.heap.size + 1, 6, none⟩) HM0.out.2.2 (by simp)).trans HM0.out.2.1) hpe HK.out.1 (Nat.lt_of_lt_of_le HM0.out.2.2 HK.out.2.1.size) hEi.hi (by omega) (HFm.out i hil)
                clear hl hEi hpe
                cases hdr : (f i).dropped with
                | true =>
                  rw [hdr] at x27
                  go_wp2
                  go_roundw
                  case rel => exact ⟨i + 1, by omega, by go_num, HK.out.1, HK.out.2.1⟩
                  case measure => simp [intOf]; omega
                | false =>
                  rw [hdr] at x27
                  go_wp2_with (go_at_call 31; refine Calls.mono HAdd.out ?_; rintro e w4 ⟨rfl, hm4, ho4⟩)
                  go_roundw
                  case rel => exact ⟨i + 1, by omega, by go_num, hm4, HK.out.2.1.trans ho4 (fun _ h => .inl h)⟩
                  case measure => simp [intOf]; omega
              · obtain rfl : i = j := by omega
                go_wp2
                go_ret2
                exact ⟨Fs, es, _, ob, _, lsb, rfl, HK.out.2.2⟩

end Go.Proofs.Qxb6613544a
