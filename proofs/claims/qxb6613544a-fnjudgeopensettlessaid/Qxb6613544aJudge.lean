/-
  (*beaconing).judge: THE WALK.
-/
import Derived.Test.Qxb6613544aJudgeData
import Derived.Test.Qxb6613544aMiss
import Derived.Deep.QuietTactic
import Derived.BigQuiet
namespace Go.Proofs.Qxb6613544a
open Go.RowKit

def plen (v : Option Value) : Nat := match v with | some (.slice _ n _) => n | _ => 0

/-- The first beacon's cells. -/
theorem head_cells {w : World} {B gp n cp : Nat} {s : Bc} {rest : List Bc} (h : w.ownsRow B 79 3 (.slice (some ⟨gp, 0, none⟩) n cp) n (brow (s :: rest))) :
    w.cell? ⟨gp, 0, none⟩ = some (.int .u64 s.num) ∧ w.cell? ⟨gp, 1, none⟩ = some (.int .u64 s.tick) ∧ w.cell? ⟨gp, 2, none⟩ = some (.bool s.acked) := by
  refine ⟨?_, ?_, ?_⟩
  · simpa [Addr.add] using own_elem h 0 0 (.int .u64 s.num) rfl
  · simpa [Addr.add] using own_elem h 1 0 (.int .u64 s.tick) rfl
  · simpa [Addr.add] using own_elem h 2 0 (.bool s.acked) rfl

@[go_sem] theorem run_store_float (P : Program) (w : World) (a : Addr) (m : Mode) (k : FloatKind) (n : Nat) : (store a (.float k n) m).run P w = stored P w a (.float k n) m := run_store P w a _ m rfl

theorem run_fsub (P : Program) (w : World) (t : TypeId) {a b r : Nat} (h : Ieee.double.sub a b = some r) : (binOp BinOp.sub t (.float .f64 a) (.float .f64 b)).run P w = .ok (.float .f64 r) w := by simp [binOp, Op.floatArith, FloatKind.format, h]
theorem run_fmul (P : Program) (w : World) (t : TypeId) {a b r : Nat} (h : Ieee.double.mul a b = some r) : (binOp BinOp.mul t (.float .f64 a) (.float .f64 b)).run P w = .ok (.float .f64 r) w := by simp [binOp, Op.floatArith, FloatKind.format, h]
theorem run_fadd (P : Program) (w : World) (t : TypeId) {a b r : Nat} (h : Ieee.double.add a b = some r) : (binOp BinOp.add t (.float .f64 a) (.float .f64 b)).run P w = .ok (.float .f64 r) w := by simp [binOp, Op.floatArith, FloatKind.format, h]

theorem mul_range {a t : Int} (h0 : 0 ≤ a) (h1 : a ≤ 536870912) (t0 : 1 ≤ t) (t1 : t ≤ 8589934592) : 0 ≤ a * t ∧ a * t ≤ 4611686018427387904 := by
  constructor
  · exact Int.mul_nonneg h0 (by omega)
  · calc a * t ≤ 536870912 * t := Int.mul_le_mul_of_nonneg_right h1 (by omega)
      _ ≤ 4611686018427387904 := by omega

theorem Only.drewN {S : Nat → Prop} {a w : World} (h : Only S a w) (n : Nat) : Only S a (w.drewN n) := ⟨h.os, h.tape, h.output, h.size, h.block⟩

theorem Judged.later {w wr w4 : World} {B F : Nat} {l l1 : Lk} {vm vp vm1 vp1 : Value} {period tick ticks : Int} {g : Bool} (h : Judged w B F l vm vp period tick ticks g wr l1 vm1 vp1) (ho : Only (fun _ => False) wr w4) : Judged w B F l vm vp period tick ticks g w4 l1 vm1 vp1 where
  ent := h.ent.kept ho (fun _ _ hf => hf)
  only := h.only.trans ho (fun _ hf => hf.elim)
  new := h.new
  good := h.good
  alike := h.alike
  stay := h.stay

theorem cut_row {w : World} {B n : Nat} {vm : Value} {xs : List Value} (h : w.ownsRow B 79 3 vm n xs) : ∃ v' am nm cm, vm = .slice am nm cm ∧ v' = .slice am 0 cm ∧ w.ownsRow B 79 3 v' 0 [] ∧ v'.ownBlock = vm.ownBlock := by
  rcases h.2 with ⟨rfl, _⟩ | ⟨g, cap, cur, rfl, _⟩
  · exact ⟨_, none, 0, 0, rfl, rfl, World.ownsRow_nil _ _ _ _, rfl⟩
  · exact ⟨_, _, _, _, rfl, rfl, by simpa using own_take h (m := 0) (Nat.zero_le _), rfl⟩

theorem round_end {wr X Y Z : World} {B F gp cp r4 : Nat} {l1 : Lk} {vm1 v' : Value} {m' rest : List Bc} (hY : Y = (X.setCell ⟨F, 20, none⟩ (.float .f64 r4)).drew) (hX : EntAt X B F { l1 with missed := m' } v' (.slice (some ⟨gp, 0, none⟩) (rest.length + 1) cp))
    (hO : Only (foot F vm1 (.slice (some ⟨gp, 0, none⟩) (rest.length + 1) cp)) wr X) (hN : ∀ k, v'.ownBlock = some k → vm1.ownBlock = some k ∨ wr.heap.size ≤ k) (hon : Only (fun k => k = gp) Y Z) (hown : Z.ownsRow B 79 3 (.slice (some ⟨gp, 0, none⟩) rest.length cp) rest.length (brow rest)) :
    EntAt (Z.setCell ⟨F, 23, none⟩ (.slice (some ⟨gp, 0, none⟩) rest.length cp)) B F { l1 with missed := m', loss := r4, pending := rest } v' (.slice (some ⟨gp, 0, none⟩) rest.length cp) ∧
    Only (foot F vm1 (.slice (some ⟨gp, 0, none⟩) (rest.length + 1) cp)) wr (Z.setCell ⟨F, 23, none⟩ (.slice (some ⟨gp, 0, none⟩) rest.length cp)) ∧
    ∀ k, foot F v' (.slice (some ⟨gp, 0, none⟩) rest.length cp) k → foot F vm1 (.slice (some ⟨gp, 0, none⟩) (rest.length + 1) cp) k ∨ wr.heap.size ≤ k := by
  have hE : EntAt Y B F { l1 with missed := m', loss := r4 } v' (.slice (some ⟨gp, 0, none⟩) (rest.length + 1) cp) := by rw [hY]; exact (hX.setLoss r4).kept (Only.refl (fun _ => False) _).drew (fun _ _ hf => hf)
  refine ⟨hE.setPending (hon.mono (fun k hk => by rw [hk]; rfl)) hown rfl, ?_, ?_⟩
  · refine Only.setCell ?_ (.inl (.inl rfl)) _
    have h1 : Only (foot F vm1 (.slice (some ⟨gp, 0, none⟩) (rest.length + 1) cp)) wr Y := by rw [hY]; exact (hO.setCell (.inl (.inl rfl)) _).drew
    exact h1.trans hon (fun k hk => .inl (.inr (.inr (by rw [hk]; rfl))))
  · rintro k (h | h | h)
    · exact .inl (.inl h)
    · exact (hN k h).imp (fun h => .inr (.inl h)) id
    · exact .inl (.inr (.inr h))

set_option maxHeartbeats 8000000 in
set_option maxRecDepth 10000 in
theorem judge_any (B bb F : Nat) (period tick : Int) (hyst : Nat) (ticks : Int) (l : Lk) (vm vp : Value) (w : World) (hb : BoxAt w B bb period tick hyst ticks) (hl : EntAt w B F l vm vp) (hc : Cfg period tick ticks) (hg : l.Good ticks) (hh : Fl 1 hyst) (hne : ¬ foot F vm vp bb) :
    Calls Try.prog 38 #[.pointer (some ⟨bb, 0, none⟩), .pointer (some ⟨F, 0, none⟩)] w fun e w' => ∃ g l' vm' vp', e = .returned (.bool g) ∧ Settled period tick ticks l' ∧ Judged w B F l vm vp period tick ticks g w' l' vm' vp' := by
  have HB : Hid (BoxAt w B bb period tick hyst ticks) := hb
  have HC : Hid (Cfg period tick ticks ∧ Fl 1 hyst ∧ ¬ foot F vm vp bb) := ⟨hc, hh, hne⟩
  have HDue : Hid (Calls Try.prog 39 #[.pointer (some ⟨bb, 0, none⟩), .pointer (some ⟨F, 0, none⟩)] w fun e w' => e = .returned (.int .i64 (l.due period tick)) ∧ Below w.heap.size w w') := due_any B bb F period tick hyst ticks l vm vp w hb hl hc hg.ok
  have HL : Hid (EntAt w B F l vm vp ∧ l.Good ticks) := ⟨hl, hg⟩
  obtain ⟨D, hD⟩ : ∃ D, D = l.due period tick := ⟨_, rfl⟩
  have HD : Hid (l.due period tick = D) := hD.symm
  rw [← hD] at HDue
  clear hb hc hg hh hne hl hD
  go_enter Try.func38, Try.ntmps38
  go_wp2_with (go_at_call 39; refine Calls.mono HDue.out ?_; rintro e w0 ⟨rfl, hB0⟩)
  go_loopw [5] (fun g wr => ∃ (gb : Bool) (l1 : Lk) (vm1 vp1 : Value), g = .bool gb ∧ Judged w B F l vm vp period tick ticks gb wr l1 vm1 vp1) (fun _ wr => plen (wr.cell? ⟨F, 23, none⟩))
  case atStart =>
    exact ⟨false, l, vm, vp, rfl, HL.out.1.kept (Only.ofBelow (S := fun _ => False) hB0) (fun _ _ h => h), Only.ofBelow hB0, fun _ h => .inl h, HL.out.2, ⟨rfl, rfl, rfl, rfl, rfl, rfl⟩, fun _ => ⟨rfl, rfl⟩⟩
  case round =>
    obtain ⟨gb, l1, vm1, vp1, rfl, hJ⟩ := hrel
    have HJ : Hid (Judged w B F l vm vp period tick ticks gb wr l1 vm1 vp1) := hJ
    have HBr : Hid (BoxAt wr B bb period tick hyst ticks) := HB.out.kept hJ.only HC.out.2.2
    have l23 := hJ.ent.cell 23 _ rfl
    have hprow := hJ.ent.prow
    cases hp : l1.pending with
    | nil =>
      rw [hp] at hprow
      obtain ⟨a0, c0, rfl⟩ : ∃ a0 c0, vp1 = .slice a0 0 c0 := by
        rcases hprow.2 with ⟨rfl, _⟩ | ⟨g, cap, cur, rfl, _⟩
        · exact ⟨_, _, rfl⟩
        · exact ⟨_, _, rfl⟩
      clear hprow hJ hB0
      go_wp2
      go_ret
      exact ⟨gb, l1, _, _, rfl, by simp [Settled, hp], HJ.out⟩
    | cons s rest =>
      rw [hp] at hprow
      obtain ⟨gp, cp, hvp, hbg, hltp, hcp, hcm⟩ := own_some hprow
      subst hvp
      obtain ⟨s0, s1, s2⟩ := head_cells hprow
      unfold maxLen at hcm
      have hpos : (0 : Int) < (rest.length : Int) + 1 := by omega
      have W1 : Only (fun _ => False) wr (wr.alloc (.cells #[.int .u64 s.num, .int .u64 s.tick, .bool s.acked] 79)) := (Only.refl _ _).alloc _
      have HE1 : Hid _ := hJ.ent.kept W1 (fun _ _ hf => hf)
      have HBx : Hid _ := HBr.out.kept W1 (fun hf => hf)
      have y0 : (wr.alloc (.cells #[.int .u64 s.num, .int .u64 s.tick, .bool s.acked] 79)).cell? ⟨wr.heap.size, 0, none⟩ = some (.int .u64 s.num) := by simp [go_sem]
      have y1 : (wr.alloc (.cells #[.int .u64 s.num, .int .u64 s.tick, .bool s.acked] 79)).cell? ⟨wr.heap.size, 1, none⟩ = some (.int .u64 s.tick) := by simp [go_sem]
      have y2 : (wr.alloc (.cells #[.int .u64 s.num, .int .u64 s.tick, .bool s.acked] 79)).cell? ⟨wr.heap.size, 2, none⟩ = some (.bool s.acked) := by simp [go_sem]
      have HW1 : Hid _ := W1
      clear W1 hprow hJ hB0
      go_upto_region 5 with fail
      obtain ⟨W, hW⟩ : ∃ W, W = wr.alloc (.cells #[.int .u64 s.num, .int .u64 s.tick, .bool s.acked] 79) := ⟨_, rfl⟩
      have hbx : wr.heap.size < W.heap.size := by rw [hW]; simp
      rw [← hW] at HE1 HBx HW1 y0 y1 y2 ⊢
      clear hW s0 s1 s2 l23
      have c1 := HBx.out.c1
      have c4 := HBx.out.c4
      have hDe : l1.due period tick = D := (HJ.out.alike.due period tick).trans HD.out
      obtain ⟨⟨_, _, t0, t1, k0, k1⟩, _⟩ := HC.out
      obtain ⟨b0, b1⟩ := HJ.out.good.ok.pend s (by rw [hp]; exact List.mem_cons_self)
      obtain ⟨mr0, mr1⟩ := mul_range (a := ticks - s.tick) (t := tick) (by omega) (by omega) t0 t1
      have HDe : Hid (l1.due period tick = D) := hDe
      clear hDe
      by_cases hA : s.acked = false ∧ (ticks - s.tick) * tick < D
      · obtain ⟨hA1, hA2⟩ := hA
        rw [hA1] at y2
        go_quiet (fail)
        go_wp2
        go_ret
        exact ⟨gb, l1, _, _, rfl, by unfold Settled; rw [hp]; exact ⟨hA1, by rw [HDe.out]; exact hA2⟩, HJ.out.later ((HW1.out).drewN nq)⟩
      · have HM : Hid (¬ (s.acked = false ∧ (ticks - s.tick) * tick < l1.due period tick)) := by rw [HDe.out]; exact hA
        obtain ⟨K, hK, hKb⟩ := HJ.out.good.loss
        obtain ⟨x, HX⟩ : ∃ x : Nat, Hid (Fl 1 x ∧ (s.acked = true → x = 0) ∧ (s.acked = false → x = one)) := by
          cases s.acked
          · exact ⟨one, one_unit, by simp, by simp⟩
          · exact ⟨0, Fl.zero, by simp, by simp⟩
        obtain ⟨r1, r2, r3, r4, e1, e2, e3, e4, hr4⟩ := Fl.step (x := x) HC.out.2.1 hK HX.out.1 (by omega)
        have HR : Hid (Ieee.double.sub one hyst = some r1 ∧ Ieee.double.mul r1 l1.loss = some r2 ∧ Ieee.double.mul hyst x = some r3 ∧ Ieee.double.add r2 r3 = some r4 ∧ Fl (K + 1) r4 ∧ K + l1.pending.length ≤ 1048576) := ⟨e1, e2, e3, e4, hr4, hKb⟩
        clear e1 e2 e3 e4 hr4 hK hKb
        have hn0 : ∀ k, vm1.ownBlock = some k → vm1.ownBlock = some k ∨ wr.heap.size ≤ k := fun _ h => .inl h
        by_cases hAc : s.acked = true
        · obtain rfl := HX.out.2.1 hAc
          rw [hAc] at y2
          clear hA
          go_quiet (fail)
          obtain ⟨V, hV⟩ : ∃ V, V = W.drewN nq := ⟨_, rfl⟩
          rw [← hV]
          have HOV : Hid (Only (fun _ => False) wr V) := by rw [hV]; exact HW1.out.drewN nq
          have HE2 : Hid (EntAt V B F l1 vm1 _) := HJ.out.ent.kept HOV.out (fun _ _ hf => hf)
          have y2V : V.cell? ⟨wr.heap.size, 2, none⟩ = some (.bool true) := by rw [hV]; exact y2
          clear hV y0 y1 y2 c1 c4
          obtain ⟨v', am, nm, cm, hvm, hv', hown', hob⟩ := cut_row HE2.out.mrow
          subst hvm
          subst hv'
          have l21 := HE2.out.cell 21 _ rfl
          have f21 := HE2.out.frozen 21
          have HX2 : Hid (EntAt (V.setCell ⟨F, 21, none⟩ (.slice am 0 cm)).drew B F { l1 with missed := [] } (.slice am 0 cm) _) := (HE2.out.cutMissed hown' hob).kept (Only.refl (fun _ => False) _).drew (fun _ _ hf => hf)
          have HOX : Hid (Only (foot F (.slice am nm cm) (.slice (some ⟨gp, 0, none⟩) (rest.length + 1) cp)) wr (V.setCell ⟨F, 21, none⟩ (.slice am 0 cm)).drew) := ((HOV.out.mono (fun _ hf => hf.elim)).setCell (.inl (.inl rfl)) _).drew
          have hnm : nm ≤ cm := by
            rcases HE2.out.mrow.2 with ⟨h0, _⟩ | ⟨_, _, _, h0, _, _, h1, _⟩
            · cases h0; exact Nat.le_refl _
            · cases h0; exact h1
          clear hown'
          go_upto_region 9 with fail
          go_region
          obtain ⟨X, hX⟩ : ∃ X, X = (V.setCell ⟨F, 21, none⟩ (.slice am 0 cm)).drew := ⟨_, rfl⟩
          rw [← hX] at HX2 HOX ⊢
          go_upto_region 11 with fail
          clear hX l21 f21
          obtain ⟨m', hm'⟩ : ∃ m' : List Bc, m' = [] := ⟨_, rfl⟩
          rw [← hm'] at HX2
          have hm6 : m'.length ≤ 6 := by rw [hm']; simp
          clear hm'
          have HNX : Hid (∀ k, (Value.slice am 0 cm).ownBlock = some k → (Value.slice am nm cm).ownBlock = some k ∨ wr.heap.size ≤ k) := fun k hk => .inl (by rw [← hob]; exact hk)
          clear hob
          all_goals
            obtain ⟨e1, e2, e3, e4, _⟩ := HR.out
            have g1 : ∀ w, (binOp BinOp.sub 22 (.float .f64 4607182418800017408) (.float .f64 hyst)).run Try.prog w = .ok (.float .f64 r1) w := fun w => run_fsub _ w _ e1
            have g2 : ∀ w, (binOp BinOp.mul 22 (.float .f64 r1) (.float .f64 l1.loss)).run Try.prog w = .ok (.float .f64 r2) w := fun w => run_fmul _ w _ e2
            have g3 : ∀ w, (binOp BinOp.mul 22 (.float .f64 hyst) (.float .f64 0)).run Try.prog w = .ok (.float .f64 r3) w := fun w => run_fmul _ w _ e3
            have g4 : ∀ w, (binOp BinOp.add 22 (.float .f64 r2) (.float .f64 r3)).run Try.prog w = .ok (.float .f64 r4) w := fun w => run_fadd _ w _ e4
            clear e1 e2 e3 e4
            have z20 := HX2.out.cell 20 _ rfl
            have z20f := HX2.out.frozen 20
            have zc2 := (HB.out.kept (HJ.out.only.trans HOX.out (fun k hk => HJ.out.new k hk)) HC.out.2.2).c2
            go_region
            obtain ⟨Y, hY⟩ : ∃ Y, Y = (X.setCell ⟨F, 20, none⟩ (.float .f64 r4)).drew := ⟨_, rfl⟩
            rw [← hY]
            have HY : Hid (Y = (X.setCell ⟨F, 20, none⟩ (.float .f64 r4)).drew) := hY
            clear hY z20 z20f zc2
            have HEY : Hid (EntAt Y B F { l1 with missed := m', loss := r4 } (.slice am 0 cm) (.slice (some ⟨gp, 0, none⟩) (rest.length + 1) cp)) := by rw [HY.out]; exact (HX2.out.setLoss r4).kept (Only.refl (fun _ => False) _).drew (fun _ _ hf => hf)
            have x23 := HEY.out.cell 23 _ rfl
            have HDel : Hid _ := delete_any B gp cp s rest Y (by have := HEY.out.prow; simp only [hp] at this; exact this)
            have hlp : (0 : Int) < (rest.length : Int) + 1 := by omega
            go_wp2_with (go_at_call 41; refine Calls.mono HDel.out ?_; rintro e Z ⟨rfl, hownZ, honZ⟩; have x23Z := (honZ.cell (p := ⟨F, 23, none⟩) HEY.out.hi (fun e => HEY.out.ap (by rw [← e]; rfl))).trans x23; have f23Z := (honZ.frozen (p := ⟨F, 23, none⟩) HEY.out.hi (fun e => HEY.out.ap (by rw [← e]; rfl))).trans (HEY.out.frozen 23))
            go_roundw
            case rel =>
              obtain ⟨f1, f2, f3⟩ := round_end HY.out HX2.out HOX.out HNX.out honZ hownZ
              exact ⟨_, _, _, _, rfl, HJ.out.round hp HM.out f1 f2 f3 hm6 (fun K' hK' hb' => by
                obtain ⟨q1, q2, q3, q4, p1, p2, p3, p4, p5⟩ := Fl.step HC.out.2.1 hK' HX.out.1 hb'
                obtain ⟨e1, e2, e3, e4, _⟩ := HR.out
                rw [e1] at p1; cases p1
                rw [e2] at p2; cases p2
                rw [e3] at p3; cases p3
                rw [e4] at p4; cases p4
                exact p5)⟩
            case measure =>
              rw [World.cell?_setCell_same _ _ _ x23Z, HJ.out.ent.cell 23 _ rfl]
              simp [plen]
        · have hAf : s.acked = false := by simpa using hAc
          obtain rfl := HX.out.2.2 hAf
          rw [hAf] at y2
          have hA3 : decide ((ticks - s.tick) * tick < D) = false := by simpa [hAf] using hA
          clear hA
          go_quiet (fail)
          have HE2 : Hid (EntAt (W.drewN nq) B F l1 vm1 _) := HE1.out.kept ((Only.refl (fun _ => False) W).drewN nq) (fun _ _ hf => hf)
          have HMiss : Hid _ := miss_any B F l1 vm1 _ s (W.drewN nq) HE2.out HJ.out.good.m6
          rw [hAf] at HMiss
          have HOV : Hid (Only (fun _ => False) wr (W.drewN nq)) := HW1.out.drewN nq
          go_upto_region 11 with (go_at_call 40; refine Calls.mono HMiss.out ?_; rintro e X ⟨r, m', v', rfl, hm6, he2, ho2, hn2⟩; have HX2 : Hid (EntAt X B F { l1 with missed := m' } v' _) := he2; have HOX : Hid (Only (foot F vm1 _) wr X) := (HOV.out.mono (fun _ hf => hf.elim)).trans ho2 (fun k hk => .inl hk); have HNX : Hid (∀ k, v'.ownBlock = some k → vm1.ownBlock = some k ∨ wr.heap.size ≤ k) := fun k hk => (hn2 k hk).imp id (fun h => Nat.le_trans HOV.out.size h); clear he2 ho2 hn2)
          all_goals
            obtain ⟨e1, e2, e3, e4, _⟩ := HR.out
            have g1 : ∀ w, (binOp BinOp.sub 22 (.float .f64 4607182418800017408) (.float .f64 hyst)).run Try.prog w = .ok (.float .f64 r1) w := fun w => run_fsub _ w _ e1
            have g2 : ∀ w, (binOp BinOp.mul 22 (.float .f64 r1) (.float .f64 l1.loss)).run Try.prog w = .ok (.float .f64 r2) w := fun w => run_fmul _ w _ e2
            have g3 : ∀ w, (binOp BinOp.mul 22 (.float .f64 hyst) (.float .f64 4607182418800017408)).run Try.prog w = .ok (.float .f64 r3) w := fun w => run_fmul _ w _ e3
            have g4 : ∀ w, (binOp BinOp.add 22 (.float .f64 r2) (.float .f64 r3)).run Try.prog w = .ok (.float .f64 r4) w := fun w => run_fadd _ w _ e4
            clear e1 e2 e3 e4
            have z20 := HX2.out.cell 20 _ rfl
            have z20f := HX2.out.frozen 20
            have zc2 := (HB.out.kept (HJ.out.only.trans HOX.out (fun k hk => HJ.out.new k hk)) HC.out.2.2).c2
            go_region
            obtain ⟨Y, hY⟩ : ∃ Y, Y = (X.setCell ⟨F, 20, none⟩ (.float .f64 r4)).drew := ⟨_, rfl⟩
            rw [← hY]
            have HY : Hid (Y = (X.setCell ⟨F, 20, none⟩ (.float .f64 r4)).drew) := hY
            clear hY z20 z20f zc2
            have HEY : Hid (EntAt Y B F { l1 with missed := m', loss := r4 } v' (.slice (some ⟨gp, 0, none⟩) (rest.length + 1) cp)) := by rw [HY.out]; exact (HX2.out.setLoss r4).kept (Only.refl (fun _ => False) _).drew (fun _ _ hf => hf)
            have x23 := HEY.out.cell 23 _ rfl
            have HDel : Hid _ := delete_any B gp cp s rest Y (by have := HEY.out.prow; simp only [hp] at this; exact this)
            have hlp : (0 : Int) < (rest.length : Int) + 1 := by omega
            go_wp2_with (go_at_call 41; refine Calls.mono HDel.out ?_; rintro e Z ⟨rfl, hownZ, honZ⟩; have x23Z := (honZ.cell (p := ⟨F, 23, none⟩) HEY.out.hi (fun e => HEY.out.ap (by rw [← e]; rfl))).trans x23; have f23Z := (honZ.frozen (p := ⟨F, 23, none⟩) HEY.out.hi (fun e => HEY.out.ap (by rw [← e]; rfl))).trans (HEY.out.frozen 23))
            go_roundw
            case rel =>
              obtain ⟨f1, f2, f3⟩ := round_end HY.out HX2.out HOX.out HNX.out honZ hownZ
              exact ⟨_, _, _, _, rfl, HJ.out.round hp HM.out f1 f2 f3 hm6 (fun K' hK' hb' => by
                obtain ⟨q1, q2, q3, q4, p1, p2, p3, p4, p5⟩ := Fl.step HC.out.2.1 hK' HX.out.1 hb'
                obtain ⟨e1, e2, e3, e4, _⟩ := HR.out
                rw [e1] at p1; cases p1
                rw [e2] at p2; cases p2
                rw [e3] at p3; cases p3
                rw [e4] at p4; cases p4
                exact p5)⟩
            case measure =>
              rw [World.cell?_setCell_same _ _ _ x23Z, HJ.out.ent.cell 23 _ rfl]
              simp [plen]

end Go.Proofs.Qxb6613544a
