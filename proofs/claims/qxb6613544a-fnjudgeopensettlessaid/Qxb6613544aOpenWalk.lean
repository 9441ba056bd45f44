/-
  (*beaconing).judgeOpen: THE WALK.
-/
import Derived.Test.Qxb6613544aOpenList
namespace Go.Proofs.Qxb6613544a
open Go.RowKit

theorem row_shape {w : World} {B n size : Nat} {e : TypeId} {v : Value} {xs : List Value} (h : w.ownsRow B e size v n xs) : ∃ a c, v = .slice a n c ∧ n ≤ c ∧ c ≤ maxLen := by
  rcases h.2 with ⟨rfl, h0⟩ | ⟨g, cap, cur, rfl, _, _, h1, h2, _⟩
  · subst h0
    exact ⟨none, 0, rfl, Nat.le_refl _, by unfold maxLen; omega⟩
  · exact ⟨_, _, rfl, h1, h2⟩

theorem own_cell1 {w : World} {B g n c : Nat} {e : TypeId} {xs : List Value} (h : w.ownsRow B e 1 (.slice (some ⟨g, 0, none⟩) n c) n xs) {i : Nat} {u : Value} (hu : xs[i]? = some u) : w.cell? ⟨g, i, none⟩ = some u := by
  have h1 := h.cells (g := g) rfl i u hu
  have e : (⟨g, 0, none⟩ : Addr).add i = ⟨g, 0 + i, none⟩ := by unfold Addr.add; split <;> simp_all
  rw [e] at h1
  simpa using h1

/-- append OF ONE CELL WHERE THERE IS ROOM: the very cell that is written. -/
theorem wpList_append_set {P : Program} {w : World} {ops : Array Oper} {rest : List Oper} {o : Oper} {a : Act} {Q : Exit → Act → World → Prop} (hgd : o.guard = none) (s x : Operand) (t : TypeId)
    (ho : o.op = .call { callee := .builtin .append, args := #[s, x], argTypes := #[t, t] }) (e : TypeId) (i : TypeInfo) (ht : P.underlying t = some (.slice e)) (hi : P.info? e = some i) (hsz : i.size = 1)
    (g n cap : Nat) (hs : a.eval s = .slice (some ⟨g, 0, none⟩) n cap) (ad : Addr) (c : Nat) (u : Value) (hx : a.eval x = .slice (some ad) 1 c) (hu : ∀ j v, [u][j]? = some v → w.cell? (ad.add j) = some v) (h1 : u.oneCell' = true) (hroom : n + 1 ≤ cap)
    (hc : (w.cell? ⟨g, n, none⟩).isSome = true) (hf : w.frozen? ⟨g, n, none⟩ = false) (h : wpList P ops Q rest (a.put o.dst (.slice (some ⟨g, 0, none⟩) (n + 1) cap)) (w.setCell ⟨g, n, none⟩ u)) : wpList P ops Q (o :: rest) a w := by
  refine wpList_plain hgd fun K hK => ?_
  have hr := run_append_room_cells (P := P) w t o.type e i ht hi g 0 n cap ad 1 c [u] (by rw [hsz]; rfl) hu (fun v hv => by simp at hv; rw [hv]; exact h1) hroom (fun j hj => by
    have hj0 : j = 0 := by simpa using hj
    rw [hsz, hj0]
    simpa using hc) (fun j hj => by
    have hj0 : j = 0 := by simpa using hj
    rw [hsz, hj0]
    simpa using hf)
  rw [hsz] at hr
  simp only [Nat.zero_add, Nat.mul_one, World.setCells] at hr
  unfold Oper.wp execOp
  simp only [ho, resolve, invoke, builtin, Sem.run_bind, Sem.run_pure, Result.andThen_ok, List.map_toArray, List.map_cons, List.map_nil, hs, hx, hr]
  exact hK _ _ h

theorem Try.info35 : (Try.prog.info? 35).map (fun i => (i.zero, i.size, i.bytes)) = some (some (.pointer none), 1, 8) := by kernel_rfl
def zero20 : Value := .agg #[.int .u8 0, .int .u8 0, .int .u8 0, .int .u8 0, .int .u8 0, .int .u8 0, .int .u8 0, .int .u8 0, .int .u8 0, .int .u8 0, .int .u8 0, .int .u8 0, .int .u8 0, .int .u8 0, .int .u8 0, .int .u8 0, .int .u8 0, .int .u8 0, .int .u8 0, .int .u8 0]
theorem Try.info39 : (Try.prog.info? 39).map (fun i => (i.zero, i.size, i.bytes)) = some (some zero20, 20, 20) := by kernel_rfl

/-- A whole array is read, as one step of a region that draws. -/
theorem step_load_mid {P : Program} {ops : Array Oper} {o : Oper} {a : Act} {w : World} {K : Act → World → Prop} {Q : Exit → Act → World → Prop} {E : Prop} (hg : o.guard = none) (ty : TypeId) (x : Operand) (ho : o.op = .load ty x)
    (b off : Nat) (hx : a.eval x = .pointer (some ⟨b, off, none⟩)) (cs : List Value) (d : TypeDesc) (hc : w.rangeAt b off cs) (hu : P.underlying ty = some d) (hd : d.isRow = true) (hi : (P.info? ty).map (·.size) = some cs.length)
    (hK : K (a.put o.dst (.agg cs.toArray)) w) : if Region.wanted o (yielded ops a.tmps) = true then Oper.wp P o a w K Q else E := by
  have hw : Region.wanted o (yielded ops a.tmps) = true := by simp [Region.wanted, hg]
  rw [if_pos hw]
  exact wp_load_mid ty x ho b off hx cs d hc hu hd hi hK

theorem run_clear0 {P : Program} (w : World) (t ty e : TypeId) (ht : P.underlying t = some (.slice e)) (a : Option Addr) (c : Nat) : (Builtin.clear_ #[t] ty #[.slice a 0 c]).run P w = .ok (.tuple #[]) w := by
  cases a <;> simp [Builtin.clear_, run_underlying ht, Result.andThen]

theorem wpList_clear0 {P : Program} (w : World) {ops : Array Oper} {rest : List Oper} {o : Oper} {a : Act} {Q : Exit → Act → World → Prop} (hgd : o.guard = none) (s : Operand) (t : TypeId)
    (ho : o.op = .call { callee := .builtin .clear, args := #[s], argTypes := #[t] }) (e : TypeId) (ht : P.underlying t = some (.slice e)) (ad : Option Addr) (c : Nat) (hs : a.eval s = .slice ad 0 c)
    (h : wpList P ops Q rest (a.put o.dst (.tuple #[])) w) : wpList P ops Q (o :: rest) a w := by
  refine wpList_plain hgd fun K hK => ?_
  have hr := run_clear0 (P := P) w t o.type e ht ad c
  unfold Oper.wp execOp
  simp only [ho, resolve, invoke, builtin, Sem.run_bind, Sem.run_pure, Result.andThen_ok, List.map_toArray, List.map_cons, List.map_nil, hs, hr]
  exact hK _ _ h

theorem zero35 (w : World) : (zeroValue 35).run Try.prog w = .ok (.pointer none) w := by kernel_rfl
theorem zc35 (d : Nat) : (Builtin.zeroCells (Value.pointer none).cells d).toList = List.replicate d (.pointer none) := by
  simp [Builtin.zeroCells, Value.cells, Nat.mod_one]
  exact List.eq_replicate_iff.2 ⟨by simp, fun b hb => by simp at hb; exact hb.2.symm⟩
theorem rep_one (d : Nat) : ∀ u ∈ List.replicate d (Value.pointer none), u.oneCell' = true := fun u hu => by rw [(List.mem_replicate.1 hu).2]; rfl

theorem only_setCells (g : Nat) : ∀ (vs : List Value) (o : Nat) (w : World), Only (fun k => k = g) w (w.setCells g o vs)
  | [], _, w => Only.refl _ w
  | v :: vs, o, w => (Only.setCell (Only.refl (fun k => k = g) w) (p := ⟨g, o, none⟩) (.inl rfl) v).trans (only_setCells g vs (o + 1) _) (fun _ h => .inl h)

theorem Core.finish {w0 : World} {B n : Nat} {Fs : Nat → Nat} {es0 : Nat → Ent} {bb go : Nat} {vg0 : Value} {period tick : Int} {hyst : Nat} {ticks : Int} {L cap : Nat} {vo : Value} {w : World} {es : Nat → Ent} {vg : Value} {gs : List (Nat → Int)} {xs ys : List Value} {m : Nat}
    (h : Core w0 B n Fs es0 bb go vg0 period tick hyst ticks L cap vo w es vg gs xs) (hm : m ≤ L) (hy : xs.take m = ys) (vs : List Value) (hvs : m + vs.length ≤ cap) :
    Core w0 B n Fs es0 bb go vg0 period tick hyst ticks m cap (.slice (some ⟨go, 0, none⟩) m cap) ((w.setCells go m vs).setCell ⟨bb, 7, none⟩ (.slice (some ⟨go, 0, none⟩) m cap)) es vg gs ys := by
  have h1 := only_setCells go vs m w
  have h2 : Only (fun k => k = go ∨ k = bb) w ((w.setCells go m vs).setCell ⟨bb, 7, none⟩ (.slice (some ⟨go, 0, none⟩) m cap)) := Only.setCell (h1.mono (fun _ h => .inl h)) (p := ⟨bb, 7, none⟩) (.inl (.inr rfl)) _
  refine ⟨⟨fun i hi => (h.net.ent i hi).kept h2 (fun k hf hc => ?_), h.net.apart, h.net.nb, h.net.no, h.net.ng, h.net.gb, h.net.gg, h.net.bo⟩, box_set (h.box.kept h1 h.net.bo) 7 (by omega) _, ?_, ?_, ?_, ?_, ?_, h.new, h.good, h.alike⟩
  · rcases hc with rfl | rfl
    · exact h.net.no i hi hf
    · exact h.net.nb i hi hf
  · exact World.cell?_setCell_same _ _ _ ((h1.cell (p := ⟨bb, 7, none⟩) h.box.hi h.net.bo).trans h.c7)
  · exact (World.cell?_setCell_other _ _ _ _ (by simp)).trans ((h1.cell (p := ⟨bb, 9, none⟩) h.box.hi h.net.bo).trans h.c9)
  · have hgb : (Value.slice (some ⟨go, 0, none⟩) m cap).ownBlock ≠ some bb := fun e => h.net.bo (Option.some.inj (e : some go = some bb)).symm
    refine ownsRow_setCell_other ?_ hgb _
    have ho := own_setCells (own_take h.opn hm) vs m (by omega) (by omega)
    rw [Nat.mul_one, hy] at ho
    exact ho
  · refine h2.own h.gone (fun k hk hc => ?_)
    rcases hc with rfl | rfl
    · exact h.net.gg hk
    · exact h.net.gb hk
  · refine h.only.trans h2 (fun k hk => h.new k ?_)
    rcases hk with hk | hk
    · exact .inr (.inr (.inl hk))
    · exact .inr (.inl hk)

theorem Try.size39 : (Try.prog.info? 39).map (·.size) = some 20 := by kernel_rfl

set_option maxHeartbeats 8000000 in
set_option maxRecDepth 10000 in
theorem judgeOpen_any (B n : Nat) (Fs : Nat → Nat) (es : Nat → Ent) (bb go : Nat) (vg : Value) (period tick : Int) (hyst : Nat) (ticks : Int) (ks : List Nat) (cap : Nat) (gs : List (Nat → Int)) (w : World)
    (h0 : Core w B n Fs es bb go vg period tick hyst ticks ks.length cap (.slice (some ⟨go, 0, none⟩) ks.length cap) w es vg gs (ks.map (fun j => ptrV (Fs j))))
    (hc : Cfg period tick ticks) (hh : Fl 1 hyst) (hnd : ks.Nodup) (hlt : ∀ j ∈ ks, j < n) (hL : ks.length ≤ 4096) (hgl : gs.length ≤ 65536) :
    Calls Try.prog 32 #[.pointer (some ⟨bb, 0, none⟩)] w fun e w' => e = .returned (.tuple #[]) ∧ ∃ es' vg' gs' ms xs', Lists es Fs ks period tick ticks gs ks.length es' gs' ms xs' ∧
      Core w B n Fs es bb go vg period tick hyst ticks ms.length cap (.slice (some ⟨go, 0, none⟩) ms.length cap) w' es' vg' gs' (ms.map (fun j => ptrV (Fs j))) := by
  have HP : Hid (Cfg period tick ticks ∧ Fl 1 hyst ∧ ks.Nodup ∧ (∀ j ∈ ks, j < n) ∧ gs.length ≤ 65536) := ⟨hc, hh, hnd, hlt, hgl⟩
  have H0 : Hid (Core w B n Fs es bb go vg period tick hyst ticks ks.length cap (.slice (some ⟨go, 0, none⟩) ks.length cap) w es vg gs (ks.map (fun j => ptrV (Fs j)))) := h0
  obtain ⟨i35, hi35, _, hs35, _⟩ := info_parts Try.info35
  have HI35 : Hid (Try.prog.info? 35 = some i35 ∧ i35.size = 1) := ⟨hi35, hs35⟩
  obtain ⟨i39, hi39, hz39, hs39, hb39⟩ := info_parts Try.info39
  have HI39 : Hid (Try.prog.info? 39 = some i39 ∧ i39.zero = some zero20 ∧ i39.size = 20 ∧ i39.bytes = 20) := ⟨hi39, hz39, hs39, hb39⟩
  clear hi35 hs35 hi39 hz39 hs39 hb39
  have c7 := h0.c7
  obtain ⟨_, _, hsh, hcap, hmax⟩ := row_shape h0.opn
  cases hsh
  unfold maxLen at hmax
  clear hc hh hnd hlt hgl h0
  have hc0 : (0 : Int) ≤ (cap : Int) := by omega
  go_enter Try.func32, Try.ntmps32
  go_wp2_with fail
  go_loopw [2, 15] (fun s2 s15 wr => ∃ (i : Nat) (es1 : Nat → Ent) (vg1 : Value) (gs1 : List (Nat → Int)) (ms : List Nat) (xs : List Value), i ≤ ks.length ∧ s15 = .int .i64 i ∧ s2 = .slice (some ⟨go, 0, none⟩) ms.length cap ∧ Core w B n Fs es bb go vg period tick hyst ticks ks.length cap (.slice (some ⟨go, 0, none⟩) ks.length cap) wr es1 vg1 gs1 xs ∧ Lists es Fs ks period tick ticks gs i es1 gs1 ms xs) (fun _ s15 _ => ks.length - (intOf s15).toNat)
  case atStart => exact ⟨0, es, vg, gs, [], _, Nat.zero_le _, rfl, rfl, H0.out, Lists.start rfl⟩
  case round =>
    obtain ⟨i, es1, vg1, gs1, ms, xs, hi, rfl, rfl, hC, hLs⟩ := hrel
    by_cases hlt : i < ks.length
    · obtain ⟨k, hk⟩ : ∃ k, k = ks[i] := ⟨_, rfl⟩
      have hkn : k < n := hk ▸ HP.out.2.2.2.1 _ (List.getElem_mem _)
      have HE : Hid (EntAt wr B (Fs k) (es1 k).l (es1 k).vm (es1 k).vp) := hC.net.ent k hkn
      have gi : wr.cell? ⟨go, i, none⟩ = some (.pointer (some ⟨Fs k, 0, none⟩)) := own_cell1 hC.opn (by rw [hk]; exact hLs.head hlt)
      have d36 := HE.out.cell 36 _ rfl
      have HC : Hid (Core w B n Fs es bb go vg period tick hyst ticks ks.length cap (.slice (some ⟨go, 0, none⟩) ks.length cap) wr es1 vg1 gs1 xs ∧ Lists es Fs ks period tick ticks gs i es1 gs1 ms xs ∧ k = ks[i]) := ⟨hC, hLs, hk⟩
      have hil : (i : Int) < (ks.length : Int) := by omega
      cases hd : (es1 k).l.dropped with
      | true =>
        rw [hd] at d36
        clear hC hLs hk
        go_wp2
        go_roundw
        case rel => exact ⟨i + 1, es1, vg1, gs1, ms, xs, by omega, by go_num, rfl, HC.out.1, HC.out.2.1.dropped hlt (by rw [← HC.out.2.2]; exact hd)⟩
        case measure => simp [intOf]; omega
      | false =>
        rw [hd] at d36
        have HJ : Hid _ := judge_any B bb (Fs k) period tick hyst ticks (es1 k).l (es1 k).vm (es1 k).vp wr hC.box HE.out HP.out.1 (hC.good k hkn) HP.out.2.1 (hC.net.nb k hkn)
        clear hC hLs hk
        go_upto_region 7 with (go_at_call 38; refine Calls.mono HJ.out ?_; rintro e w1 ⟨g, l', vm', vp', rfl, hset, hj⟩; have HC1 : Hid (Core w B n Fs es bb go vg period tick hyst ticks ks.length cap (.slice (some ⟨go, 0, none⟩) ks.length cap) w1 (upd es1 k ⟨l', vm', vp'⟩) vg1 gs1 xs) := HC.out.1.judge hkn hj; have HS : Hid (Settled period tick ticks l' ∧ (Settled period tick ticks (es1 k).l → l' = (es1 k).l ∧ g = false) ∧ l'.dropped = false) := ⟨hset, hj.stay, hj.alike.dropped.trans hd⟩; have HE1 : Hid (EntAt w1 B (Fs k) l' vm' vp') := hj.ent; obtain ⟨ap, cp, hvp, hcp1, hcp2⟩ := row_shape hj.ent.prow; subst hvp; have l23 := HE1.out.cell 23 _ rfl; clear hset hj; unfold maxLen at hcp2)
        · obtain ⟨p, hp⟩ : ∃ p, p = l'.peer := ⟨_, rfl⟩
          have hpc : ∀ j, j < 20 → w1.cell? ⟨Fs k, j, none⟩ = (pcells p)[j]? := fun j hj => by
            rw [hp]
            have h2 : ∃ u, (pcells l'.peer)[j]? = some u := ⟨_, List.getElem?_eq_getElem (by rw [pcells_length]; exact hj)⟩
            obtain ⟨u, hu⟩ := h2
            rw [hu]
            refine HE1.out.cell j u ?_
            rw [← hu]
            match j, hj with
            | 0, _ | 1, _ | 2, _ | 3, _ | 4, _ | 5, _ | 6, _ | 7, _ | 8, _ | 9, _ | 10, _ | 11, _ | 12, _ | 13, _ | 14, _ | 15, _ | 16, _ | 17, _ | 18, _ | 19, _ => rfl
          have HRg : Hid (w1.drew.rangeAt (Fs k) 0 (pcells p)) := fun j v hv => by
            have hj : j < 20 := by have := (List.getElem?_eq_some_iff.1 hv).1; rw [pcells_length] at this; exact this
            rw [Nat.zero_add]
            exact (hpc j hj).trans hv
          have c9 := HC1.out.c9
          have f9 := HC1.out.box.frozen 9
          have hO : (w1.alloc (.cells (pcells p).toArray 39)).drew.ownsRow B 39 20 vg1 gs1.length (grow gs1) := HC1.out.gone.alloc _
          have hcN : ∀ j u, (pcells p)[j]? = some u → (w1.alloc (.cells (pcells p).toArray 39)).drew.cell? ((⟨w1.heap.size, 0, none⟩ : Addr).add j) = some u := cells_new w1 (pcells p) 39
          have hON : Only (fun _ => False) w1 (w1.alloc (.cells (pcells p).toArray 39)).drew := ((Only.refl _ w1).alloc _).drew
          have k9 : (w1.alloc (.cells (pcells p).toArray 39)).cell? ⟨bb, 9, none⟩ = some vg1 := (hON.cell (p := ⟨bb, 9, none⟩) HC1.out.box.hi (fun h => h)).trans c9
          have hbB : B ≤ (w1.alloc (.cells (pcells p).toArray 39)).drew.heap.size := by have := HC1.out.box.lo; have := HC1.out.box.hi; simp; omega
          have hone := pcells_one p
          have hgl1 : gs1.length ≤ 65536 + 4096 := by have := HC.out.2.1.glen; have := HP.out.2.2.2.2; omega
          have kf9 : (w1.alloc (.cells (pcells p).toArray 39)).drew.frozen? ⟨bb, 9, none⟩ = false := (hON.frozen (p := ⟨bb, 9, none⟩) HC1.out.box.hi (fun h => h)).trans f9
          have hblt : bb < (w1.alloc (.cells (pcells p).toArray 39)).drew.heap.size := by have := HC1.out.box.hi; simp; omega
          have HON : Hid (∀ (w2 : World) (v' : Value), w2.ownsRow B 39 20 v' (gs1.length + 1) (grow gs1 ++ pcells p) → (w1.alloc (.cells (pcells p).toArray 39)).drew.grownBy w2 vg1.ownBlock → (v'.ownBlock = vg1.ownBlock ∨ v'.ownBlock = some (w1.alloc (.cells (pcells p).toArray 39)).drew.heap.size) → Core w B n Fs es bb go vg period tick hyst ticks ks.length cap (.slice (some ⟨go, 0, none⟩) ks.length cap) (w2.setCell ⟨bb, 9, none⟩ v') (upd es1 k ⟨l', vm', .slice ap l'.pending.length cp⟩) v' (gs1 ++ [p]) xs) := fun w2 v' q1 q2 q3 => (HC1.out.later hON).noteGone q1 q2 q3
          simp only [pcells] at hO hcN k9 hbB hone kf9 hblt HON
          have HH : Hid (_ ∧ _ ∧ _ ∧ _ ∧ _ ∧ _) := ⟨hO, hcN, hbB, hone, kf9, hblt⟩
          have HN9 : Hid _ := HC1.out.net.gb
          clear hO hcN hbB hone kf9 hblt hpc hON hp
          refine wp_region_any (by kernel_rfl) ?_
          change wpAny _ _ _ _ _ _ _ (World.drew _)
          refine wpAny_take (i := 0) (oi := { dst := some 26, op := Op.move (Operand.tmp 0), type := 29, pos := "beacon.go:302", after := #[], guard := none }) (v := .pointer (some ⟨bb, 0, none⟩)) rfl (by kernel_rfl) (by kernel_rfl) (by kernel_rfl) (fun _ _ _ h => h) (Or.inl ⟨by rfl, by intro w; go_simp⟩) ?_
          simp only [Act.put, List.setIfInBounds_toArray, List.set_cons_zero, List.set_cons_succ]
          refine wpAny_take (i := 1) (oi := { dst := some 27, op := Op.move (Operand.tmp 0), type := 29, pos := "beacon.go:302", after := #[], guard := none }) (v := .pointer (some ⟨bb, 0, none⟩)) rfl (by kernel_rfl) (by kernel_rfl) (by kernel_rfl) (fun _ _ _ h => h) (Or.inl ⟨by rfl, by intro w; go_simp⟩) ?_
          simp only [Act.put, List.setIfInBounds_toArray, List.set_cons_zero, List.set_cons_succ]
          refine wpAny_take (i := 2) (oi := { dst := some 28, op := Op.nilCheck (Operand.tmp 27), type := 0, pos := "beacon.go:302", after := #[{ on := 1, ground := Ground.data }], guard := none }) (v := .pointer (some ⟨bb, 0, none⟩)) rfl (by kernel_rfl) (by kernel_rfl) (by kernel_rfl) (fun _ _ _ h => h) (Or.inl ⟨by rfl, by intro w; go_simp⟩) ?_
          simp only [Act.put, List.setIfInBounds_toArray, List.set_cons_zero, List.set_cons_succ]
          refine wpAny_take (i := 3) (oi := { dst := some 29, op := Op.fieldAddr 76 (Operand.tmp 28) 9, type := 0, pos := "beacon.go:302", after := #[{ on := 2, ground := Ground.data }], guard := none }) (v := .pointer (some ⟨bb, 9, none⟩)) rfl (by kernel_rfl) (by kernel_rfl) (by kernel_rfl) (fun _ _ _ h => h) (Or.inl ⟨by rfl, by intro w; go_simp⟩) ?_
          simp only [Act.put, List.setIfInBounds_toArray, List.set_cons_zero, List.set_cons_succ]
          refine wpAny_take (i := 5) (oi := { dst := some 31, op := Op.move (Operand.tmp 4), type := 35, pos := "beacon.go:302", after := #[], guard := none }) (v := .pointer (some ⟨Fs k, 0, none⟩)) rfl (by kernel_rfl) (by kernel_rfl) (by kernel_rfl) (fun _ _ _ h => h) (Or.inl ⟨by rfl, by intro w; go_simp⟩) ?_
          simp only [Act.put, List.setIfInBounds_toArray, List.set_cons_zero, List.set_cons_succ]
          refine wpAny_take (i := 6) (oi := { dst := some 32, op := Op.nilCheck (Operand.tmp 31), type := 0, pos := "beacon.go:302", after := #[{ on := 5, ground := Ground.data }], guard := none }) (v := .pointer (some ⟨Fs k, 0, none⟩)) rfl (by kernel_rfl) (by kernel_rfl) (by kernel_rfl) (fun _ _ _ h => h) (Or.inl ⟨by rfl, by intro w; go_simp⟩) ?_
          simp only [Act.put, List.setIfInBounds_toArray, List.set_cons_zero, List.set_cons_succ]
          refine wpAny_take (i := 7) (oi := { dst := some 33, op := Op.fieldAddr 83 (Operand.tmp 32) 0, type := 0, pos := "beacon.go:302", after := #[{ on := 6, ground := Ground.data }], guard := none }) (v := .pointer (some ⟨Fs k, 0, none⟩)) rfl (by kernel_rfl) (by kernel_rfl) (by kernel_rfl) (fun _ _ _ h => h) (Or.inl ⟨by rfl, by intro w; go_simp⟩) ?_
          simp only [Act.put, List.setIfInBounds_toArray, List.set_cons_zero, List.set_cons_succ]
          refine wpAny_ready (rs := [4, 8]) (by kernel_rfl) (by simp) ?_
          refine AllReady.cons (i := 4) (rs := [8]) (o := { dst := some 30, op := Op.load 36 (Operand.tmp 29), type := 36, pos := "beacon.go:302", after := #[{ on := 3, ground := Ground.data }], guard := none }) (by kernel_rfl) ?_ ?_
          · intro K hK
            go_simp
            refine hK _ _ ?_
            clear hK K
            refine wpAny_ready (rs := [8]) (by kernel_rfl) (by simp) ?_
            refine AllReady.cons (i := 8) (rs := []) (o := { dst := some 34, op := Op.load 39 (Operand.tmp 33), type := 39, pos := "beacon.go:302", after := #[{ on := 7, ground := Ground.data }], guard := none }) (by kernel_rfl) ?_ AllReady.nil
            intro K hK
            refine step_load_mid rfl 39 (.tmp 33) rfl (Fs k) 0 rfl (pcells p) _ HRg.out Try.underlying39 rfl Try.size39 ?_
            simp only [pcells, Act.put, List.setIfInBounds_toArray, List.set_cons_zero, List.set_cons_succ]
            refine hK _ _ ?_
            clear hK K
            refine wpAny_ready (rs := [9]) (by kernel_rfl) (by simp) ?_
            refine AllReady.cons (i := 9) (rs := []) (o := { dst := some 35, op := Op.buildSlice 36 1 #[(0, Operand.tmp 34)], type := 36, pos := "beacon.go:302", after := #[{ on := 8, ground := Ground.data }], guard := none }) (by kernel_rfl) ?_ AllReady.nil
            intro K hK
            go_simp
            refine hK _ _ ?_
            clear hK K
            refine wpAny_ready (rs := [10]) (by kernel_rfl) (by simp) ?_
            refine AllReady.cons (i := 10) (rs := []) (o := { dst := some 36, op := Op.call { callee := Callee.builtin Builtin.append, args := #[Operand.tmp 30, Operand.tmp 35], argTypes := #[36, 36] }, type := 36, pos := "beacon.go:302", after := #[{ on := 4, ground := Ground.data }, { on := 9, ground := Ground.data }], guard := none }) (by kernel_rfl) ?_ AllReady.nil
            intro K hK
            (refine step_append_own rfl (.tmp 30) (.tmp 35) 36 rfl B 39 i39 zero20 20 20 Try.underlying36 HI39.out.1 HI39.out.2.1 HI39.out.2.2.1 HI39.out.2.2.2 rfl (by decide) vg1 gs1.length (grow gs1) rfl HH.out.1 ⟨w1.heap.size, 0, none⟩ 1 1 _ rfl rfl HH.out.2.1 HH.out.2.2.2.1 (by unfold maxLen; omega) (by omega) HH.out.2.2.1 ?_; intro v4 w4 hown4 hg4 hl4; obtain ⟨g4, c4, hv4, hbg4, hlt4, hnc4, hcm4⟩ := own_some hown4; subst hv4; have z0 := hg4.cell k9 (fun e => HN9.out e.symm); have zf := (World.frozen?_of_block (a := ⟨bb, 9, none⟩) (hg4.block bb HH.out.2.2.2.2.2 (fun e => HN9.out e.symm))).trans HH.out.2.2.2.2.1)
            refine hK _ _ ?_
            clear hK K
            refine wpAny_take (i := 11) (oi := { dst := some 37, op := Op.nilCheck (Operand.tmp 26), type := 0, pos := "beacon.go:302", after := #[{ on := 0, ground := Ground.data }, { on := 0, ground := Ground.phase }, { on := 1, ground := Ground.phase }, { on := 2, ground := Ground.phase }, { on := 3, ground := Ground.phase }, { on := 4, ground := Ground.phase }, { on := 5, ground := Ground.phase }, { on := 6, ground := Ground.phase }, { on := 7, ground := Ground.phase }, { on := 8, ground := Ground.phase }, { on := 9, ground := Ground.phase }, { on := 10, ground := Ground.phase }], guard := none }) (v := .pointer (some ⟨bb, 0, none⟩)) rfl (by kernel_rfl) (by kernel_rfl) (by kernel_rfl) (fun _ _ _ h => h) (Or.inl ⟨by rfl, by intro w; go_simp⟩) ?_
            simp only [Act.put, List.setIfInBounds_toArray, List.set_cons_zero, List.set_cons_succ]
            refine wpAny_take (i := 12) (oi := { dst := some 38, op := Op.fieldAddr 76 (Operand.tmp 37) 9, type := 0, pos := "beacon.go:302", after := #[{ on := 11, ground := Ground.data }, { on := 0, ground := Ground.phase }, { on := 1, ground := Ground.phase }, { on := 2, ground := Ground.phase }, { on := 3, ground := Ground.phase }, { on := 4, ground := Ground.phase }, { on := 5, ground := Ground.phase }, { on := 6, ground := Ground.phase }, { on := 7, ground := Ground.phase }, { on := 8, ground := Ground.phase }, { on := 9, ground := Ground.phase }, { on := 10, ground := Ground.phase }], guard := none }) (v := .pointer (some ⟨bb, 9, none⟩)) rfl (by kernel_rfl) (by kernel_rfl) (by kernel_rfl) (fun _ _ _ h => h) (Or.inl ⟨by rfl, by intro w; go_simp⟩) ?_
            simp only [Act.put, List.setIfInBounds_toArray, List.set_cons_zero, List.set_cons_succ]
            refine wpAny_ready (rs := [13]) (by kernel_rfl) (by simp) ?_
            refine AllReady.cons (i := 13) (rs := []) (o := { dst := none, op := Op.store 36 (Operand.tmp 38) (Operand.tmp 36), type := 0, pos := "beacon.go:302", after := #[{ on := 12, ground := Ground.data }, { on := 10, ground := Ground.data }, { on := 10, ground := Ground.chain }, { on := 0, ground := Ground.phase }, { on := 1, ground := Ground.phase }, { on := 2, ground := Ground.phase }, { on := 3, ground := Ground.phase }, { on := 4, ground := Ground.phase }, { on := 5, ground := Ground.phase }, { on := 6, ground := Ground.phase }, { on := 7, ground := Ground.phase }, { on := 8, ground := Ground.phase }, { on := 9, ground := Ground.phase }, { on := 10, ground := Ground.phase }], guard := none }) (by kernel_rfl) ?_ AllReady.nil
            intro K hK
            go_simp
            refine hK _ _ ?_
            clear hK K
            refine wpAny_done (by kernel_rfl) ?_ _
            have hg1 : g = true := by assumption
            have hT := HON.out w4 _ hown4 hg4 hl4
            obtain ⟨WT, hWT⟩ : ∃ WT, WT = w4.setCell ⟨bb, 9, none⟩ (.slice (some ⟨g4, 0, none⟩) (gs1.length + 1) c4) := ⟨_, rfl⟩
            rw [← hWT] at hT ⊢
            clear hWT hown4 hg4 hl4 z0 zf k9 c9 f9 l23
            go_upto_region 7 with fail
            obtain ⟨vg2, hvg2⟩ : ∃ vg2, vg2 = Value.slice (some ⟨g4, 0, none⟩) (gs1.length + 1) c4 := ⟨_, rfl⟩
            obtain ⟨gs2, hgs2⟩ : ∃ gs2, gs2 = gs1 ++ [p] := ⟨_, rfl⟩
            rw [← hvg2, ← hgs2] at hT
            have HGs : Hid ((g = false → gs2 = gs1) ∧ gs2.length ≤ gs1.length + 1) := ⟨(fun h => by rw [hg1] at h; cases h), (by rw [hgs2]; simp)⟩
            clear hvg2 hgs2 hg1
            have HT : Hid (Core w B n Fs es bb go vg period tick hyst ticks ks.length cap (.slice (some ⟨go, 0, none⟩) ks.length cap) WT (upd es1 k ⟨l', vm', .slice ap l'.pending.length cp⟩) vg2 gs2 xs) := hT
            have HET : Hid (EntAt WT B (Fs k) l' vm' (.slice ap l'.pending.length cp)) := by
              have := hT.net.ent k hkn
              rw [upd_same] at this
              exact this
            have t23 := HET.out.cell 23 _ rfl
            clear hT
            have hml := HC.out.2.1.mle
            have hxl : xs.length = ks.length := by have := HC.out.1.opn.1; omega
            cases hpn : l'.pending with
            | nil =>
              have hpl : l'.pending.length = 0 := by rw [hpn]; rfl
              rw [hpl] at t23
              go_wp2
              go_roundw
              case rel =>
                refine ⟨i + 1, _, vg2, gs2, ms, xs, by omega, by go_num, rfl, HT.out, ?_⟩
                have hk := HC.out.2.2
                subst hk
                exact HC.out.2.1.judged HP.out.2.2.1 hlt hxl HS.out.1 HS.out.2.1 HGs.out.1 HGs.out.2 (.inr ⟨by unfold keepL; rw [upd_same]; simp [hpn], rfl, rfl⟩)
              case measure => simp [intOf]; omega
            | cons b0 brest =>
              have hpl : (0 : Int) < (l'.pending.length : Int) := by rw [hpn, List.length_cons]; omega
              have hroom : ms.length + 1 ≤ cap := by omega
              have hth := own_there (HT.out.opn.alloc (.cells #[.pointer (some ⟨Fs k, 0, none⟩)] 35)) ms.length (by omega)
              go_wp2_with (at_builtin; refine wpList_append_set rfl (.tmp 45) (.tmp 47) 30 rfl 35 i35 Try.underlying30 HI35.out.1 HI35.out.2 go ms.length cap rfl ⟨WT.heap.size, 0, none⟩ 1 (.pointer (some ⟨Fs k, 0, none⟩)) rfl (cell_one_new _ _ _) rfl hroom hth.1 hth.2 ?_)
              go_roundw
              case rel =>
                refine ⟨i + 1, _, vg2, gs2, ms ++ [k], xs.set ms.length (ptrV (Fs k)), by omega, by go_num, by simp, (HT.out.later ((Only.refl _ _).alloc _)).put _, ?_⟩
                have hk := HC.out.2.2
                subst hk
                exact HC.out.2.1.judged HP.out.2.2.1 hlt hxl HS.out.1 HS.out.2.1 HGs.out.1 HGs.out.2 (.inl ⟨by unfold keepL; rw [upd_same]; simp [hpn, HS.out.2.2], rfl, rfl⟩)
              case measure => simp [intOf]; omega

          · refine AllReady.cons (i := 8) (rs := []) (o := { dst := some 34, op := Op.load 39 (Operand.tmp 33), type := 39, pos := "beacon.go:302", after := #[{ on := 7, ground := Ground.data }], guard := none }) (by kernel_rfl) ?_ AllReady.nil
            intro K hK
            refine step_load_mid rfl 39 (.tmp 33) rfl (Fs k) 0 rfl (pcells p) _ HRg.out Try.underlying39 rfl Try.size39 ?_
            simp only [pcells, Act.put, List.setIfInBounds_toArray, List.set_cons_zero, List.set_cons_succ]
            refine hK _ _ ?_
            clear hK K
            refine wpAny_ready (rs := [4, 9]) (by kernel_rfl) (by simp) ?_
            refine AllReady.cons (i := 4) (rs := [9]) (o := { dst := some 30, op := Op.load 36 (Operand.tmp 29), type := 36, pos := "beacon.go:302", after := #[{ on := 3, ground := Ground.data }], guard := none }) (by kernel_rfl) ?_ ?_
            · intro K hK
              go_simp
              refine hK _ _ ?_
              clear hK K
              refine wpAny_ready (rs := [9]) (by kernel_rfl) (by simp) ?_
              refine AllReady.cons (i := 9) (rs := []) (o := { dst := some 35, op := Op.buildSlice 36 1 #[(0, Operand.tmp 34)], type := 36, pos := "beacon.go:302", after := #[{ on := 8, ground := Ground.data }], guard := none }) (by kernel_rfl) ?_ AllReady.nil
              intro K hK
              go_simp
              refine hK _ _ ?_
              clear hK K
              refine wpAny_ready (rs := [10]) (by kernel_rfl) (by simp) ?_
              refine AllReady.cons (i := 10) (rs := []) (o := { dst := some 36, op := Op.call { callee := Callee.builtin Builtin.append, args := #[Operand.tmp 30, Operand.tmp 35], argTypes := #[36, 36] }, type := 36, pos := "beacon.go:302", after := #[{ on := 4, ground := Ground.data }, { on := 9, ground := Ground.data }], guard := none }) (by kernel_rfl) ?_ AllReady.nil
              intro K hK
              (refine step_append_own rfl (.tmp 30) (.tmp 35) 36 rfl B 39 i39 zero20 20 20 Try.underlying36 HI39.out.1 HI39.out.2.1 HI39.out.2.2.1 HI39.out.2.2.2 rfl (by decide) vg1 gs1.length (grow gs1) rfl HH.out.1 ⟨w1.heap.size, 0, none⟩ 1 1 _ rfl rfl HH.out.2.1 HH.out.2.2.2.1 (by unfold maxLen; omega) (by omega) HH.out.2.2.1 ?_; intro v4 w4 hown4 hg4 hl4; obtain ⟨g4, c4, hv4, hbg4, hlt4, hnc4, hcm4⟩ := own_some hown4; subst hv4; have z0 := hg4.cell k9 (fun e => HN9.out e.symm); have zf := (World.frozen?_of_block (a := ⟨bb, 9, none⟩) (hg4.block bb HH.out.2.2.2.2.2 (fun e => HN9.out e.symm))).trans HH.out.2.2.2.2.1)
              refine hK _ _ ?_
              clear hK K
              refine wpAny_take (i := 11) (oi := { dst := some 37, op := Op.nilCheck (Operand.tmp 26), type := 0, pos := "beacon.go:302", after := #[{ on := 0, ground := Ground.data }, { on := 0, ground := Ground.phase }, { on := 1, ground := Ground.phase }, { on := 2, ground := Ground.phase }, { on := 3, ground := Ground.phase }, { on := 4, ground := Ground.phase }, { on := 5, ground := Ground.phase }, { on := 6, ground := Ground.phase }, { on := 7, ground := Ground.phase }, { on := 8, ground := Ground.phase }, { on := 9, ground := Ground.phase }, { on := 10, ground := Ground.phase }], guard := none }) (v := .pointer (some ⟨bb, 0, none⟩)) rfl (by kernel_rfl) (by kernel_rfl) (by kernel_rfl) (fun _ _ _ h => h) (Or.inl ⟨by rfl, by intro w; go_simp⟩) ?_
              simp only [Act.put, List.setIfInBounds_toArray, List.set_cons_zero, List.set_cons_succ]
              refine wpAny_take (i := 12) (oi := { dst := some 38, op := Op.fieldAddr 76 (Operand.tmp 37) 9, type := 0, pos := "beacon.go:302", after := #[{ on := 11, ground := Ground.data }, { on := 0, ground := Ground.phase }, { on := 1, ground := Ground.phase }, { on := 2, ground := Ground.phase }, { on := 3, ground := Ground.phase }, { on := 4, ground := Ground.phase }, { on := 5, ground := Ground.phase }, { on := 6, ground := Ground.phase }, { on := 7, ground := Ground.phase }, { on := 8, ground := Ground.phase }, { on := 9, ground := Ground.phase }, { on := 10, ground := Ground.phase }], guard := none }) (v := .pointer (some ⟨bb, 9, none⟩)) rfl (by kernel_rfl) (by kernel_rfl) (by kernel_rfl) (fun _ _ _ h => h) (Or.inl ⟨by rfl, by intro w; go_simp⟩) ?_
              simp only [Act.put, List.setIfInBounds_toArray, List.set_cons_zero, List.set_cons_succ]
              refine wpAny_ready (rs := [13]) (by kernel_rfl) (by simp) ?_
              refine AllReady.cons (i := 13) (rs := []) (o := { dst := none, op := Op.store 36 (Operand.tmp 38) (Operand.tmp 36), type := 0, pos := "beacon.go:302", after := #[{ on := 12, ground := Ground.data }, { on := 10, ground := Ground.data }, { on := 10, ground := Ground.chain }, { on := 0, ground := Ground.phase }, { on := 1, ground := Ground.phase }, { on := 2, ground := Ground.phase }, { on := 3, ground := Ground.phase }, { on := 4, ground := Ground.phase }, { on := 5, ground := Ground.phase }, { on := 6, ground := Ground.phase }, { on := 7, ground := Ground.phase }, { on := 8, ground := Ground.phase }, { on := 9, ground := Ground.phase }, { on := 10, ground := Ground.phase }], guard := none }) (by kernel_rfl) ?_ AllReady.nil
              intro K hK
              go_simp
              refine hK _ _ ?_
              clear hK K
              refine wpAny_done (by kernel_rfl) ?_ _
              have hg1 : g = true := by assumption
              have hT := HON.out w4 _ hown4 hg4 hl4
              obtain ⟨WT, hWT⟩ : ∃ WT, WT = w4.setCell ⟨bb, 9, none⟩ (.slice (some ⟨g4, 0, none⟩) (gs1.length + 1) c4) := ⟨_, rfl⟩
              rw [← hWT] at hT ⊢
              clear hWT hown4 hg4 hl4 z0 zf k9 c9 f9 l23
              go_upto_region 7 with fail
              obtain ⟨vg2, hvg2⟩ : ∃ vg2, vg2 = Value.slice (some ⟨g4, 0, none⟩) (gs1.length + 1) c4 := ⟨_, rfl⟩
              obtain ⟨gs2, hgs2⟩ : ∃ gs2, gs2 = gs1 ++ [p] := ⟨_, rfl⟩
              rw [← hvg2, ← hgs2] at hT
              have HGs : Hid ((g = false → gs2 = gs1) ∧ gs2.length ≤ gs1.length + 1) := ⟨(fun h => by rw [hg1] at h; cases h), (by rw [hgs2]; simp)⟩
              clear hvg2 hgs2 hg1
              have HT : Hid (Core w B n Fs es bb go vg period tick hyst ticks ks.length cap (.slice (some ⟨go, 0, none⟩) ks.length cap) WT (upd es1 k ⟨l', vm', .slice ap l'.pending.length cp⟩) vg2 gs2 xs) := hT
              have HET : Hid (EntAt WT B (Fs k) l' vm' (.slice ap l'.pending.length cp)) := by
                have := hT.net.ent k hkn
                rw [upd_same] at this
                exact this
              have t23 := HET.out.cell 23 _ rfl
              clear hT
              have hml := HC.out.2.1.mle
              have hxl : xs.length = ks.length := by have := HC.out.1.opn.1; omega
              cases hpn : l'.pending with
              | nil =>
                have hpl : l'.pending.length = 0 := by rw [hpn]; rfl
                rw [hpl] at t23
                go_wp2
                go_roundw
                case rel =>
                  refine ⟨i + 1, _, vg2, gs2, ms, xs, by omega, by go_num, rfl, HT.out, ?_⟩
                  have hk := HC.out.2.2
                  subst hk
                  exact HC.out.2.1.judged HP.out.2.2.1 hlt hxl HS.out.1 HS.out.2.1 HGs.out.1 HGs.out.2 (.inr ⟨by unfold keepL; rw [upd_same]; simp [hpn], rfl, rfl⟩)
                case measure => simp [intOf]; omega
              | cons b0 brest =>
                have hpl : (0 : Int) < (l'.pending.length : Int) := by rw [hpn, List.length_cons]; omega
                have hroom : ms.length + 1 ≤ cap := by omega
                have hth := own_there (HT.out.opn.alloc (.cells #[.pointer (some ⟨Fs k, 0, none⟩)] 35)) ms.length (by omega)
                go_wp2_with (at_builtin; refine wpList_append_set rfl (.tmp 45) (.tmp 47) 30 rfl 35 i35 Try.underlying30 HI35.out.1 HI35.out.2 go ms.length cap rfl ⟨WT.heap.size, 0, none⟩ 1 (.pointer (some ⟨Fs k, 0, none⟩)) rfl (cell_one_new _ _ _) rfl hroom hth.1 hth.2 ?_)
                go_roundw
                case rel =>
                  refine ⟨i + 1, _, vg2, gs2, ms ++ [k], xs.set ms.length (ptrV (Fs k)), by omega, by go_num, by simp, (HT.out.later ((Only.refl _ _).alloc _)).put _, ?_⟩
                  have hk := HC.out.2.2
                  subst hk
                  exact HC.out.2.1.judged HP.out.2.2.1 hlt hxl HS.out.1 HS.out.2.1 HGs.out.1 HGs.out.2 (.inl ⟨by unfold keepL; rw [upd_same]; simp [hpn, HS.out.2.2], rfl, rfl⟩)
                case measure => simp [intOf]; omega

            · refine AllReady.cons (i := 9) (rs := []) (o := { dst := some 35, op := Op.buildSlice 36 1 #[(0, Operand.tmp 34)], type := 36, pos := "beacon.go:302", after := #[{ on := 8, ground := Ground.data }], guard := none }) (by kernel_rfl) ?_ AllReady.nil
              intro K hK
              go_simp
              refine hK _ _ ?_
              clear hK K
              refine wpAny_ready (rs := [4]) (by kernel_rfl) (by simp) ?_
              refine AllReady.cons (i := 4) (rs := []) (o := { dst := some 30, op := Op.load 36 (Operand.tmp 29), type := 36, pos := "beacon.go:302", after := #[{ on := 3, ground := Ground.data }], guard := none }) (by kernel_rfl) ?_ AllReady.nil
              intro K hK
              go_simp
              refine hK _ _ ?_
              clear hK K
              refine wpAny_ready (rs := [10]) (by kernel_rfl) (by simp) ?_
              refine AllReady.cons (i := 10) (rs := []) (o := { dst := some 36, op := Op.call { callee := Callee.builtin Builtin.append, args := #[Operand.tmp 30, Operand.tmp 35], argTypes := #[36, 36] }, type := 36, pos := "beacon.go:302", after := #[{ on := 4, ground := Ground.data }, { on := 9, ground := Ground.data }], guard := none }) (by kernel_rfl) ?_ AllReady.nil
              intro K hK
              (refine step_append_own rfl (.tmp 30) (.tmp 35) 36 rfl B 39 i39 zero20 20 20 Try.underlying36 HI39.out.1 HI39.out.2.1 HI39.out.2.2.1 HI39.out.2.2.2 rfl (by decide) vg1 gs1.length (grow gs1) rfl HH.out.1 ⟨w1.heap.size, 0, none⟩ 1 1 _ rfl rfl HH.out.2.1 HH.out.2.2.2.1 (by unfold maxLen; omega) (by omega) HH.out.2.2.1 ?_; intro v4 w4 hown4 hg4 hl4; obtain ⟨g4, c4, hv4, hbg4, hlt4, hnc4, hcm4⟩ := own_some hown4; subst hv4; have z0 := hg4.cell k9 (fun e => HN9.out e.symm); have zf := (World.frozen?_of_block (a := ⟨bb, 9, none⟩) (hg4.block bb HH.out.2.2.2.2.2 (fun e => HN9.out e.symm))).trans HH.out.2.2.2.2.1)
              refine hK _ _ ?_
              clear hK K
              refine wpAny_take (i := 11) (oi := { dst := some 37, op := Op.nilCheck (Operand.tmp 26), type := 0, pos := "beacon.go:302", after := #[{ on := 0, ground := Ground.data }, { on := 0, ground := Ground.phase }, { on := 1, ground := Ground.phase }, { on := 2, ground := Ground.phase }, { on := 3, ground := Ground.phase }, { on := 4, ground := Ground.phase }, { on := 5, ground := Ground.phase }, { on := 6, ground := Ground.phase }, { on := 7, ground := Ground.phase }, { on := 8, ground := Ground.phase }, { on := 9, ground := Ground.phase }, { on := 10, ground := Ground.phase }], guard := none }) (v := .pointer (some ⟨bb, 0, none⟩)) rfl (by kernel_rfl) (by kernel_rfl) (by kernel_rfl) (fun _ _ _ h => h) (Or.inl ⟨by rfl, by intro w; go_simp⟩) ?_
              simp only [Act.put, List.setIfInBounds_toArray, List.set_cons_zero, List.set_cons_succ]
              refine wpAny_take (i := 12) (oi := { dst := some 38, op := Op.fieldAddr 76 (Operand.tmp 37) 9, type := 0, pos := "beacon.go:302", after := #[{ on := 11, ground := Ground.data }, { on := 0, ground := Ground.phase }, { on := 1, ground := Ground.phase }, { on := 2, ground := Ground.phase }, { on := 3, ground := Ground.phase }, { on := 4, ground := Ground.phase }, { on := 5, ground := Ground.phase }, { on := 6, ground := Ground.phase }, { on := 7, ground := Ground.phase }, { on := 8, ground := Ground.phase }, { on := 9, ground := Ground.phase }, { on := 10, ground := Ground.phase }], guard := none }) (v := .pointer (some ⟨bb, 9, none⟩)) rfl (by kernel_rfl) (by kernel_rfl) (by kernel_rfl) (fun _ _ _ h => h) (Or.inl ⟨by rfl, by intro w; go_simp⟩) ?_
              simp only [Act.put, List.setIfInBounds_toArray, List.set_cons_zero, List.set_cons_succ]
              refine wpAny_ready (rs := [13]) (by kernel_rfl) (by simp) ?_
              refine AllReady.cons (i := 13) (rs := []) (o := { dst := none, op := Op.store 36 (Operand.tmp 38) (Operand.tmp 36), type := 0, pos := "beacon.go:302", after := #[{ on := 12, ground := Ground.data }, { on := 10, ground := Ground.data }, { on := 10, ground := Ground.chain }, { on := 0, ground := Ground.phase }, { on := 1, ground := Ground.phase }, { on := 2, ground := Ground.phase }, { on := 3, ground := Ground.phase }, { on := 4, ground := Ground.phase }, { on := 5, ground := Ground.phase }, { on := 6, ground := Ground.phase }, { on := 7, ground := Ground.phase }, { on := 8, ground := Ground.phase }, { on := 9, ground := Ground.phase }, { on := 10, ground := Ground.phase }], guard := none }) (by kernel_rfl) ?_ AllReady.nil
              intro K hK
              go_simp
              refine hK _ _ ?_
              clear hK K
              refine wpAny_done (by kernel_rfl) ?_ _
              have hg1 : g = true := by assumption
              have hT := HON.out w4 _ hown4 hg4 hl4
              obtain ⟨WT, hWT⟩ : ∃ WT, WT = w4.setCell ⟨bb, 9, none⟩ (.slice (some ⟨g4, 0, none⟩) (gs1.length + 1) c4) := ⟨_, rfl⟩
              rw [← hWT] at hT ⊢
              clear hWT hown4 hg4 hl4 z0 zf k9 c9 f9 l23
              go_upto_region 7 with fail
              obtain ⟨vg2, hvg2⟩ : ∃ vg2, vg2 = Value.slice (some ⟨g4, 0, none⟩) (gs1.length + 1) c4 := ⟨_, rfl⟩
              obtain ⟨gs2, hgs2⟩ : ∃ gs2, gs2 = gs1 ++ [p] := ⟨_, rfl⟩
              rw [← hvg2, ← hgs2] at hT
              have HGs : Hid ((g = false → gs2 = gs1) ∧ gs2.length ≤ gs1.length + 1) := ⟨(fun h => by rw [hg1] at h; cases h), (by rw [hgs2]; simp)⟩
              clear hvg2 hgs2 hg1
              have HT : Hid (Core w B n Fs es bb go vg period tick hyst ticks ks.length cap (.slice (some ⟨go, 0, none⟩) ks.length cap) WT (upd es1 k ⟨l', vm', .slice ap l'.pending.length cp⟩) vg2 gs2 xs) := hT
              have HET : Hid (EntAt WT B (Fs k) l' vm' (.slice ap l'.pending.length cp)) := by
                have := hT.net.ent k hkn
                rw [upd_same] at this
                exact this
              have t23 := HET.out.cell 23 _ rfl
              clear hT
              have hml := HC.out.2.1.mle
              have hxl : xs.length = ks.length := by have := HC.out.1.opn.1; omega
              cases hpn : l'.pending with
              | nil =>
                have hpl : l'.pending.length = 0 := by rw [hpn]; rfl
                rw [hpl] at t23
                go_wp2
                go_roundw
                case rel =>
                  refine ⟨i + 1, _, vg2, gs2, ms, xs, by omega, by go_num, rfl, HT.out, ?_⟩
                  have hk := HC.out.2.2
                  subst hk
                  exact HC.out.2.1.judged HP.out.2.2.1 hlt hxl HS.out.1 HS.out.2.1 HGs.out.1 HGs.out.2 (.inr ⟨by unfold keepL; rw [upd_same]; simp [hpn], rfl, rfl⟩)
                case measure => simp [intOf]; omega
              | cons b0 brest =>
                have hpl : (0 : Int) < (l'.pending.length : Int) := by rw [hpn, List.length_cons]; omega
                have hroom : ms.length + 1 ≤ cap := by omega
                have hth := own_there (HT.out.opn.alloc (.cells #[.pointer (some ⟨Fs k, 0, none⟩)] 35)) ms.length (by omega)
                go_wp2_with (at_builtin; refine wpList_append_set rfl (.tmp 45) (.tmp 47) 30 rfl 35 i35 Try.underlying30 HI35.out.1 HI35.out.2 go ms.length cap rfl ⟨WT.heap.size, 0, none⟩ 1 (.pointer (some ⟨Fs k, 0, none⟩)) rfl (cell_one_new _ _ _) rfl hroom hth.1 hth.2 ?_)
                go_roundw
                case rel =>
                  refine ⟨i + 1, _, vg2, gs2, ms ++ [k], xs.set ms.length (ptrV (Fs k)), by omega, by go_num, by simp, (HT.out.later ((Only.refl _ _).alloc _)).put _, ?_⟩
                  have hk := HC.out.2.2
                  subst hk
                  exact HC.out.2.1.judged HP.out.2.2.1 hlt hxl HS.out.1 HS.out.2.1 HGs.out.1 HGs.out.2 (.inl ⟨by unfold keepL; rw [upd_same]; simp [hpn, HS.out.2.2], rfl, rfl⟩)
                case measure => simp [intOf]; omega

        · obtain ⟨WT, hWT⟩ : ∃ WT, WT = w1 := ⟨_, rfl⟩
          obtain ⟨vg2, hvg2⟩ : ∃ vg2, vg2 = vg1 := ⟨_, rfl⟩
          obtain ⟨gs2, hgs2⟩ : ∃ gs2, gs2 = gs1 := ⟨_, rfl⟩
          have hT := HC1.out
          rw [← hWT, ← hvg2, ← hgs2] at hT
          rw [← hWT]
          have HGs : Hid ((g = false → gs2 = gs1) ∧ gs2.length ≤ gs1.length + 1) := ⟨fun _ => hgs2, by rw [hgs2]; omega⟩
          clear hWT hvg2 hgs2 l23
          have HT : Hid (Core w B n Fs es bb go vg period tick hyst ticks ks.length cap (.slice (some ⟨go, 0, none⟩) ks.length cap) WT (upd es1 k ⟨l', vm', .slice ap l'.pending.length cp⟩) vg2 gs2 xs) := hT
          have HET : Hid (EntAt WT B (Fs k) l' vm' (.slice ap l'.pending.length cp)) := by
            have := hT.net.ent k hkn
            rw [upd_same] at this
            exact this
          have t23 := HET.out.cell 23 _ rfl
          clear hT
          have hml := HC.out.2.1.mle
          have hxl : xs.length = ks.length := by have := HC.out.1.opn.1; omega
          cases hpn : l'.pending with
          | nil =>
            have hpl : l'.pending.length = 0 := by rw [hpn]; rfl
            rw [hpl] at t23
            go_wp2
            go_roundw
            case rel =>
              refine ⟨i + 1, _, vg2, gs2, ms, xs, by omega, by go_num, rfl, HT.out, ?_⟩
              have hk := HC.out.2.2
              subst hk
              exact HC.out.2.1.judged HP.out.2.2.1 hlt hxl HS.out.1 HS.out.2.1 HGs.out.1 HGs.out.2 (.inr ⟨by unfold keepL; rw [upd_same]; simp [hpn], rfl, rfl⟩)
            case measure => simp [intOf]; omega
          | cons b0 brest =>
            have hpl : (0 : Int) < (l'.pending.length : Int) := by rw [hpn, List.length_cons]; omega
            have hroom : ms.length + 1 ≤ cap := by omega
            have hth := own_there (HT.out.opn.alloc (.cells #[.pointer (some ⟨Fs k, 0, none⟩)] 35)) ms.length (by omega)
            go_wp2_with (at_builtin; refine wpList_append_set rfl (.tmp 45) (.tmp 47) 30 rfl 35 i35 Try.underlying30 HI35.out.1 HI35.out.2 go ms.length cap rfl ⟨WT.heap.size, 0, none⟩ 1 (.pointer (some ⟨Fs k, 0, none⟩)) rfl (cell_one_new _ _ _) rfl hroom hth.1 hth.2 ?_)
            go_roundw
            case rel =>
              refine ⟨i + 1, _, vg2, gs2, ms ++ [k], xs.set ms.length (ptrV (Fs k)), by omega, by go_num, by simp, (HT.out.later ((Only.refl _ _).alloc _)).put _, ?_⟩
              have hk := HC.out.2.2
              subst hk
              exact HC.out.2.1.judged HP.out.2.2.1 hlt hxl HS.out.1 HS.out.2.1 HGs.out.1 HGs.out.2 (.inl ⟨by unfold keepL; rw [upd_same]; simp [hpn, HS.out.2.2], rfl, rfl⟩)
            case measure => simp [intOf]; omega
    · obtain rfl : i = ks.length := by omega
      have hml := hLs.mle
      have hxl : xs.length = ks.length := by have := hC.opn.1; omega
      have r7 := hC.c7
      have rf7 := hC.box.frozen 7
      have HC : Hid (Core w B n Fs es bb go vg period tick hyst ticks ks.length cap (.slice (some ⟨go, 0, none⟩) ks.length cap) wr es1 vg1 gs1 xs ∧ Lists es Fs ks period tick ticks gs ks.length es1 gs1 ms xs) := ⟨hC, hLs⟩
      have hbo : ¬ bb = go := hC.net.bo
      have hbo2 : ¬ go = bb := fun e => hbo e.symm
      clear hC hLs
      have hI1 : (ms.length : Int) ≤ (ks.length : Int) := by omega
      have hI2 : (ks.length : Int) ≤ (cap : Int) := by omega
      by_cases hmc : ms.length = cap
      · have hkc : ks.length = cap := by omega
        go_wp2_with (refine wpList_clear0 _ rfl (.tmp 56) 30 rfl 35 Try.underlying30 _ _ rfl ?_)
        go_end0
        refine ⟨rfl, es1, vg1, gs1, ms, xs, HC.out.2, ?_⟩
        have hf := HC.out.1.finish (m := ms.length) hml HC.out.2.A [] (by simp; omega)
        rw [hmc] at hf ⊢
        exact hf
      · by_cases hml2 : ms.length = ks.length
        · go_wp2_with (refine wpList_clear0 _ rfl (.tmp 56) 30 rfl 35 Try.underlying30 _ _ rfl ?_)
          go_end0
          refine ⟨rfl, es1, vg1, gs1, ms, xs, HC.out.2, ?_⟩
          have hf := HC.out.1.finish (m := ms.length) hml HC.out.2.A [] (by simp; omega)
          rw [hml2] at hf ⊢
          exact hf
        · obtain ⟨d, hd⟩ : ∃ d, ks.length = ms.length + d := ⟨ks.length - ms.length, by omega⟩
          have hth : ∀ j, j < (List.replicate d (Value.pointer none)).length → (wr.cell? ⟨go, ms.length + j, none⟩).isSome = true ∧ wr.frozen? ⟨go, ms.length + j, none⟩ = false := fun j hj => own_there HC.out.1.opn (ms.length + j) (by simp at hj; omega)
          have q7 := ((only_setCells go (List.replicate d (.pointer none)) ms.length wr).cell (p := ⟨bb, 7, none⟩) HC.out.1.box.hi HC.out.1.net.bo).trans r7
          have qf7 := ((only_setCells go (List.replicate d (.pointer none)) ms.length wr).frozen (p := ⟨bb, 7, none⟩) HC.out.1.box.hi HC.out.1.net.bo).trans rf7
          have HTh : Hid _ := hth
          clear hth
          go_wp2_with (refine wpList_clear _ rfl (.tmp 56) 30 rfl 35 _ Try.underlying30 (zero35 _) go ms.length d (cap - ms.length) rfl (by omega) (List.replicate d (.pointer none)) (zc35 d) (rep_one d) HTh.out ?_)
          go_end0
          refine ⟨rfl, es1, vg1, gs1, ms, xs, HC.out.2, ?_⟩
          have hf := HC.out.1.finish (m := ms.length) hml HC.out.2.A (List.replicate d (.pointer none)) (by simp; omega)
          exact hf

end Go.Proofs.Qxb6613544a
