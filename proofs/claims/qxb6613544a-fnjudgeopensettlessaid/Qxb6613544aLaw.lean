/-
  THE LAW: THE WALK.
-/
import Derived.Test.Qxb6613544aLawNow
import Derived.LaidEqlPtr
import Derived.Lib.Builder
namespace Go.Proofs.Qxb6613544a
open Go.RowKit

theorem own_addr {w : World} {base : Nat} {e : TypeId} {size n c : Nat} {ag : Option Addr} {xs : List Value} (h : w.ownsRow base e size (.slice ag n c) n xs) (hn : 0 < n) : ∃ g, ag = some ⟨g, 0, none⟩ ∧ g < w.heap.size := by
  rcases h.2 with ⟨_, h0⟩ | ⟨g, cap, cur, hv, _, hg, _⟩
  · omega
  · cases hv
    exact ⟨g, rfl, (Array.getElem?_eq_some_iff.1 hg).1⟩

theorem Try.info83s : (Try.prog.info? 83).map (fun i => i.size) = some 37 := by kernel_rfl

theorem ptr_same (F : Nat) (w : World) : (binOp .eql 35 (.pointer (some ⟨F, 0, none⟩)) (.pointer (some ⟨F, 0, none⟩))).run Try.prog w = .ok (.bool true) w := by
  have h := Try.info83s
  cases hj : Try.prog.info? 83 with
  | none => rw [hj] at h; cases h
  | some j => exact run_eql_ptr_same w _ Try.underlying35 hj

theorem ptr_same_neq (F : Nat) (w : World) : (binOp .neq 35 (.pointer (some ⟨F, 0, none⟩)) (.pointer (some ⟨F, 0, none⟩))).run Try.prog w = .ok (.bool false) w := by
  have h := Try.info83s
  cases hj : Try.prog.info? 83 with
  | none => rw [hj] at h; cases h
  | some j => exact Lib.run_neq_ptr_same w _ Try.underlying35 hj

theorem ptr_other {w : World} {B F F' : Nat} {l l' : Lk} {vm vp vm' vp' : Value} (h : EntAt w B F l vm vp) (h' : EntAt w B F' l' vm' vp') (hne : F ≠ F') (n : Nat) : (binOp .eql 35 (.pointer (some ⟨F, 0, none⟩)) (.pointer (some ⟨F', 0, none⟩))).run Try.prog (w.drewN n) = .ok (.bool false) (w.drewN n) := by
  have hi := Try.info83s
  obtain ⟨c, hc⟩ := h.blk
  obtain ⟨c', hc'⟩ := h'.blk
  cases hj : Try.prog.info? 83 with
  | none => rw [hj] at hi; cases hi
  | some j =>
    rw [hj] at hi
    have hs : j.size = 37 := by simpa using hi
    exact run_eql_ptr_other (w.drewN n) Try.underlying35 hj (by omega) (fun e => hne (congrArg Addr.block e)) hc hc'

set_option maxHeartbeats 16000000 in
set_option maxRecDepth 10000 in
theorem law_any (period tick : Int) (hyst : Nat) (ticks : Int) (a : Option Addr) (len cap b o : Nat) (f : Nat → Lk) (a' : Option Addr) (len' cap' b' o' : Nat) (g : Nat → Nat → Int) (w : World) (hR : LRow w.heap.size w a len cap b o f) (hR' : GRow w.heap.size w a' len' cap' b' o' g) (hk0 : 0 ≤ ticks) :
    Calls Try.prog 3 #[.int .i64 period, .int .i64 tick, .float .f64 hyst, .int .u64 ticks, .slice a len cap, .slice a' len' cap'] w fun e w' => e = .returned (.bool true) ∧ Below w.heap.size w w' := by
  have HR : Hid (LRow w.heap.size w a len cap b o f) := hR
  have HR' : Hid (GRow w.heap.size w a' len' cap' b' o' g) := hR'
  have HK : Hid (0 ≤ ticks) := hk0
  clear hR hR' hk0
  go_enter Try.func3, Try.ntmps3
  go_wp2_with fail
  refine (bytes_any w.heap.size period tick hyst ticks a len cap b o f a' len' cap' b' o' g w HR.out HR'.out).mono ?_
  rintro e w' ⟨z, rfl, rfl⟩
  cases z with
  | false =>
    go_wp2
    go_ret
    exact ⟨rfl, Below.refl _ _⟩
  | true =>
  go_wp2_with fail
  refine (sizeOK_any w'.heap.size a len cap b o f a' len' cap' b' o' g w' HR.out HR'.out (Nat.le_refl _)).mono ?_
  rintro e wa ⟨rfl | ⟨rfl, hS⟩, hBa⟩
  · go_wp2
    go_ret
    exact ⟨rfl, hBa⟩
  have HS : Hid (Sized len len' f ∧ Below w'.heap.size w' wa) := ⟨hS, hBa⟩
  clear hS hBa
  go_wp2_with fail
  refine (premise_any w'.heap.size period tick hyst ticks a len cap b o f wa (HR.out.kept HS.out.2) HS.out.2.size HS.out.1.l HK.out).mono ?_
  rintro e wb ⟨rfl | ⟨rfl, hCf, hFl, hFi⟩, hBb⟩
  · go_wp2
    go_ret
    exact ⟨rfl, HS.out.2.trans (hBb.mono HS.out.2.size)⟩
  have HP : Hid (Cfg period tick ticks ∧ Fl 1 hyst ∧ (∀ i, i < len → Fine (f i) ticks) ∧ Below w'.heap.size w' wb) := ⟨hCf, hFl, hFi, HS.out.2.trans (hBb.mono HS.out.2.size)⟩
  clear hCf hFl hFi hBb
  go_wp2_with fail
  refine (buildJudge_any w'.heap.size period tick hyst ticks a len cap b o f a' len' cap' b' o' g wb (HR.out.kept HP.out.2.2.2) (HR'.out.kept HP.out.2.2.2) HP.out.2.2.2.size HS.out.1 HP.out.2.2.1).mono ?_
  rintro e w1 ⟨Fs, es0, bb, go, vg0, lsb, rfl, hM⟩
  have HM : Hid _ := hM
  clear hM
  go_wp2_with fail
  refine (judge_first HM.out HS.out.1 HP.out.1 HP.out.2.1).mono ?_
  rintro e w2 ⟨rfl, es, vg, gs, ms, hE⟩
  have HE : Hid (Env1 wb w2 len f period tick hyst ticks Fs es bb go vg gs ms lsb) := hE
  clear hE HM
  go_wp2_with fail
  refine (getOpen_any bb _ w2 HE.out.core.c7).mono ?_
  rintro e w9 ⟨rfl, rfl⟩
  generalize w9 = w2 at *
  obtain ⟨i35, hi35, hz35, hs35, hb35⟩ := info_parts Try.info35
  have HI35 : Hid (Try.prog.info? 35 = some i35 ∧ i35.zero = some (.pointer none) ∧ i35.size = 1 ∧ i35.bytes = 8) := ⟨hi35, hz35, hs35, hb35⟩
  clear hi35 hz35 hs35 hb35
  obtain ⟨i38, hi38, hz38, hs38, hb38⟩ := info_parts Try.info38
  have HI38 : Hid (Try.prog.info? 38 = some i38 ∧ i38.zero = some zero20 ∧ i38.size = 20 ∧ i38.bytes = 20) := ⟨hi38, hz38, hs38, hb38⟩
  clear hi38 hz38 hs38 hb38
  have hlen : len ≤ 4096 := HS.out.1.l
  have hml : ms.length ≤ len := by
    rw [HE.out.ms]
    exact Nat.le_trans (List.length_filter_le _ _) (by simp)
  go_wp2_with (at_make; refine wpList_make_own _ rfl _ _ 30 rfl w2.heap.size 35 i35 (.pointer none) 1 Try.underlying30 HI35.out.1 HI35.out.2.1 HI35.out.2.2.1 .i64 .i64 _ ms.length rfl rfl (by omega) (by rw [HI35.out.2.2.2]; omega) (by unfold maxLen; omega) (Nat.le_refl _) ?_; intro w1 hown1 hgrow1)
  obtain ⟨kb, hkb⟩ : ∃ z, z = w2.heap.size := ⟨_, rfl⟩
  rw [← hkb]
  go_loopw [16, 72] (fun s16 s72 wx => ∃ i : Nat, i ≤ ms.length ∧ s72 = .int .i64 i ∧ s16 = .slice (some ⟨kb, 0, none⟩) i ms.length ∧ wx.ownsRow kb 35 1 (.slice (some ⟨kb, 0, none⟩) i ms.length) i ((ms.take i).map (fun j => ptrV (Fs j))) ∧ Below kb w2 wx) (fun _ s72 _ => ms.length - (intOf s72).toNat)
  case atStart => exact ⟨0, Nat.zero_le _, rfl, rfl, by rw [hkb]; simpa using hown1, by rw [hkb]; exact (Below.refl _ _).grown hgrow1 (Nat.le_refl _) (fun j hj => by simp at hj)⟩
  case round =>
    obtain ⟨i, hi, rfl, rfl, hown, hBel⟩ := hrel
    have hgo : go < kb := by rw [hkb]; exact (HE.out.core.opn.lt go rfl).2
    by_cases hil : i < ms.length
    · obtain ⟨F, hF⟩ : ∃ F, F = Fs ms[i] := ⟨_, rfl⟩
      have hc : wr.cell? ⟨go, i, none⟩ = some (.pointer (some ⟨F, 0, none⟩)) := (hBel.cell (p := ⟨go, i, none⟩) hgo).trans (own_cell1 HE.out.core.opn (i := i) (u := ptrV F) (by rw [hF]; simp [hil]))
      have hiI : (i : Int) < (ms.length : Int) := by omega
      have hks : kb ≤ wr.heap.size := Nat.le_trans (by rw [hkb]; exact Nat.le_refl _) hBel.size
      have HO : Hid ((wr.alloc (.cells #[.pointer (some ⟨F, 0, none⟩)] 35)).ownsRow kb 35 1 (.slice (some ⟨kb, 0, none⟩) i ms.length) i ((ms.take i).map (fun j => ptrV (Fs j))) ∧ Below kb w2 (wr.alloc (.cells #[.pointer (some ⟨F, 0, none⟩)] 35)) ∧ F = Fs ms[i]) := ⟨hown.alloc _, hBel.alloc hks _, hF⟩
      clear hown hBel hown1 hgrow1 hkb hF
      go_wp2_with (at_builtin; refine wpList_append_own_spare _ rfl (.tmp 75) (.tmp 80) 30 rfl kb 35 i35 1 Try.underlying30 HI35.out.1 HI35.out.2.2.1 kb i ms.length _ rfl HO.out.1 ⟨wr.heap.size, 0, none⟩ 1 1 [.pointer (some ⟨F, 0, none⟩)] rfl rfl (cell_one_new wr _ 35) (by intro u hu; simp at hu; rw [hu]; rfl) (by omega) ?_; intro w4 hown4 hg4)
      go_roundw
      case rel => exact ⟨i + 1, by omega, by go_num, by simp, by rw [List.take_succ_eq_append_getElem hil, List.map_append]; simp only [List.map_cons, List.map_nil]; rw [← HO.out.2.2]; exact hown4, HO.out.2.1.grown hg4 (Nat.le_trans hks (by simp)) (fun x hx => by cases hx; exact Nat.le_refl _)⟩
      case measure => simp [intOf]; omega
    · obtain rfl : i = ms.length := by omega
      rw [List.take_length] at hown
      have HKp : Hid (wr.ownsRow kb 35 1 (.slice (some ⟨kb, 0, none⟩) ms.length ms.length) ms.length (ms.map (fun j => ptrV (Fs j))) ∧ Below kb w2 wr ∧ kb = w2.heap.size) := ⟨hown, hBel, hkb⟩
      clear hown hBel hown1 hgrow1 hkb
      generalize wr = wk at *
      have hgl := HE.out.gl
      have hcore : Hid _ := HE.out.core.later (Only.ofBelow (S := fun _ => False) (by have h := HKp.out.2.1; rw [HKp.out.2.2] at h; exact h))
      go_wp2_with fail
      refine (getGone_any bb _ wk hcore.out.c9).mono ?_
      rintro e w9 ⟨rfl, rfl⟩
      generalize w9 = wk at *
      obtain ⟨ag, cg, hvg, hcg1, hcg2⟩ := row_shape hcore.out.gone
      subst hvg
      unfold maxLen at hcg2
      go_wp2_with (at_make; refine wpList_make_own _ rfl _ _ 25 rfl wk.heap.size 38 i38 zero20 20 Try.underlying25 HI38.out.1 HI38.out.2.1 HI38.out.2.2.1 .i64 .i64 _ gs.length rfl rfl (by omega) (by rw [HI38.out.2.2.2]; omega) (by unfold maxLen; omega) (Nat.le_refl _) ?_; intro w1 hown1 hgrow1)
      go_loopw [19, 90] (fun s19 s90 wx => ∃ i : Nat, i ≤ gs.length ∧ s90 = .int .i64 i ∧ wx.ownsRow wk.heap.size 38 20 s19 i (grow (gs.take i)) ∧ Below wk.heap.size wk wx) (fun _ s90 _ => gs.length - (intOf s90).toNat)
      case atStart => exact ⟨0, Nat.zero_le _, rfl, by simpa [grow] using hown1, (Below.refl _ _).grown hgrow1 (Nat.le_refl _) (fun j hj => by simp at hj)⟩
      case round =>
        obtain ⟨i, hi, rfl, hown, hBel⟩ := hrel
        by_cases hil : i < gs.length
        · obtain ⟨gg, hgg, hgl2⟩ := own_addr hcore.out.gone (by omega)
          subst hgg
          obtain ⟨pj, hpj⟩ : ∃ pj, pj = gs[i] := ⟨_, rfl⟩
          have hr : wr.rangeAt gg (i * 20) (pcells pj) := by
            rw [hpj]
            exact rangeAt_kept (own_peer hcore.out.gone i hil) hgl2 hBel
          have HRg : Hid _ := hr
          have HO : Hid ((wr.alloc (.cells (pcells pj).toArray 38)).ownsRow wk.heap.size 38 20 u19 i (grow (gs.take i)) ∧ Below wk.heap.size wk (wr.alloc (.cells (pcells pj).toArray 38)) ∧ ∀ x, u19.ownBlock = some x → wk.heap.size ≤ x) := ⟨hown.alloc _, hBel.alloc hBel.size _, fun x hx => (hown.lt x hx).1⟩
          have hcN := cells_new wr (pcells pj) 38
          have hone := pcells_one pj
          have HP2 : Hid (pj = gs[i]) := hpj
          have hiI : (i : Int) < (gs.length : Int) := by omega
          clear hr hown hBel hown1 hgrow1 hpj
          simp only [pcells] at HO hcN hone
          have HN : Hid _ := hcN
          have HOn : Hid _ := hone
          clear hcN hone
          go_wp2_with (first | (refine wpList_load_mid rfl 39 (.tmp 96) rfl gg (i * 20) rfl (pcells pj) _ HRg.out Try.underlying39 rfl Try.size39 ?_; simp only [pcells]) | (at_builtin; refine wpList_append_own_at _ rfl (.tmp 93) (.tmp 98) 25 rfl wk.heap.size 38 i38 zero20 20 20 Try.underlying25 HI38.out.1 HI38.out.2.1 HI38.out.2.2.1 HI38.out.2.2.2 rfl (by decide) u19 i _ rfl HO.out.1 ⟨wr.heap.size, 0, none⟩ 1 1 _ rfl rfl HN.out HOn.out (by unfold maxLen; omega) (by omega) HO.out.2.1.size ?_; intro v4 w4 hown4 hg4 hn4 hl4))
          go_roundw
          case rel => exact ⟨i + 1, by omega, by go_num, by rw [grow_take_succ gs i hil, ← HP2.out]; exact hown4, HO.out.2.1.grown hg4 HO.out.2.1.size HO.out.2.2⟩
          case measure => simp [intOf]; omega
        · obtain rfl : i = gs.length := by omega
          rw [List.take_length] at hown
          obtain ⟨aq, cq, hvq, hcq1, hcq2⟩ := row_shape hown
          subst hvq
          have HGn : Hid (wr.ownsRow wk.heap.size 38 20 (.slice aq gs.length cq) gs.length (grow gs) ∧ Below wk.heap.size wk wr) := ⟨hown, hBel⟩
          clear hown hBel hown1 hgrow1 hcore
          generalize wr = wg at *
          obtain ⟨i42, hi42, hz42, hs42, hb42⟩ := info_parts Try.info42
          have HI42 : Hid (Try.prog.info? 42 = some i42 ∧ i42.zero = some (.slice none 0 0) ∧ i42.size = 1 ∧ i42.bytes = 24) := ⟨hi42, hz42, hs42, hb42⟩
          clear hi42 hz42 hs42 hb42
          obtain ⟨i22, hi22, hz22, hs22, hb22⟩ := info_parts Try.info22
          have HI22 : Hid (Try.prog.info? 22 = some i22 ∧ i22.zero = some (.float .f64 0) ∧ i22.size = 1 ∧ i22.bytes = 8) := ⟨hi22, hz22, hs22, hb22⟩
          clear hi22 hz22 hs22 hb22
          go_upto_region 24 with (at_make; refine wpList_make_own _ rfl _ _ 40 rfl 0 42 i42 (.slice none 0 0) 1 Try.underlying40 HI42.out.1 HI42.out.2.1 HI42.out.2.2.1 .i64 .i64 _ len rfl rfl (by omega) (by rw [HI42.out.2.2.2]; omega) (by unfold maxLen; omega) (Nat.zero_le _) ?_; intro wp hownwp hgrowwp)
          go_upto_region 25 with (at_make; refine wpList_make_own _ rfl _ _ 40 rfl 0 42 i42 (.slice none 0 0) 1 Try.underlying40 HI42.out.1 HI42.out.2.1 HI42.out.2.2.1 .i64 .i64 _ len rfl rfl (by omega) (by rw [HI42.out.2.2.2]; omega) (by unfold maxLen; omega) (Nat.zero_le _) ?_; intro wm hownwm hgrowwm)
          go_upto_region 26 with (at_make; refine wpList_make_own _ rfl _ _ 41 rfl 0 22 i22 (.float .f64 0) 1 Try.underlying41 HI22.out.1 HI22.out.2.1 HI22.out.2.2.1 .i64 .i64 _ len rfl rfl (by omega) (by rw [HI22.out.2.2.2]; omega) (by unfold maxLen; omega) (Nat.zero_le _) ?_; intro wl hownwl hgrowwl)
          obtain ⟨pb, hpb⟩ : ∃ z, z = wg.heap.size := ⟨_, rfl⟩
          obtain ⟨mb, hmb⟩ : ∃ z, z = wp.heap.size := ⟨_, rfl⟩
          obtain ⟨lb, hlb⟩ : ∃ z, z = wm.heap.size := ⟨_, rfl⟩
          obtain ⟨base, hbase⟩ : ∃ z, z = wl.heap.size := ⟨_, rfl⟩
          rw [← hpb, ← hmb, ← hlb]
          rw [← hpb] at hownwp
          rw [← hmb] at hownwm
          rw [← hlb] at hownwl
          have HR0 : Hid (Now wg wl base pb mb lb len 0 0 0 es [] []) := now_start hownwp hownwm hownwl hgrowwp hgrowwm hgrowwl hpb hmb hlb hbase
          have HB2 : Hid (∀ wx, Below pb wg wx → Below w2.heap.size w2 wx) := fun wx hx => by
            obtain ⟨_, k2, k3⟩ := HKp.out
            rw [k3] at k2
            rw [hpb] at hx
            have hk := k2.size
            exact (k2.trans (HGn.out.2.mono hk)).trans (hx.mono (Nat.le_trans hk HGn.out.2.size))
          have HKx : Hid (∀ wx, Below pb wg wx → wx.ownsRow kb 35 1 (.slice (some ⟨kb, 0, none⟩) ms.length ms.length) ms.length (ms.map (fun j => ptrV (Fs j))) ∧ wx.ownsRow wk.heap.size 38 20 (.slice aq gs.length cq) gs.length (grow gs)) := fun wx hx => by
            rw [hpb] at hx
            have o1 : Only (fun _ => False) wk wg := Only.ofBelow HGn.out.2
            have o2 : Only (fun _ => False) wg wx := Only.ofBelow hx
            exact ⟨o2.own (o1.own HKp.out.1 (fun _ _ hf => hf)) (fun _ _ hf => hf), o2.own HGn.out.1 (fun _ _ hf => hf)⟩
          have HPb : Hid (pb = wg.heap.size ∧ kb = w2.heap.size ∧ kb ≤ wk.heap.size ∧ wk.heap.size ≤ pb) := ⟨hpb, HKp.out.2.2, by have := HKp.out.2.1.size; rw [HKp.out.2.2]; exact this, by rw [hpb]; exact HGn.out.2.size⟩
          clear hownwp hownwm hownwl hgrowwp hgrowwm hgrowwl hpb hmb hlb hbase
          go_wp2_with fail
          go_loopw [21, 22, 23, 24, 112] (fun s21 s22 s23 s24 s112 wx => ∃ (i : Nat) (P M : List Value), i ≤ len ∧ s112 = .int .i64 i ∧ s24 = .int .i64 ((cnt (keepL es) i : Nat) : Int) ∧ s21 = .slice (some ⟨pb, 0, none⟩) i len ∧ s22 = .slice (some ⟨mb, 0, none⟩) i len ∧ s23 = .slice (some ⟨lb, 0, none⟩) i len ∧ Now wg wx base pb mb lb len i i i es P M) (fun _ _ _ _ s112 _ => len - (intOf s112).toNat)
          case atStart => exact ⟨0, [], [], Nat.zero_le _, rfl, rfl, rfl, rfl, rfl, HR0.out⟩
          case round =>
            obtain ⟨i, P, M, hi, rfl, rfl, rfl, rfl, rfl, hN⟩ := hrel
            by_cases hil : i < len
            · have hBw : Below w2.heap.size w2 wr := HB2.out wr hN.below
              have hOw : Only (fun _ => False) w2 wr := Only.ofBelow hBw
              have hEn := (HE.out.core.net.ent i hil).kept hOw (fun _ _ hf => hf)
              have HGood : Hid ((es i).l.Good ticks) := HE.out.core.good i hil
              have hcl : wr.cell? ⟨lsb, i, none⟩ = some (.pointer (some ⟨Fs i, 0, none⟩)) := own_cell1 (hOw.own HE.out.row (fun _ _ hf => hf)) (i := i) (u := ptrV (Fs i)) (by simp [hil])
              obtain ⟨ap, cp, bp, hvp, hPb⟩ := BRow.ofOwn hEn.prow
              have p23 := hEn.cell 23 _ rfl
              rw [hvp] at p23
              have hpl : (es i).l.pending.length ≤ 1048576 := by obtain ⟨K, _, hK⟩ := HGood.out.loss; omega
              have HGP : Hid _ := getPending_any (Fs i) _ wr p23
              have HTB : Hid _ := toBeacons_any wr.heap.size ap (es i).l.pending.length cp bp 0 (es i).l.pending wr hPb (Nat.le_refl _) hpl
              have HN : Hid (Now wg wr base pb mb lb len i i i es P M) := hN
              have hiI : (i : Int) < (len : Int) := by omega
              clear hPb hEn hOw hBw hN
              go_upto_region 31 with (first | (go_at_call 15; refine Calls.mono HGP.out ?_; rintro e w9 ⟨rfl, hw9⟩; obtain rfl := hw9.symm) | (go_at_call 14; refine Calls.mono HTB.out ?_; rintro e wA ⟨v1, rfl, hown1, hBA⟩; obtain ⟨a1, c1, hv1, hc11, hc12⟩ := row_shape hown1; subst hv1; have HA : Hid (Now wg (wA.alloc (.cells #[.slice a1 (es i).l.pending.length c1] 42)) base pb mb lb len i i i es P M ∧ (wA.alloc (.cells #[.slice a1 (es i).l.pending.length c1] 42)).ownsRow base 50 3 (.slice a1 (es i).l.pending.length c1) (es i).l.pending.length (brow (es i).l.pending)) := ⟨(HN.out.later hBA).alloc _, (own_mono hown1 HN.out.size).alloc _⟩; clear hown1 hBA))
              go_upto_region 32 with (at_builtin; refine wpList_append_own_spare _ rfl (.tmp 121) (.tmp 123) 40 rfl 0 42 i42 1 Try.underlying40 HI42.out.1 HI42.out.2.2.1 pb i len P rfl HA.out.1.recs.pr ⟨wA.heap.size, 0, none⟩ 1 1 [.slice a1 (es i).l.pending.length c1] rfl rfl (cell_one_new wA _ 42) (by intro u hu; simp at hu; rw [hu]; rfl) (by omega) ?_; intro wB hownB hgB; have HB : Hid (Now wg wB base pb mb lb len (i + 1) i i es (P ++ [.slice a1 (es i).l.pending.length c1]) M ∧ wB.ownsRow base 50 3 (.slice a1 (es i).l.pending.length c1) (es i).l.pending.length (brow (es i).l.pending)) := ⟨HA.out.1.pend HA.out.2 hownB hgB, (only_grown hgB).own HA.out.2 (fun x hx hc => by have q := (HA.out.2.lt x hx).1; have := HA.out.1.recs.pl; omega)⟩; clear hownB hgB)
              clear HA HTB HGP hcl p23
              have hBw : Below w2.heap.size w2 wB := HB2.out wB HB.out.1.below
              have hOw : Only (fun _ => False) w2 wB := Only.ofBelow hBw
              have hEn := (HE.out.core.net.ent i hil).kept hOw (fun _ _ hf => hf)
              have hcl : wB.cell? ⟨lsb, i, none⟩ = some (.pointer (some ⟨Fs i, 0, none⟩)) := own_cell1 (hOw.own HE.out.row (fun _ _ hf => hf)) (i := i) (u := ptrV (Fs i)) (by simp [hil])
              obtain ⟨am, cm, bm, hvm, hMb⟩ := BRow.ofOwn hEn.mrow
              have p21 := hEn.cell 21 _ rfl
              rw [hvm] at p21
              have HGM : Hid _ := getMissed_any (Fs i) _ wB p21
              have HTM : Hid _ := toBeacons_any wB.heap.size am (es i).l.missed.length cm bm 0 (es i).l.missed wB hMb (Nat.le_refl _) (Nat.le_trans HGood.out.m6 (by omega))
              clear hMb hEn hOw hBw
              go_upto_region 33 with (first | (go_at_call 16; refine Calls.mono HGM.out ?_; rintro e w9 ⟨rfl, hw9⟩; obtain rfl := hw9.symm) | (go_at_call 14; refine Calls.mono HTM.out ?_; rintro e wC ⟨v2, rfl, hown2, hBC⟩; obtain ⟨a2, c2, hv2, hc21, hc22⟩ := row_shape hown2; subst hv2; have HC : Hid (Now wg (wC.alloc (.cells #[.slice a2 (es i).l.missed.length c2] 42)) base pb mb lb len (i + 1) i i es (P ++ [.slice a1 (es i).l.pending.length c1]) M ∧ (wC.alloc (.cells #[.slice a2 (es i).l.missed.length c2] 42)).ownsRow base 50 3 (.slice a2 (es i).l.missed.length c2) (es i).l.missed.length (brow (es i).l.missed) ∧ (wC.alloc (.cells #[.slice a2 (es i).l.missed.length c2] 42)).ownsRow base 50 3 (.slice a1 (es i).l.pending.length c1) (es i).l.pending.length (brow (es i).l.pending)) := ⟨(HB.out.1.later hBC).alloc _, (own_mono hown2 HB.out.1.size).alloc _, (Only.own (S := fun _ => False) (Only.ofBelow hBC) HB.out.2 (fun _ _ hf => hf)).alloc _⟩; clear hown2 hBC) | (at_builtin; refine wpList_append_own_spare _ rfl (.tmp 125) (.tmp 132) 40 rfl 0 42 i42 1 Try.underlying40 HI42.out.1 HI42.out.2.2.1 mb i len M rfl HC.out.1.recs.mr ⟨wC.heap.size, 0, none⟩ 1 1 [.slice a2 (es i).l.missed.length c2] rfl rfl (cell_one_new wC _ 42) (by intro u hu; simp at hu; rw [hu]; rfl) (by omega) ?_; intro wD hownD hgD; have HD : Hid (Now wg wD base pb mb lb len (i + 1) (i + 1) i es (P ++ [.slice a1 (es i).l.pending.length c1]) (M ++ [.slice a2 (es i).l.missed.length c2]) ∧ wD.ownsRow base 50 3 (.slice a1 (es i).l.pending.length c1) (es i).l.pending.length (brow (es i).l.pending)) := ⟨HC.out.1.miss HC.out.2.1 hownD hgD, (only_grown hgD).own HC.out.2.2 (fun x hx hc => by have q := (HC.out.2.2.lt x hx).1; have := HC.out.1.recs.ml; omega)⟩; clear hownD hgD))
              clear HB HTM HGM hcl p21
              have hBw : Below w2.heap.size w2 wD := HB2.out wD HD.out.1.below
              have hOw : Only (fun _ => False) w2 wD := Only.ofBelow hBw
              have hEn := (HE.out.core.net.ent i hil).kept hOw (fun _ _ hf => hf)
              have hcl : wD.cell? ⟨lsb, i, none⟩ = some (.pointer (some ⟨Fs i, 0, none⟩)) := own_cell1 (hOw.own HE.out.row (fun _ _ hf => hf)) (i := i) (u := ptrV (Fs i)) (by simp [hil])
              have HGL : Hid _ := getLoss_any (Fs i) _ wD (hEn.cell 20 _ rfl)
              have HDa : Hid (Now wg (wD.alloc (.cells #[.float .f64 (es i).l.loss] 22)) base pb mb lb len (i + 1) (i + 1) i es (P ++ [.slice a1 (es i).l.pending.length c1]) (M ++ [.slice a2 (es i).l.missed.length c2]) ∧ (wD.alloc (.cells #[.float .f64 (es i).l.loss] 22)).ownsRow base 50 3 (.slice a1 (es i).l.pending.length c1) (es i).l.pending.length (brow (es i).l.pending)) := ⟨HD.out.1.alloc _, HD.out.2.alloc _⟩
              clear hEn hOw hBw
              go_upto_region 34 with (first | (go_at_call 17; refine Calls.mono HGL.out ?_; rintro e w9 ⟨rfl, hw9⟩; obtain rfl := hw9.symm) | (at_builtin; refine wpList_append_own_spare _ rfl (.tmp 134) (.tmp 140) 41 rfl 0 22 i22 1 Try.underlying41 HI22.out.1 HI22.out.2.2.1 lb i len _ rfl HDa.out.1.recs.lr ⟨wD.heap.size, 0, none⟩ 1 1 [.float .f64 (es i).l.loss] rfl rfl (cell_one_new wD _ 22) (by intro u hu; simp at hu; rw [hu]; rfl) (by omega) ?_; intro wF hownF hgF; have HF : Hid (Now wg wF base pb mb lb len (i + 1) (i + 1) (i + 1) es (P ++ [.slice a1 (es i).l.pending.length c1]) (M ++ [.slice a2 (es i).l.missed.length c2]) ∧ wF.ownsRow base 50 3 (.slice a1 (es i).l.pending.length c1) (es i).l.pending.length (brow (es i).l.pending)) := ⟨HDa.out.1.lose hownF hgF, (only_grown hgF).own HDa.out.2 (fun x hx hc => by have q := (HDa.out.2.lt x hx).1; have := HDa.out.1.recs.ll; omega)⟩; clear hownF hgF))
              clear HD HDa HGL hcl
              have hBw : Below w2.heap.size w2 wF := HB2.out wF HF.out.1.below
              have hOw : Only (fun _ => False) w2 wF := Only.ofBelow hBw
              have hcl : wF.cell? ⟨lsb, i, none⟩ = some (.pointer (some ⟨Fs i, 0, none⟩)) := own_cell1 (hOw.own HE.out.row (fun _ _ hf => hf)) (i := i) (u := ptrV (Fs i)) (by simp [hil])
              have hkr := (HKx.out wF HF.out.1.below).1
              have hBlow : Below w'.heap.size w' wF := HP.out.2.2.2.trans ((HE.out.below.trans (hBw.mono HE.out.below.size)).mono HP.out.2.2.2.size)
              obtain ⟨am', cm', bm', om', ap', cp', bp', op', hli⟩ := (HR.out.kept hBlow).link i hil
              obtain ⟨hada, hbB⟩ := HR.out.at_ (by omega)
              subst hada
              have x27 := hli.c27
              have HLi : Hid _ := hli
              have hal := HE.out.alike i hil
              have hdrop : (f i).dropped = (es i).l.dropped := hal.dropped.symm
              obtain ⟨cg1, cg2⟩ := cnt_get (keepL es) len i hil
              rw [← HE.out.ms] at cg1 cg2
              obtain ⟨c, hcc⟩ : ∃ c, c = cnt (keepL es) i := ⟨_, rfl⟩
              have HCc : Hid (c = cnt (keepL es) i) := hcc
              rw [← hcc] at cg1 cg2 ⊢
              clear hcc hli hBlow hOw hBw
              have hcs := cnt_succ (keepL es) i
              rw [← HCc.out] at hcs
              have hcM : c ≤ 4096 := by rw [HCc.out]; unfold cnt; exact Nat.le_trans (List.length_filter_le _ _) (by simp; omega)
              cases hkp : keepL es i with
              | true =>
                have hmsc := cg1 hkp
                have hclt : c < ms.length := (List.getElem?_eq_some_iff.1 hmsc).1
                have hck : wF.cell? ⟨kb, c, none⟩ = some (.pointer (some ⟨Fs i, 0, none⟩)) := own_cell1 hkr (i := c) (u := ptrV (Fs i)) (by rw [List.getElem?_map, hmsc]; rfl)
                have hcI : (c : Int) < (ms.length : Int) := by omega
                clear cg1 cg2 hmsc
                have hpe := ptr_same (Fs i)
                have hdf : (es i).l.dropped = false ∧ (es i).l.pending ≠ [] := by
                  unfold keepL at hkp
                  simp at hkp
                  exact hkp
                rw [hdrop, hdf.1] at x27
                obtain ⟨s, rest, hpd⟩ : ∃ s rest, (es i).l.pending = s :: rest := by
                  cases hq : (es i).l.pending with
                  | nil => exact absurd hq hdf.2
                  | cons s rest => exact ⟨s, rest, rfl⟩
                have hset := HE.out.settled i hil hdf.1
                unfold Settled at hset
                rw [hpd] at hset
                have hplI : (0 : Int) < ((es i).l.pending.length : Int) := by rw [hpd, List.length_cons]; omega
                have hrowF := HF.out.2
                obtain ⟨b1, hb1, _⟩ := own_addr hrowF (by rw [hpd]; simp)
                subst hb1
                rw [hpd] at hrowF
                obtain ⟨y0, y1, y2⟩ := head_cells' hrowF
                rw [hset.1] at y2
                have hdue : (es i).l.due period tick = (f i).due period tick := hal.due period tick
                obtain ⟨tk0, tk1⟩ := HGood.out.ok.pend s (by rw [hpd]; exact List.mem_cons_self)
                obtain ⟨_, _, t0, t1, k0, k1⟩ := HP.out.1
                obtain ⟨mr0, mr1⟩ := mul_range (a := ticks - s.tick) (t := tick) (by omega) (by omega) t0 t1
                have hfine := (HP.out.2.2.1 i hil).ok
                obtain ⟨D, hD⟩ : ∃ D, D = (f i).due period tick := ⟨_, rfl⟩
                have dge : decide (D ≤ (ticks - s.tick) * tick) = false := by
                  have := hset.2
                  rw [hdue] at this
                  simp
                  omega
                have HDue : Hid (∀ wx : World, wx.cell? ⟨b, o + i * 28 + 23, none⟩ = some (.int .i64 (f i).rtt) → wx.cell? ⟨b, o + i * 28 + 24, none⟩ = some (.bool (f i).timed) → wx.cell? ⟨b, o + i * 28 + 25, none⟩ = some (.int .i64 (f i).srtt) → wx.cell? ⟨b, o + i * 28 + 26, none⟩ = some (.int .i64 (f i).rttvar) → Calls Try.prog 18 #[.int .i64 period, .int .i64 tick, .pointer (some ⟨b, o + i * 28, none⟩)] wx fun e w' => e = .returned (.int .i64 D) ∧ w' = wx) := fun wx q1 q2 q3 q4 => by
                  rw [hD]
                  exact dueOf_any b (o + i * 28) period tick ticks (f i) wx HP.out.1 hfine q1 q2 q3 q4
                clear hset hrowF hpd hdf hdue hfine hD hal
                generalize hnp : (es i).l.pending.length = np at *
                have HNp : Hid ((es i).l.pending.length = np) := hnp
                have hnp0 : 0 < np := by omega
                have hplb : decide (0 < np) = true := by simp; omega
                clear hnp
                go_quiet (fail)
                obtain ⟨U, hU⟩ : ∃ U, U = wF.drewN nq := ⟨_, rfl⟩
                have HUN : Hid (Now wg U base pb mb lb len (i + 1) (i + 1) (i + 1) es (P ++ [.slice (some ⟨b1, 0, none⟩) np c1]) (M ++ [.slice a2 (es i).l.missed.length c2])) := by rw [hU]; exact HF.out.1.drewN nq
                have u0 : U.cell? ⟨b1, 0, none⟩ = some (.int .u64 s.num) := by rw [hU]; exact y0
                have u1 : U.cell? ⟨b1, 1, none⟩ = some (.int .u64 s.tick) := by rw [hU]; exact y1
                have u2 : U.cell? ⟨b1, 2, none⟩ = some (.bool false) := by rw [hU]; exact y2
                have ux : U.cell? ⟨b, o + i * 28 + 27, none⟩ = some (.bool false) := by rw [hU]; exact x27
                have q23 : U.cell? ⟨b, o + i * 28 + 23, none⟩ = some (.int .i64 (f i).rtt) := by rw [hU]; exact HLi.out.c23
                have q24 : U.cell? ⟨b, o + i * 28 + 24, none⟩ = some (.bool (f i).timed) := by rw [hU]; exact HLi.out.c24
                have q25 : U.cell? ⟨b, o + i * 28 + 25, none⟩ = some (.int .i64 (f i).srtt) := by rw [hU]; exact HLi.out.c25
                have q26 : U.cell? ⟨b, o + i * 28 + 26, none⟩ = some (.int .i64 (f i).rttvar) := by rw [hU]; exact HLi.out.c26
                rw [← hU]
                clear hU y0 y1 y2 x27 hck hcl
                have oV : Only (fun _ => False) U (U.alloc (.cells #[.int .u64 s.num, .int .u64 s.tick, .bool false] 50)) := (Only.refl _ U).alloc _
                have hbF : b < U.heap.size := World.block_lt_of_cell? U _ q23
                have HVs : Hid (∀ V, V = U.alloc (.cells #[.int .u64 s.num, .int .u64 s.tick, .bool false] 50) → V.cell? ⟨b, o + i * 28 + 23, none⟩ = some (.int .i64 (f i).rtt) ∧ V.cell? ⟨b, o + i * 28 + 24, none⟩ = some (.bool (f i).timed) ∧ V.cell? ⟨b, o + i * 28 + 25, none⟩ = some (.int .i64 (f i).srtt) ∧ V.cell? ⟨b, o + i * 28 + 26, none⟩ = some (.int .i64 (f i).rttvar)) := fun V hV => by
                  rw [hV]
                  exact ⟨(oV.cell (p := ⟨b, o + i * 28 + 23, none⟩) hbF (fun h => h)).trans q23, (oV.cell (p := ⟨b, o + i * 28 + 24, none⟩) hbF (fun h => h)).trans q24, (oV.cell (p := ⟨b, o + i * 28 + 25, none⟩) hbF (fun h => h)).trans q25, (oV.cell (p := ⟨b, o + i * 28 + 26, none⟩) hbF (fun h => h)).trans q26⟩
                have z1 : (U.alloc (.cells #[.int .u64 s.num, .int .u64 s.tick, .bool false] 50)).cell? ⟨U.heap.size, 1, none⟩ = some (.int .u64 s.tick) := by simp [go_sem]
                have z2 : (U.alloc (.cells #[.int .u64 s.num, .int .u64 s.tick, .bool false] 50)).cell? ⟨U.heap.size, 2, none⟩ = some (.bool false) := by simp [go_sem]
                clear oV q23 q24 q25 q26
                go_upto_region 44 with fail
                obtain ⟨V, hV⟩ : ∃ V, V = U.alloc (.cells #[.int .u64 s.num, .int .u64 s.tick, .bool false] 50) := ⟨_, rfl⟩
                have HVv := HVs.out V hV
                have HVc : Hid _ := HVv
                have HVN : Hid (Now wg V base pb mb lb len (i + 1) (i + 1) (i + 1) es (P ++ [.slice (some ⟨b1, 0, none⟩) np c1]) (M ++ [.slice a2 (es i).l.missed.length c2])) := by rw [hV]; exact HUN.out.alloc _
                rw [← hV] at z1 z2 ⊢
                clear hV HVv u0 u1 u2 ux
                go_quiet (first | (go_at_call 18; refine Calls.quiet_of_same (HDue.out _ HVc.out.1 HVc.out.2.1 HVc.out.2.2.1 HVc.out.2.2.2)))
                have hdx : (ticks - s.tick) * tick < D := by have h := of_decide_eq_false dge; omega
                have hdy : ¬ D ≤ (ticks - s.tick) * tick := of_decide_eq_false dge
                go_wp2
                all_goals try (exfalso; first | omega | (simp_all; done))
                go_roundw
                case rel => exact ⟨i + 1, _, _, by omega, by go_num, by rw [hcs, hkp]; simp, rfl, rfl, rfl, HVN.out.drewN _⟩
                case measure => simp [intOf]; omega
              | false =>
                have hcg := cg2 hkp
                clear cg1 cg2 hal
                by_cases hclt : c < ms.length
                · obtain ⟨x, hx⟩ : ∃ x, ms[c]? = some x := ⟨ms[c], List.getElem?_eq_getElem hclt⟩
                  have hxi := hcg x hx
                  have hxl : x < len := by
                    have hm := List.mem_of_getElem? hx
                    rw [HE.out.ms, List.mem_filter] at hm
                    exact List.mem_range.1 hm.1
                  have hck : wF.cell? ⟨kb, c, none⟩ = some (.pointer (some ⟨Fs x, 0, none⟩)) := own_cell1 hkr (i := c) (u := ptrV (Fs x)) (by rw [List.getElem?_map, hx]; rfl)
                  have hpo : ∀ n, (binOp .eql 35 (.pointer (some ⟨Fs x, 0, none⟩)) (.pointer (some ⟨Fs i, 0, none⟩))).run Try.prog (wF.drewN n) = .ok (.bool false) (wF.drewN n) := by
                    have hOw : Only (fun _ => False) w2 wF := Only.ofBelow (HB2.out wF HF.out.1.below)
                    exact fun n => ptr_other ((HE.out.core.net.ent x hxl).kept hOw (fun _ _ hf => hf)) ((HE.out.core.net.ent i hil).kept hOw (fun _ _ hf => hf)) (fun e => hxi (HE.out.inj x i hxl hil e)) n
                  have hcI : (c : Int) < (ms.length : Int) := by omega
                  clear hcg hkr hx hxi hxl
                  cases hdv : (es i).l.dropped with
                  | true =>
                    rw [hdrop, hdv] at x27
                    go_quiet (fail)
                    go_wp2
                    go_roundw
                    case rel => exact ⟨i + 1, _, _, by omega, by go_num, by rw [hcs, hkp]; simp, rfl, rfl, rfl, HF.out.1.drewN _⟩
                    case measure => simp [intOf]; omega
                  | false =>
                    have hp0 : (es i).l.pending.length = 0 := by
                      unfold keepL at hkp
                      rw [hdv] at hkp
                      simp at hkp
                      rw [hkp]
                      rfl
                    rw [hdrop, hdv] at x27
                    generalize hnp : (es i).l.pending.length = np at *
                    subst hp0
                    go_quiet (fail)
                    go_wp2
                    go_roundw
                    case rel => exact ⟨i + 1, _, _, by omega, by go_num, by rw [hcs, hkp]; simp, rfl, rfl, rfl, HF.out.1.drewN _⟩
                    case measure => simp [intOf]; omega
                · have hcI : decide (c < ms.length) = false := by simp; omega
                  have hcI2 : decide ((c : Int) < (ms.length : Int)) = false := by simp; omega
                  clear hcg hkr
                  cases hdv : (es i).l.dropped with
                  | true =>
                    rw [hdrop, hdv] at x27
                    go_quiet (fail)
                    go_wp2
                    go_roundw
                    case rel => exact ⟨i + 1, _, _, by omega, by go_num, by rw [hcs, hkp]; simp, rfl, rfl, rfl, HF.out.1.drewN _⟩
                    case measure => simp [intOf]; omega
                  | false =>
                    have hp0 : (es i).l.pending.length = 0 := by
                      unfold keepL at hkp
                      rw [hdv] at hkp
                      simp at hkp
                      rw [hkp]
                      rfl
                    rw [hdrop, hdv] at x27
                    generalize hnp : (es i).l.pending.length = np at *
                    subst hp0
                    go_quiet (fail)
                    go_wp2
                    go_roundw
                    case rel => exact ⟨i + 1, _, _, by omega, by go_num, by rw [hcs, hkp]; simp, rfl, rfl, rfl, HF.out.1.drewN _⟩
                    case measure => simp [intOf]; omega
            · obtain rfl : len = i := by omega
              have hcm : cnt (keepL es) len = ms.length := by rw [HE.out.ms]; rfl
              rw [hcm]
              have HN3 : Hid (Now wg wr base pb mb lb len len len len es P M) := hN
              clear hN hcm
              generalize wr = w3 at *
              go_wp2_with fail
              refine (judge_second HE.out (HB2.out w3 HN3.out.below) HP.out.1 HP.out.2.1 hlen).mono ?_
              rintro e w4 ⟨rfl, hAf⟩
              have HAf : Hid (After wb w2 w3 w4 len Fs es bb go gs ms lsb) := hAf
              have HK4 : Hid (w4.ownsRow kb 35 1 (.slice (some ⟨kb, 0, none⟩) ms.length ms.length) ms.length (ms.map (fun j => ptrV (Fs j))) ∧ w4.ownsRow wk.heap.size 38 20 (.slice aq gs.length cq) gs.length (grow gs) ∧ Recs w4 base pb mb lb len len len len es P M) := by
                obtain ⟨r1, r2⟩ := HKx.out w3 HN3.out.below
                obtain ⟨e1, e2, e3, e4⟩ := HPb.out
                refine ⟨hAf.keep.own r1 (fun x hx hc => ?_), hAf.keep.own r2 (fun x hx hc => ?_), HN3.out.recs.later hAf.keep (fun x hx => ?_)⟩
                · have := (r1.lt x hx).1
                  omega
                · have := (r2.lt x hx).1
                  omega
                · have := HN3.out.recs.pl
                  have := HN3.out.mlo
                  have := HN3.out.llo
                  omega
              clear hAf
              go_wp2_with fail
              refine (getOpen_any bb _ w4 HAf.out.c7).mono ?_
              rintro e w9 ⟨rfl, hw9⟩
              obtain rfl := hw9.symm
              go_wp2_with fail
              go_loopw [209] (fun s209 wx => ∃ i : Nat, i ≤ ms.length ∧ s209 = .int .i64 i ∧ Below w4.heap.size w4 wx) (fun s209 _ => ms.length - (intOf s209).toNat)
              case atStart => exact ⟨0, Nat.zero_le _, rfl, Below.refl _ _⟩
              case round =>
                obtain ⟨i, hi, rfl, hBx⟩ := hrel
                have HBx : Hid (Below w4.heap.size w4 wr) := hBx
                by_cases hil : i < ms.length
                · obtain ⟨F, hF⟩ : ∃ F, F = Fs ms[i] := ⟨_, rfl⟩
                  have hOx : Only (fun _ => False) w4 wr := Only.ofBelow hBx
                  have hg1 : wr.cell? ⟨go, i, none⟩ = some (.pointer (some ⟨F, 0, none⟩)) := own_cell1 (hOx.own HAf.out.opn (fun _ _ hf => hf)) (i := i) (u := ptrV F) (by rw [hF]; simp [hil])
                  have hk1 : wr.cell? ⟨kb, i, none⟩ = some (.pointer (some ⟨F, 0, none⟩)) := own_cell1 (hOx.own HK4.out.1 (fun _ _ hf => hf)) (i := i) (u := ptrV F) (by rw [hF]; simp [hil])
                  have hpn := ptr_same_neq F
                  have hiI : (i : Int) < (ms.length : Int) := by omega
                  clear hBx hOx hF
                  go_upto_region 56 with fail
                  go_quiet (fail)
                  go_wp2
                  go_roundw
                  case rel => exact ⟨i + 1, by omega, by go_num, ⟨HBx.out.os, HBx.out.tape, HBx.out.output, HBx.out.size, HBx.out.block⟩⟩
                  case measure => simp [intOf]; omega
                · obtain rfl : ms.length = i := by omega
                  obtain ⟨vg2, hc9, hg2⟩ := HAf.out.gone
                  obtain ⟨ax, cx, hvx, hcx1, hcx2⟩ := row_shape hg2
                  subst hvx
                  have hc9w := (hBx.cell (p := ⟨bb, 9, none⟩) (World.block_lt_of_cell? w4 _ hc9)).trans hc9
                  have HG2 : Hid (w4.ownsRow wb.heap.size 39 20 (.slice ax gs.length cx) gs.length (grow gs)) := hg2
                  clear hBx hg2 hc9
                  generalize wr = w5 at *
                  go_wp2_with fail
                  refine (getGone_any bb _ w5 hc9w).mono ?_
                  rintro e w9 ⟨rfl, hw9⟩
                  obtain rfl := hw9.symm
                  clear hc9w
                  go_wp2_with fail
                  go_loopw [231] (fun s231 wx => ∃ i : Nat, i ≤ gs.length ∧ s231 = .int .i64 i ∧ Below w4.heap.size w4 wx) (fun s231 _ => gs.length - (intOf s231).toNat)
                  case atStart => exact ⟨0, Nat.zero_le _, rfl, HBx.out⟩
                  case round =>
                    obtain ⟨i, hi, rfl, hBy⟩ := hrel
                    have HBy : Hid (Below w4.heap.size w4 wr) := hBy
                    by_cases hil : i < gs.length
                    · obtain ⟨gx, hgx, hgxl⟩ := own_addr HG2.out (by omega)
                      subst hgx
                      obtain ⟨gy, hgy, hgyl⟩ := own_addr HK4.out.2.1 (by omega)
                      subst hgy
                      obtain ⟨pj, hpj⟩ : ∃ pj, pj = gs[i] := ⟨_, rfl⟩
                      have HRx : Hid (wr.drew.rangeAt gx (i * 20) (pcells pj) ∧ wr.drew.rangeAt gy (i * 20) (pcells pj)) := by
                        rw [hpj]
                        exact ⟨rangeAt_kept (own_peer HG2.out i hil) hgxl hBy.drew, rangeAt_kept (own_peer HK4.out.2.1 i hil) hgyl hBy.drew⟩
                      have hq : ∀ w, (binOp .neq 38 (.agg (pcells pj).toArray) (.agg (pcells pj).toArray)).run Try.prog w = .ok (.bool false) w := fun w => by rw [run_peer_neq 38 Try.underlying38 pj pj w, alikeI_self]; rfl
                      have hiI : (i : Int) < (gs.length : Int) := by omega
                      clear hBy hpj
                      go_upto_region 65 with fail
                      refine wp_region_held_drew (S := fun w' => w'.rangeAt gx (i * 20) (pcells pj) ∧ w'.rangeAt gy (i * 20) (pcells pj)) (by kernel_rfl) ⟨HRx.out.1, HRx.out.2⟩ (fun hHeld => ?_)
                      refine wpAnyH_take (i := 0) (oi := { dst := some 234, op := Op.move (Operand.tmp 31), type := 36, pos := "laws_root_b1.go:263", after := #[], guard := none }) (v := .slice (some ⟨gx, 0, none⟩) gs.length cx) rfl (by kernel_rfl) (by kernel_rfl) (by kernel_rfl) (fun _ _ _ h => h) (Or.inl ⟨by rfl, by intro w hSw; go_simp⟩) (by assumption) ?_
                      simp only [Act.put, List.setIfInBounds_toArray, List.set_cons_zero, List.set_cons_succ]
                      refine wpAnyH_take (i := 1) (oi := { dst := some 235, op := Op.move (Operand.tmp 32), type := 3, pos := "laws_root_b1.go:263", after := #[], guard := none }) (v := .int .i64 (i : Int)) rfl (by kernel_rfl) (by kernel_rfl) (by kernel_rfl) (fun _ _ _ h => h) (Or.inl ⟨by rfl, by intro w hSw; go_simp⟩) (by assumption) ?_
                      simp only [Act.put, List.setIfInBounds_toArray, List.set_cons_zero, List.set_cons_succ]
                      refine wpAnyH_take (i := 2) (oi := { dst := some 236, op := Op.indexAddr 36 (Operand.tmp 234) (Operand.tmp 235), type := 0, pos := "laws_root_b1.go:263", after := #[{ on := 0, ground := Ground.data }, { on := 1, ground := Ground.data }], guard := none }) (v := .pointer (some ⟨gx, i * 20, none⟩)) rfl (by kernel_rfl) (by kernel_rfl) (by kernel_rfl) (fun _ _ _ h => h) (Or.inl ⟨by rfl, by intro w hSw; go_simp⟩) (by assumption) ?_
                      simp only [Act.put, List.setIfInBounds_toArray, List.set_cons_zero, List.set_cons_succ]
                      refine wpAnyH_take (i := 3) (oi := { dst := some 237, op := Op.load 39 (Operand.tmp 236), type := 39, pos := "laws_root_b1.go:263", after := #[{ on := 2, ground := Ground.data }], guard := none }) (v := .agg (pcells pj).toArray) rfl (by kernel_rfl) (by kernel_rfl) (by kernel_rfl) (fun _ _ _ h => h) (yieldsIf_load_mid (by rfl) 39 (.tmp 236) rfl (gx) (i * 20) rfl (pcells pj) _ (fun _ h => h.1) Try.underlying39 rfl Try.size39) (by assumption) ?_
                      simp only [Act.put, List.setIfInBounds_toArray, List.set_cons_zero, List.set_cons_succ]
                      refine wpAnyH_take (i := 4) (oi := { dst := some 238, op := Op.move (Operand.tmp 19), type := 25, pos := "laws_root_b1.go:263", after := #[], guard := none }) (v := .slice (some ⟨gy, 0, none⟩) gs.length cq) rfl (by kernel_rfl) (by kernel_rfl) (by kernel_rfl) (fun _ _ _ h => h) (Or.inl ⟨by rfl, by intro w hSw; go_simp⟩) (by assumption) ?_
                      simp only [Act.put, List.setIfInBounds_toArray, List.set_cons_zero, List.set_cons_succ]
                      refine wpAnyH_take (i := 5) (oi := { dst := some 239, op := Op.move (Operand.tmp 32), type := 3, pos := "laws_root_b1.go:263", after := #[], guard := none }) (v := .int .i64 (i : Int)) rfl (by kernel_rfl) (by kernel_rfl) (by kernel_rfl) (fun _ _ _ h => h) (Or.inl ⟨by rfl, by intro w hSw; go_simp⟩) (by assumption) ?_
                      simp only [Act.put, List.setIfInBounds_toArray, List.set_cons_zero, List.set_cons_succ]
                      refine wpAnyH_take (i := 6) (oi := { dst := some 240, op := Op.indexAddr 25 (Operand.tmp 238) (Operand.tmp 239), type := 0, pos := "laws_root_b1.go:263", after := #[{ on := 4, ground := Ground.data }, { on := 5, ground := Ground.data }], guard := none }) (v := .pointer (some ⟨gy, i * 20, none⟩)) rfl (by kernel_rfl) (by kernel_rfl) (by kernel_rfl) (fun _ _ _ h => h) (Or.inl ⟨by rfl, by intro w hSw; go_simp⟩) (by assumption) ?_
                      simp only [Act.put, List.setIfInBounds_toArray, List.set_cons_zero, List.set_cons_succ]
                      refine wpAnyH_take (i := 7) (oi := { dst := some 241, op := Op.load 38 (Operand.tmp 240), type := 38, pos := "laws_root_b1.go:263", after := #[{ on := 6, ground := Ground.data }], guard := none }) (v := .agg (pcells pj).toArray) rfl (by kernel_rfl) (by kernel_rfl) (by kernel_rfl) (fun _ _ _ h => h) (yieldsIf_load_mid (by rfl) 38 (.tmp 240) rfl (gy) (i * 20) rfl (pcells pj) _ (fun _ h => h.2) Try.underlying38 rfl Try.size38) (by assumption) ?_
                      simp only [Act.put, List.setIfInBounds_toArray, List.set_cons_zero, List.set_cons_succ]
                      refine wpAnyH_take (i := 8) (oi := { dst := some 242, op := Op.binOp BinOp.neq 38 (Operand.tmp 237) (Operand.tmp 241) 38, type := 4, pos := "laws_root_b1.go:263", after := #[{ on := 3, ground := Ground.data }, { on := 7, ground := Ground.data }], guard := none }) (v := .bool false) rfl (by kernel_rfl) (by kernel_rfl) (by kernel_rfl) (fun _ _ _ h => h) (Or.inl ⟨by rfl, by intro w hSw; go_simp⟩) (by assumption) ?_
                      simp only [Act.put, List.setIfInBounds_toArray, List.set_cons_zero, List.set_cons_succ]
                      refine wpAnyH_done (by kernel_rfl) ?_ _
                      go_wp2
                      go_roundw
                      case rel => exact ⟨i + 1, by omega, by go_num, HBy.out.drew⟩
                      case measure => simp [intOf]; omega
                    · obtain rfl : gs.length = i := by omega
                      clear hBy
                      generalize wr = w6 at *
                      go_wp2_with fail
                      go_loopw [246] (fun s246 wx => ∃ i : Nat, i ≤ len ∧ s246 = .int .i64 i ∧ Below w4.heap.size w4 wx) (fun s246 _ => len - (intOf s246).toNat)
                      case atStart => exact ⟨0, Nat.zero_le _, rfl, HBy.out⟩
                      case round =>
                        obtain ⟨i, hi, rfl, hBz⟩ := hrel
                        have HBz : Hid (Below w4.heap.size w4 wr) := hBz
                        by_cases hil : i < len
                        · have hOz : Only (fun _ => False) w4 wr := Only.ofBelow hBz
                          obtain ⟨vm, vp, hE4⟩ := HAf.out.ent i hil
                          have hEz := hE4.kept hOz (fun _ _ hf => hf)
                          have hRz := HK4.out.2.2.later hOz (fun _ hf => hf.elim)
                          have hc1 : wr.cell? ⟨lsb, i, none⟩ = some (.pointer (some ⟨Fs i, 0, none⟩)) := own_cell1 (hOz.own HAf.out.row (fun _ _ hf => hf)) (i := i) (u := ptrV (Fs i)) (by simp [hil])
                          have hPl : P.length = len := by have := hRz.pr.1; omega
                          have hMl : M.length = len := by have := hRz.mr.1; omega
                          have hPi : P[i]? = some P[i] := List.getElem?_eq_getElem (by omega)
                          have hMi : M[i]? = some M[i] := List.getElem?_eq_getElem (by omega)
                          have hc2 := own_cell1 hRz.pr hPi
                          have hc3 := own_cell1 hRz.mr hMi
                          have hc4 : wr.cell? ⟨lb, i, none⟩ = some (.float .f64 (es i).l.loss) := own_cell1 hRz.lr (i := i) (u := .float .f64 (es i).l.loss) (by simp [hil])
                          obtain ⟨a1, c1, b1, hv1, hB1⟩ := BRow.ofOwn (hRz.pe i _ hPi)
                          obtain ⟨a2, c2, b2, hv2, hB2'⟩ := BRow.ofOwn (hRz.me i _ hMi)
                          obtain ⟨a3, c3, b3, hv3, hB3⟩ := BRow.ofOwn hEz.prow
                          obtain ⟨a4, c4, b4, hv4, hB4⟩ := BRow.ofOwn hEz.mrow
                          rw [hv1] at hc2
                          rw [hv2] at hc3
                          have hp23 := hEz.cell 23 _ rfl
                          rw [hv3] at hp23
                          have hp21 := hEz.cell 21 _ rfl
                          rw [hv4] at hp21
                          have hp20 := hEz.cell 20 _ rfl
                          have hgood := HE.out.core.good i hil
                          have hpl : (es i).l.pending.length ≤ 1048576 := by obtain ⟨K, _, hK⟩ := hgood.loss; omega
                          have hml2 : (es i).l.missed.length ≤ 1048576 := Nat.le_trans hgood.m6 (by omega)
                          have hfe : FloatKind.f64.format.order (es i).l.loss (es i).l.loss = some Ordering.eq := by
                            obtain ⟨K, hK, _⟩ := hgood.loss
                            exact Fl.eq_self hK
                          have hFl := hEz.hi
                          have hll : lsb < wr.heap.size := World.block_lt_of_cell? wr _ hc1
                          have hpbl : pb < wr.heap.size := World.block_lt_of_cell? wr _ hc2
                          have hmbl : mb < wr.heap.size := World.block_lt_of_cell? wr _ hc3
                          have hlbl : lb < wr.heap.size := World.block_lt_of_cell? wr _ hc4
                          have HG15 : Hid (∀ wX, Below wr.heap.size wr wX → Calls Try.prog 15 #[.pointer (some ⟨Fs i, 0, none⟩)] wX fun e w' => e = .returned (.slice a3 (es i).l.pending.length c3) ∧ w' = wX) := fun wX hX => getPending_any (Fs i) _ wX ((hX.cell (p := ⟨Fs i, 23, none⟩) hFl).trans hp23)
                          have HG16 : Hid (∀ wX, Below wr.heap.size wr wX → Calls Try.prog 16 #[.pointer (some ⟨Fs i, 0, none⟩)] wX fun e w' => e = .returned (.slice a4 (es i).l.missed.length c4) ∧ w' = wX) := fun wX hX => getMissed_any (Fs i) _ wX ((hX.cell (p := ⟨Fs i, 21, none⟩) hFl).trans hp21)
                          have HG17 : Hid (∀ wX, Below wr.heap.size wr wX → Calls Try.prog 17 #[.pointer (some ⟨Fs i, 0, none⟩)] wX fun e w' => e = .returned (.float .f64 (es i).l.loss) ∧ w' = wX) := fun wX hX => getLoss_any (Fs i) _ wX ((hX.cell (p := ⟨Fs i, 20, none⟩) hFl).trans hp20)
                          have HSp : Hid (∀ wX, Below wr.heap.size wr wX → Calls Try.prog 19 #[.slice a3 (es i).l.pending.length c3, .slice a1 (es i).l.pending.length c1] wX fun e w' => e = .returned (.bool true) ∧ Below wX.heap.size wX w') := fun wX hX => sameBeacons_true wr.heap.size a3 _ c3 b3 0 a1 c1 b1 0 (es i).l.pending wX (hB3.kept hX) (hB1.kept hX) hX.size hpl
                          have HSm : Hid (∀ wX, Below wr.heap.size wr wX → Calls Try.prog 19 #[.slice a4 (es i).l.missed.length c4, .slice a2 (es i).l.missed.length c2] wX fun e w' => e = .returned (.bool true) ∧ Below wX.heap.size wX w') := fun wX hX => sameBeacons_true wr.heap.size a4 _ c4 b4 0 a2 c2 b2 0 (es i).l.missed wX (hB4.kept hX) (hB2'.kept hX) hX.size hml2
                          have HSx : Hid (∀ wX, Below wr.heap.size wr wX → wX.cell? ⟨lsb, i, none⟩ = some (.pointer (some ⟨Fs i, 0, none⟩)) ∧ wX.cell? ⟨pb, i, none⟩ = some (.slice a1 (es i).l.pending.length c1) ∧ wX.cell? ⟨mb, i, none⟩ = some (.slice a2 (es i).l.missed.length c2) ∧ wX.cell? ⟨lb, i, none⟩ = some (.float .f64 (es i).l.loss)) := fun wX hX => ⟨(hX.cell (p := ⟨lsb, i, none⟩) hll).trans hc1, (hX.cell (p := ⟨pb, i, none⟩) hpbl).trans hc2, (hX.cell (p := ⟨mb, i, none⟩) hmbl).trans hc3, (hX.cell (p := ⟨lb, i, none⟩) hlbl).trans hc4⟩
                          have hiI : (i : Int) < (len : Int) := by omega
                          clear hBz hOz hE4 hEz hRz hPl hMl hPi hMi hB1 hB2' hB3 hB4 hp23 hp21 hp20 hgood hpl hml2 hFl hll hpbl hmbl hlbl hv1 hv2 hv3 hv4
                          go_upto_region 71 with fail
                          go_region_held3 (fun w' => w'.cell? ⟨lsb, i, none⟩ = some (.pointer (some ⟨Fs i, 0, none⟩)) ∧ w'.cell? ⟨pb, i, none⟩ = some (.slice a1 (es i).l.pending.length c1) ∧ w'.cell? ⟨mb, i, none⟩ = some (.slice a2 (es i).l.missed.length c2) ∧ w'.cell? ⟨lb, i, none⟩ = some (.float .f64 (es i).l.loss)) (go_keep) (first | (go_at_call 15; refine Calls.mono (HG15.out _ (Below.refl _ _).drew) ?_; rintro e w9 ⟨rfl, hw9⟩; obtain rfl := hw9.symm) | (go_at_call 19; refine Calls.mono (HSm.out wA2 HbA.out) ?_; rintro e wB2 ⟨rfl, hbB⟩; have hbB' : Below wr.heap.size wr wB2 := HbA.out.trans (hbB.mono HbA.out.size); obtain ⟨s5, s6, s7, s8⟩ := HSx.out wB2 hbB'; have HbB : Hid (Below wr.heap.size wr wB2) := hbB'; clear hbB hbB') | (go_at_call 16; refine Calls.mono (HG16.out wA2 HbA.out) ?_; rintro e w9 ⟨rfl, hw9⟩; obtain rfl := hw9.symm) | (go_at_call 19; refine Calls.mono (HSp.out _ (Below.refl _ _).drew) ?_; rintro e wA2 ⟨rfl, hbA⟩; have hbA' : Below wr.heap.size wr wA2 := ⟨hbA.os, hbA.tape, hbA.output, hbA.size, hbA.block⟩; obtain ⟨s1, s2, s3, s4⟩ := HSx.out wA2 hbA'; have HbA : Hid (Below wr.heap.size wr wA2) := hbA'; clear hbA hbA') | (go_at_call 17; refine Calls.mono (HG17.out wB2 HbB.out) ?_; rintro e w9 ⟨rfl, hw9⟩; obtain rfl := hw9.symm))
                          all_goals
                            go_wp2
                            go_roundw
                            case rel => exact ⟨i + 1, by omega, by go_num, HBz.out.trans (HbB.out.mono HBz.out.size)⟩
                            case measure => simp [intOf]; omega
                        · obtain rfl : len = i := by omega
                          go_wp2
                          go_ret
                          exact ⟨rfl, HP.out.2.2.2.trans ((HAf.out.below.trans (HBz.out.mono HAf.out.below.size)).mono HP.out.2.2.2.size)⟩

end Go.Proofs.Qxb6613544a
