/-
  judgePremise: THE WALK.
-/
import Derived.Test.Qxb6613544aPeers
namespace Go.Proofs.Qxb6613544a
open Go.RowKit

/-- What the premise leaves known of one link. -/
structure Fine (l : Lk) (ticks : Int) : Prop where
  ok : l.Ok ticks
  m6 : l.missed.length ≤ 6
  loss : Fl 1 l.loss

theorem Try.size38 : (Try.prog.info? 38).map (·.size) = some 20 := by kernel_rfl

set_option maxHeartbeats 16000000 in
set_option maxRecDepth 10000 in
theorem premise_any (B : Nat) (period tick : Int) (hyst : Nat) (ticks : Int) (a : Option Addr) (len cap b o : Nat) (f : Nat → Lk) (w : World) (hR : LRow B w a len cap b o f) (hB : B ≤ w.heap.size) (hlen : len ≤ 4096) (hk0 : 0 ≤ ticks) :
    Calls Try.prog 9 #[.int .i64 period, .int .i64 tick, .float .f64 hyst, .int .u64 ticks, .slice a len cap] w fun e w' => (e = .returned (.bool false) ∨ (e = .returned (.bool true) ∧ Cfg period tick ticks ∧ Fl 1 hyst ∧ ∀ i, i < len → Fine (f i) ticks)) ∧ Below w.heap.size w w' := by
  have hlc := hR.lc
  have hcm := hR.cm
  unfold maxLen at hcm
  have HR : Hid (LRow B w a len cap b o f) := hR
  clear hR
  by_cases q1 : 1 ≤ period
  case neg =>
    go_enter Try.func9, Try.ntmps9
    go_wp2
    go_ret
    exact ⟨.inl rfl, Below.refl _ _⟩
  have d1 : decide (period < 1) = false := by simp; omega
  by_cases q2 : period ≤ 1099511627776
  case neg =>
    go_enter Try.func9, Try.ntmps9
    go_wp2
    go_ret
    exact ⟨.inl rfl, Below.refl _ _⟩
  have d2 : decide (1099511627776 < period) = false := by simp; omega
  by_cases q3 : 1 ≤ tick
  case neg =>
    go_enter Try.func9, Try.ntmps9
    go_wp2
    go_ret
    exact ⟨.inl rfl, Below.refl _ _⟩
  have d3 : decide (tick < 1) = false := by simp; omega
  by_cases q4 : tick ≤ 8589934592
  case neg =>
    go_enter Try.func9, Try.ntmps9
    go_wp2
    go_ret
    exact ⟨.inl rfl, Below.refl _ _⟩
  have d4 : decide (8589934592 < tick) = false := by simp; omega
  by_cases q5 : ticks ≤ 536870912
  case neg =>
    go_enter Try.func9, Try.ntmps9
    go_wp2
    go_ret
    exact ⟨.inl rfl, Below.refl _ _⟩
  have d5 : decide (536870912 < ticks) = false := by simp; omega
  have HQ : Hid (Cfg period tick ticks) := ⟨q1, q2, q3, q4, hk0, q5⟩
  go_enter Try.func9, Try.ntmps9
  go_wp2_with fail
  all_goals try (go_ret; exact ⟨.inl rfl, Below.refl _ _⟩)
  rename_i hq hA hA2 hK ha
  have HF : Hid (Fl 1 hyst) := Fl.unit (.inl hA) (by have h2 : FloatKind.f64.format.order hyst 4607182418800017408 = some Ordering.lt ∨ FloatKind.f64.format.order hyst 4607182418800017408 = some Ordering.eq := by simpa using hA2
                                                     exact h2)
  clear d1 d2 d3 d4 d5 q1 q2 q3 q4 q5 hA hA2
  go_loopw [43] (fun s43 wr => ∃ k : Nat, k ≤ len ∧ s43 = .int .i64 k ∧ (∀ i, i < k → Fine (f i) ticks) ∧ Below w.heap.size w wr) (fun s43 _ => len - (intOf s43).toNat)
  case atStart => exact ⟨0, Nat.zero_le _, rfl, fun i hi => absurd hi (by omega), Below.refl _ _⟩
  case round =>
    obtain ⟨k, hk, rfl, hall, hBel⟩ := hrel
    have HA : Hid (∀ i, i < k → Fine (f i) ticks) := hall
    have HBl : Hid (Below w.heap.size w wr) := hBel
    clear hall
    by_cases hlt : k < len
    case neg =>
      obtain rfl : k = len := by omega
      go_wp2
      go_ret
      exact ⟨.inr ⟨rfl, HQ.out, HF.out, HA.out⟩, HBl.out⟩
    obtain ⟨am, cm, bm, om, ap, cp, bp, op, hl⟩ := (HR.out.kept (hBel.mono hB)).link k hlt
    obtain ⟨hada, hbB⟩ := HR.out.at_ (by omega)
    subst hada
    have x20 := hl.c20
    have x21 := hl.c21
    have x22 := hl.c22
    have x23 := hl.c23
    have x25 := hl.c25
    have x26 := hl.c26
    have hm1 := hl.mrow.lc
    have hm2 := hl.mrow.cm
    have hp1 := hl.prow.lc
    have hp2 := hl.prow.cm
    unfold maxLen at hm2 hp2
    have HL : Hid (LCell B wr b (o + k * 28) (f k) am cm bm om ap cp bp op) := hl
    clear hl hBel
    obtain ⟨rtt, hrtt⟩ : ∃ z, z = (f k).rtt := ⟨_, rfl⟩
    obtain ⟨srtt, hsrtt⟩ : ∃ z, z = (f k).srtt := ⟨_, rfl⟩
    obtain ⟨rv, hrv⟩ : ∃ z, z = (f k).rttvar := ⟨_, rfl⟩
    rw [← hrtt] at x23
    rw [← hsrtt] at x25
    rw [← hrv] at x26
    have HN : Hid (rtt = (f k).rtt ∧ srtt = (f k).srtt ∧ rv = (f k).rttvar) := ⟨hrtt, hsrtt, hrv⟩
    clear hrtt hsrtt hrv
    by_cases r0 : 0 ≤ rtt
    case neg =>
      go_wp2
      all_goals go_ret
      all_goals exact ⟨.inl rfl, HBl.out⟩
    have d_r0 : decide (rtt < 0) = false := by simp; omega
    by_cases r1 : rtt ≤ 1099511627776
    case neg =>
      go_wp2
      all_goals go_ret
      all_goals exact ⟨.inl rfl, HBl.out⟩
    have d_r1 : decide (1099511627776 < rtt) = false := by simp; omega
    by_cases s0 : 0 ≤ srtt
    case neg =>
      go_wp2
      all_goals go_ret
      all_goals exact ⟨.inl rfl, HBl.out⟩
    have d_s0 : decide (srtt < 0) = false := by simp; omega
    by_cases s1 : srtt ≤ 1099511627776
    case neg =>
      go_wp2
      all_goals go_ret
      all_goals exact ⟨.inl rfl, HBl.out⟩
    have d_s1 : decide (1099511627776 < srtt) = false := by simp; omega
    by_cases v0 : 0 ≤ rv
    case neg =>
      go_wp2
      all_goals go_ret
      all_goals exact ⟨.inl rfl, HBl.out⟩
    have d_v0 : decide (rv < 0) = false := by simp; omega
    by_cases v1 : rv ≤ 274877906944
    case neg =>
      go_wp2
      all_goals go_ret
      all_goals exact ⟨.inl rfl, HBl.out⟩
    have d_v1 : decide (274877906944 < rv) = false := by simp; omega
    have HB6 : Hid (0 ≤ rtt ∧ rtt ≤ 1099511627776 ∧ 0 ≤ srtt ∧ srtt ≤ 1099511627776 ∧ 0 ≤ rv ∧ rv ≤ 274877906944) := ⟨r0, r1, s0, s1, v0, v1⟩
    clear r0 r1 s0 s1 v0 v1
    by_cases m6 : (f k).missed.length ≤ 6
    case neg =>
      go_wp2
      all_goals go_ret
      all_goals exact ⟨.inl rfl, HBl.out⟩
    go_upto_region 15 with fail
    all_goals try (go_ret; exact ⟨.inl rfl, HBl.out⟩)
    have hL1 : FloatKind.f64.format.order (f k).loss 0 = some Ordering.gt ∨ FloatKind.f64.format.order (f k).loss 0 = some Ordering.eq := by assumption
    have hL2 : ((!FloatKind.f64.format.order (f k).loss 0 == some Ordering.gt) = false ∨ (!FloatKind.f64.format.order (f k).loss 0 == some Ordering.eq) = false) ∧ ((!FloatKind.f64.format.order (f k).loss 4607182418800017408 == some Ordering.lt) = false ∨ (!FloatKind.f64.format.order (f k).loss 4607182418800017408 == some Ordering.eq) = false) := by assumption
    have HFl : Hid (Fl 1 (f k).loss) := Fl.unit hL1 (by
      have h2 : FloatKind.f64.format.order (f k).loss 4607182418800017408 = some Ordering.lt ∨ FloatKind.f64.format.order (f k).loss 4607182418800017408 = some Ordering.eq := by simpa using hL2.2
      exact h2)
    have HM6 : Hid ((f k).missed.length ≤ 6) := m6
    clear hL1 hL2 d_r0 d_r1 d_s0 d_s1 d_v0 d_v1 x20 x23 x25 x26 m6
    obtain ⟨nm, hnm⟩ : ∃ z, z = (f k).missed.length := ⟨_, rfl⟩
    obtain ⟨np, hnp⟩ : ∃ z, z = (f k).pending.length := ⟨_, rfl⟩
    rw [← hnm] at x21 hm1
    rw [← hnp] at x22 hp1
    have hML := HL.out.mrow
    have hPL := HL.out.prow
    rw [← hnm] at hML
    rw [← hnp] at hPL
    have HML : Hid (BRow B wr am nm cm bm om (f k).missed) := hML
    have HPL : Hid (BRow B wr ap np cp bp op (f k).pending) := hPL
    clear hML hPL hnm hnp
    go_wp2_with fail
    go_loopw [113] (fun s113 wx => ∃ j : Nat, j ≤ nm ∧ s113 = .int .i64 j ∧ wx = wr) (fun s113 _ => nm - (intOf s113).toNat)
    case atStart => exact ⟨0, Nat.zero_le _, rfl, by first | rfl | trivial⟩
    case round =>
      obtain ⟨j, hj, rfl, rfl⟩ := hrel
      by_cases hjl : j < nm
      · obtain ⟨hama, _⟩ := HML.out.at_ (by omega)
        obtain ⟨_, t1, t2⟩ := HML.out.elem j hjl
        subst hama
        generalize (f k).missed.getD j Bc.zero = x at t1 t2
        have hjI : (j : Int) < (nm : Int) := by omega
        cases hac : x.acked with
        | true =>
          rw [hac] at t2
          go_wp2
          all_goals go_ret
          all_goals exact ⟨.inl rfl, HBl.out⟩
        | false =>
          rw [hac] at t2
          by_cases htk : x.tick ≤ ticks
          · have dtk : decide (ticks < x.tick) = false := by simp; omega
            go_wp2
            go_roundw
            case rel => exact ⟨j + 1, by omega, by go_num, by first | rfl | trivial⟩
            case measure => simp [intOf]; omega
          · go_wp2
            all_goals go_ret
            all_goals exact ⟨.inl rfl, HBl.out⟩
      · obtain rfl : j = nm := by omega
        go_wp2_with fail
        go_loopw [142] (fun s142 wx => ∃ i : Nat, i ≤ np ∧ s142 = .int .i64 i ∧ wx = wr ∧ ∀ z, z < i → ((f k).pending.getD z Bc.zero).tick ≤ ticks) (fun s142 _ => np - (intOf s142).toNat)
        case atStart => exact ⟨0, Nat.zero_le _, rfl, by first | rfl | trivial, fun z hz => absurd hz (by omega)⟩
        case round =>
          obtain ⟨i, hi, rfl, rfl, hti⟩ := hrel
          have HTi : Hid (∀ z, z < i → ((f k).pending.getD z Bc.zero).tick ≤ ticks) := hti
          clear hti
          by_cases hil : i < np
          · obtain ⟨hapa, _⟩ := HPL.out.at_ (by omega)
            obtain ⟨_, t1, _⟩ := HPL.out.elem i hil
            subst hapa
            have HEx : Hid (∀ x, x = (f k).pending.getD i Bc.zero → x.tick ≤ ticks → ∀ z, z < i + 1 → ((f k).pending.getD z Bc.zero).tick ≤ ticks) := fun x hx ht z hz => by
              by_cases e : z = i
              · subst e
                rw [← hx]
                exact ht
              · exact HTi.out z (by omega)
            obtain ⟨x, hx⟩ : ∃ x, x = (f k).pending.getD i Bc.zero := ⟨_, rfl⟩
            rw [← hx] at t1
            have HXx : Hid (x = (f k).pending.getD i Bc.zero) := hx
            clear hx
            have hiI : (i : Int) < (np : Int) := by omega
            by_cases htk : x.tick ≤ ticks
            · have dtk : decide (ticks < x.tick) = false := by simp; omega
              go_wp2
              go_roundw
              case rel => exact ⟨i + 1, by omega, by go_num, by first | rfl | trivial, HEx.out x HXx.out htk⟩
              case measure => simp [intOf]; omega
            · go_wp2
              all_goals go_ret
              all_goals exact ⟨.inl rfl, HBl.out⟩
          · obtain rfl : i = np := by omega
            have HNew : Hid (∀ z, z < k + 1 → Fine (f z) ticks) := fun z hz => by
              by_cases e : z = k
              · subst e
                obtain ⟨e1, e2, e3⟩ := HN.out
                obtain ⟨b1, b2, b3, b4, b5, b6⟩ := HB6.out
                rw [e1] at b1 b2
                rw [e2] at b3 b4
                rw [e3] at b5 b6
                refine ⟨⟨b1, b2, b3, b4, b5, b6, fun x hx => ⟨HL.out.ptick x hx, ?_⟩⟩, HM6.out, HFl.out⟩
                obtain ⟨z', hz', hze⟩ := List.mem_iff_getElem.1 hx
                have := HTi.out z' (by rw [← HPL.out.ln]; exact hz')
                rw [← hze]
                simpa [List.getD, hz'] using this
              · exact HA.out z (by omega)
            go_wp2_with fail
            go_loopw [15] (fun s15 wx => ∃ y : Nat, y ≤ k ∧ s15 = .int .i64 y ∧ Below w.heap.size w wx) (fun s15 _ => k - (intOf s15).toNat)
            case atStart => exact ⟨0, Nat.zero_le _, rfl, HBl.out⟩
            case round =>
              obtain ⟨y, hy, rfl, hBx⟩ := hrel
              have HBx : Hid (Below w.heap.size w wr) := hBx
              by_cases hyl : y < k
              · obtain ⟨_, _, _, _, _, _, _, _, hly⟩ := (HR.out.kept (hBx.mono hB)).link y (by omega)
                obtain ⟨_, _, _, _, _, _, _, _, hlk⟩ := (HR.out.kept (hBx.mono hB)).link k (by omega)
                have ry := hly.peer
                have rk := hlk.peer
                have hu38 := Try.underlying38
                have hi38 : (Try.prog.info? 38).map (·.size) = some (pcells (f y).peer).length := Try.size38
                have hi38' : (Try.prog.info? 38).map (·.size) = some (pcells (f k).peer).length := Try.size38
                have hyI : (y : Int) < (len : Int) := by omega
                have hkI : (k : Int) < (len : Int) := by omega
                clear hly hlk hBx
                have hq := run_peer_eql 38 Try.underlying38 (f y).peer (f k).peer
                go_upto_region 30 with fail
                cases hr : alikeI 20 (plist (f y).peer) (plist (f k).peer) with
                | true =>
                  rw [hr] at hq
                  refine wp_region_held_drew (S := fun w' => w'.rangeAt b (o + y * 28) (pcells (f y).peer) ∧ w'.rangeAt b (o + k * 28) (pcells (f k).peer)) (by kernel_rfl) ⟨ry, rk⟩ (fun hHeld => ?_)
                  refine wpAnyH_take (i := 0) (oi := { dst := some 161, op := Op.move (Operand.tmp 4), type := 24, pos := "laws_root_b1.go:105", after := #[], guard := none }) (v := .slice (some ⟨b, o, none⟩) len cap) rfl (by kernel_rfl) (by kernel_rfl) (by kernel_rfl) (fun _ _ _ h => h) (Or.inl ⟨by rfl, by intro w hSw; go_simp⟩) (by assumption) ?_
                  simp only [Act.put, List.setIfInBounds_toArray, List.set_cons_zero, List.set_cons_succ]
                  refine wpAnyH_take (i := 1) (oi := { dst := some 162, op := Op.move (Operand.tmp 15), type := 3, pos := "laws_root_b1.go:105", after := #[], guard := none }) (v := .int .i64 (y : Int)) rfl (by kernel_rfl) (by kernel_rfl) (by kernel_rfl) (fun _ _ _ h => h) (Or.inl ⟨by rfl, by intro w hSw; go_simp⟩) (by assumption) ?_
                  simp only [Act.put, List.setIfInBounds_toArray, List.set_cons_zero, List.set_cons_succ]
                  refine wpAnyH_take (i := 2) (oi := { dst := some 163, op := Op.indexAddr 24 (Operand.tmp 161) (Operand.tmp 162), type := 0, pos := "laws_root_b1.go:105", after := #[{ on := 0, ground := Ground.data }, { on := 1, ground := Ground.data }], guard := none }) (v := .pointer (some ⟨b, o + y * 28, none⟩)) rfl (by kernel_rfl) (by kernel_rfl) (by kernel_rfl) (fun _ _ _ h => h) (Or.inl ⟨by rfl, by intro w hSw; go_simp⟩) (by assumption) ?_
                  simp only [Act.put, List.setIfInBounds_toArray, List.set_cons_zero, List.set_cons_succ]
                  refine wpAnyH_take (i := 3) (oi := { dst := some 164, op := Op.fieldAddr 48 (Operand.tmp 163) 0, type := 0, pos := "laws_root_b1.go:105", after := #[{ on := 2, ground := Ground.data }], guard := none }) (v := .pointer (some ⟨b, o + y * 28, none⟩)) rfl (by kernel_rfl) (by kernel_rfl) (by kernel_rfl) (fun _ _ _ h => h) (Or.inl ⟨by rfl, by intro w hSw; go_simp⟩) (by assumption) ?_
                  simp only [Act.put, List.setIfInBounds_toArray, List.set_cons_zero, List.set_cons_succ]
                  refine wpAnyH_take (i := 4) (oi := { dst := some 165, op := Op.load 38 (Operand.tmp 164), type := 38, pos := "laws_root_b1.go:105", after := #[{ on := 3, ground := Ground.data }], guard := none }) (v := .agg (pcells (f y).peer).toArray) rfl (by kernel_rfl) (by kernel_rfl) (by kernel_rfl) (fun _ _ _ h => h) (yieldsIf_load_mid (by rfl) 38 (.tmp 164) rfl (b) (o + y * 28) rfl (pcells (f y).peer) _ (fun _ h => h.1) Try.underlying38 rfl Try.size38) (by assumption) ?_
                  simp only [Act.put, List.setIfInBounds_toArray, List.set_cons_zero, List.set_cons_succ]
                  refine wpAnyH_take (i := 5) (oi := { dst := some 166, op := Op.move (Operand.tmp 12), type := 52, pos := "laws_root_b1.go:105", after := #[], guard := none }) (v := .pointer (some ⟨b, o + k * 28, none⟩)) rfl (by kernel_rfl) (by kernel_rfl) (by kernel_rfl) (fun _ _ _ h => h) (Or.inl ⟨by rfl, by intro w hSw; go_simp⟩) (by assumption) ?_
                  simp only [Act.put, List.setIfInBounds_toArray, List.set_cons_zero, List.set_cons_succ]
                  refine wpAnyH_take (i := 6) (oi := { dst := some 167, op := Op.nilCheck (Operand.tmp 166), type := 0, pos := "laws_root_b1.go:105", after := #[{ on := 5, ground := Ground.data }], guard := none }) (v := .pointer (some ⟨b, o + k * 28, none⟩)) rfl (by kernel_rfl) (by kernel_rfl) (by kernel_rfl) (fun _ _ _ h => h) (Or.inl ⟨by rfl, by intro w hSw; go_simp⟩) (by assumption) ?_
                  simp only [Act.put, List.setIfInBounds_toArray, List.set_cons_zero, List.set_cons_succ]
                  refine wpAnyH_take (i := 7) (oi := { dst := some 168, op := Op.fieldAddr 48 (Operand.tmp 167) 0, type := 0, pos := "laws_root_b1.go:105", after := #[{ on := 6, ground := Ground.data }], guard := none }) (v := .pointer (some ⟨b, o + k * 28, none⟩)) rfl (by kernel_rfl) (by kernel_rfl) (by kernel_rfl) (fun _ _ _ h => h) (Or.inl ⟨by rfl, by intro w hSw; go_simp⟩) (by assumption) ?_
                  simp only [Act.put, List.setIfInBounds_toArray, List.set_cons_zero, List.set_cons_succ]
                  refine wpAnyH_take (i := 8) (oi := { dst := some 169, op := Op.load 38 (Operand.tmp 168), type := 38, pos := "laws_root_b1.go:105", after := #[{ on := 7, ground := Ground.data }], guard := none }) (v := .agg (pcells (f k).peer).toArray) rfl (by kernel_rfl) (by kernel_rfl) (by kernel_rfl) (fun _ _ _ h => h) (yieldsIf_load_mid (by rfl) 38 (.tmp 168) rfl (b) (o + k * 28) rfl (pcells (f k).peer) _ (fun _ h => h.2) Try.underlying38 rfl Try.size38) (by assumption) ?_
                  simp only [Act.put, List.setIfInBounds_toArray, List.set_cons_zero, List.set_cons_succ]
                  refine wpAnyH_take (i := 9) (oi := { dst := some 170, op := Op.binOp BinOp.eql 38 (Operand.tmp 165) (Operand.tmp 169) 38, type := 4, pos := "laws_root_b1.go:105", after := #[{ on := 4, ground := Ground.data }, { on := 8, ground := Ground.data }], guard := none }) (v := .bool true) rfl (by kernel_rfl) (by kernel_rfl) (by kernel_rfl) (fun _ _ _ h => h) (Or.inl ⟨by rfl, by intro w hSw; go_simp⟩) (by assumption) ?_
                  simp only [Act.put, List.setIfInBounds_toArray, List.set_cons_zero, List.set_cons_succ]
                  refine wpAnyH_done (by kernel_rfl) ?_ _
                  go_wp2
                  go_ret
                  exact ⟨.inl rfl, HBx.out.drew⟩
                | false =>
                  rw [hr] at hq
                  refine wp_region_held_drew (S := fun w' => w'.rangeAt b (o + y * 28) (pcells (f y).peer) ∧ w'.rangeAt b (o + k * 28) (pcells (f k).peer)) (by kernel_rfl) ⟨ry, rk⟩ (fun hHeld => ?_)
                  refine wpAnyH_take (i := 0) (oi := { dst := some 161, op := Op.move (Operand.tmp 4), type := 24, pos := "laws_root_b1.go:105", after := #[], guard := none }) (v := .slice (some ⟨b, o, none⟩) len cap) rfl (by kernel_rfl) (by kernel_rfl) (by kernel_rfl) (fun _ _ _ h => h) (Or.inl ⟨by rfl, by intro w hSw; go_simp⟩) (by assumption) ?_
                  simp only [Act.put, List.setIfInBounds_toArray, List.set_cons_zero, List.set_cons_succ]
                  refine wpAnyH_take (i := 1) (oi := { dst := some 162, op := Op.move (Operand.tmp 15), type := 3, pos := "laws_root_b1.go:105", after := #[], guard := none }) (v := .int .i64 (y : Int)) rfl (by kernel_rfl) (by kernel_rfl) (by kernel_rfl) (fun _ _ _ h => h) (Or.inl ⟨by rfl, by intro w hSw; go_simp⟩) (by assumption) ?_
                  simp only [Act.put, List.setIfInBounds_toArray, List.set_cons_zero, List.set_cons_succ]
                  refine wpAnyH_take (i := 2) (oi := { dst := some 163, op := Op.indexAddr 24 (Operand.tmp 161) (Operand.tmp 162), type := 0, pos := "laws_root_b1.go:105", after := #[{ on := 0, ground := Ground.data }, { on := 1, ground := Ground.data }], guard := none }) (v := .pointer (some ⟨b, o + y * 28, none⟩)) rfl (by kernel_rfl) (by kernel_rfl) (by kernel_rfl) (fun _ _ _ h => h) (Or.inl ⟨by rfl, by intro w hSw; go_simp⟩) (by assumption) ?_
                  simp only [Act.put, List.setIfInBounds_toArray, List.set_cons_zero, List.set_cons_succ]
                  refine wpAnyH_take (i := 3) (oi := { dst := some 164, op := Op.fieldAddr 48 (Operand.tmp 163) 0, type := 0, pos := "laws_root_b1.go:105", after := #[{ on := 2, ground := Ground.data }], guard := none }) (v := .pointer (some ⟨b, o + y * 28, none⟩)) rfl (by kernel_rfl) (by kernel_rfl) (by kernel_rfl) (fun _ _ _ h => h) (Or.inl ⟨by rfl, by intro w hSw; go_simp⟩) (by assumption) ?_
                  simp only [Act.put, List.setIfInBounds_toArray, List.set_cons_zero, List.set_cons_succ]
                  refine wpAnyH_take (i := 4) (oi := { dst := some 165, op := Op.load 38 (Operand.tmp 164), type := 38, pos := "laws_root_b1.go:105", after := #[{ on := 3, ground := Ground.data }], guard := none }) (v := .agg (pcells (f y).peer).toArray) rfl (by kernel_rfl) (by kernel_rfl) (by kernel_rfl) (fun _ _ _ h => h) (yieldsIf_load_mid (by rfl) 38 (.tmp 164) rfl (b) (o + y * 28) rfl (pcells (f y).peer) _ (fun _ h => h.1) Try.underlying38 rfl Try.size38) (by assumption) ?_
                  simp only [Act.put, List.setIfInBounds_toArray, List.set_cons_zero, List.set_cons_succ]
                  refine wpAnyH_take (i := 5) (oi := { dst := some 166, op := Op.move (Operand.tmp 12), type := 52, pos := "laws_root_b1.go:105", after := #[], guard := none }) (v := .pointer (some ⟨b, o + k * 28, none⟩)) rfl (by kernel_rfl) (by kernel_rfl) (by kernel_rfl) (fun _ _ _ h => h) (Or.inl ⟨by rfl, by intro w hSw; go_simp⟩) (by assumption) ?_
                  simp only [Act.put, List.setIfInBounds_toArray, List.set_cons_zero, List.set_cons_succ]
                  refine wpAnyH_take (i := 6) (oi := { dst := some 167, op := Op.nilCheck (Operand.tmp 166), type := 0, pos := "laws_root_b1.go:105", after := #[{ on := 5, ground := Ground.data }], guard := none }) (v := .pointer (some ⟨b, o + k * 28, none⟩)) rfl (by kernel_rfl) (by kernel_rfl) (by kernel_rfl) (fun _ _ _ h => h) (Or.inl ⟨by rfl, by intro w hSw; go_simp⟩) (by assumption) ?_
                  simp only [Act.put, List.setIfInBounds_toArray, List.set_cons_zero, List.set_cons_succ]
                  refine wpAnyH_take (i := 7) (oi := { dst := some 168, op := Op.fieldAddr 48 (Operand.tmp 167) 0, type := 0, pos := "laws_root_b1.go:105", after := #[{ on := 6, ground := Ground.data }], guard := none }) (v := .pointer (some ⟨b, o + k * 28, none⟩)) rfl (by kernel_rfl) (by kernel_rfl) (by kernel_rfl) (fun _ _ _ h => h) (Or.inl ⟨by rfl, by intro w hSw; go_simp⟩) (by assumption) ?_
                  simp only [Act.put, List.setIfInBounds_toArray, List.set_cons_zero, List.set_cons_succ]
                  refine wpAnyH_take (i := 8) (oi := { dst := some 169, op := Op.load 38 (Operand.tmp 168), type := 38, pos := "laws_root_b1.go:105", after := #[{ on := 7, ground := Ground.data }], guard := none }) (v := .agg (pcells (f k).peer).toArray) rfl (by kernel_rfl) (by kernel_rfl) (by kernel_rfl) (fun _ _ _ h => h) (yieldsIf_load_mid (by rfl) 38 (.tmp 168) rfl (b) (o + k * 28) rfl (pcells (f k).peer) _ (fun _ h => h.2) Try.underlying38 rfl Try.size38) (by assumption) ?_
                  simp only [Act.put, List.setIfInBounds_toArray, List.set_cons_zero, List.set_cons_succ]
                  refine wpAnyH_take (i := 9) (oi := { dst := some 170, op := Op.binOp BinOp.eql 38 (Operand.tmp 165) (Operand.tmp 169) 38, type := 4, pos := "laws_root_b1.go:105", after := #[{ on := 4, ground := Ground.data }, { on := 8, ground := Ground.data }], guard := none }) (v := .bool false) rfl (by kernel_rfl) (by kernel_rfl) (by kernel_rfl) (fun _ _ _ h => h) (Or.inl ⟨by rfl, by intro w hSw; go_simp⟩) (by assumption) ?_
                  simp only [Act.put, List.setIfInBounds_toArray, List.set_cons_zero, List.set_cons_succ]
                  refine wpAnyH_done (by kernel_rfl) ?_ _
                  go_wp2
                  go_roundw
                  case rel => exact ⟨y + 1, by omega, by go_num, HBx.out.drew⟩
                  case measure => simp [intOf]; omega
              · obtain rfl : y = k := by omega
                clear hBx
                go_wp2
                go_roundw
                case rel => exact ⟨y + 1, by omega, by go_num, HNew.out, HBx.out⟩
                case measure => simp [intOf]; omega

end Go.Proofs.Qxb6613544a
