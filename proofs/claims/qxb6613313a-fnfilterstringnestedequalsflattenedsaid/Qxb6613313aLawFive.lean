/-
  FnFilterStringJoinsAtAnyCut: THE WALK.
-/
import Derived.Test.Qxb6613313aLeaf
import Derived.Test.Qxb6613313aSums
import Derived.Test.Qxb6613313aBounds
import Derived.Test.Qxb6613313aText
namespace Go.Proofs.Qxb6613313a
open Go.RowKit

theorem esizes_nonneg : ∀ L : List Ex, 0 ≤ esizes L
  | [] => Int.le_refl _
  | e :: L => by have := esizes_nonneg L; have := esize_nonneg e; simp only [esizes]; omega

theorem esizes_append : ∀ L M : List Ex, esizes (L ++ M) = esizes L + esizes M
  | [], M => by simp [esizes]
  | e :: L, M => by simp only [List.cons_append, esizes, esizes_append L M]; omega

theorem esizes_take (L : List Ex) (k : Nat) : esizes (L.take k) ≤ esizes L ∧ esizes (L.drop k) ≤ esizes L := by
  have h1 := esizes_append (L.take k) (L.drop k)
  rw [List.take_append_drop] at h1
  have h2 := esizes_nonneg (L.take k)
  have h3 := esizes_nonneg (L.drop k)
  omega

theorem esize_getD : ∀ (L : List Ex) (i : Nat), esize (L.getD i Ex.zero) ≤ esizes L
  | [], i => by simp [esizes, Ex.zero, esize, lens, ByteArray.size]
  | e :: L, 0 => by have := esizes_nonneg L; simp only [esizes]; simp; omega
  | e :: L, i + 1 => by
    have h1 := esize_getD L i
    have h2 := esize_nonneg e
    simp only [esizes]
    simp at h1 ⊢
    omega

/-- zzLeaf and String, one behind the other. -/
theorem leaf_str (B : Nat) (a : Option Addr) (len cap b o : Nat) (es : List Ex) (w : World) (hB : B ≤ w.heap.size) (hE : ERow B w a len cap b o es) (hN : len ≤ 1048576) (hS : esizes es ≤ 1048576) :
    Calls Try.prog 22 #[.slice a len cap] w fun e w' => ∃ F, e = .returned (.pointer (some ⟨F, 0, none⟩)) ∧ Below w.heap.size w w' ∧
      Calls Try.prog 23 #[.pointer (some ⟨F, 0, none⟩)] w' fun e w'' => e = .returned (.string (strOf es)) ∧ Below w'.heap.size w' w'' := by
  have hA : ∀ i, esize (es.getD i Ex.zero) ≤ 1048576 := fun i => Int.le_trans (esize_getD es i) hS
  have hl := hE.1
  refine (leaf_any B a len cap b o es w hB hE hN (fun i _ => hA i)).mono ?_
  rintro e w1 ⟨F, rfl, hL, hb⟩
  exact ⟨F, rfl, hb, string_leaf _ F es w1 hL (Nat.le_refl _) (by omega) (by omega) (fun i _ => by have := hA i; omega)⟩

theorem strOf_size (L : List Ex) : ((strOf L).size : Int) ≤ esizes L + (L.length : Int) := by
  have h1 := joinB_size (L.map (txtP ⟨#[]⟩)) ⟨#[44]⟩ rfl
  have h2 := lens_map_txt ⟨#[]⟩ L
  have e : ((⟨#[]⟩ : ByteArray).size : Int) = 0 := rfl
  rw [e, Int.mul_zero] at h2
  rw [List.length_map] at h1
  unfold strOf
  omega

theorem strOf_cut (L : List Ex) (n : Nat) : strOf L = strOf (L.take n) ++ (if 0 < n ∧ n < L.length then ⟨#[44]⟩ else ⟨#[]⟩) ++ strOf (L.drop n) := by
  unfold strOf
  rw [joinB_any (L.map (txtP ⟨#[]⟩)) n ⟨#[44]⟩, List.length_map, List.map_take, List.map_drop]

theorem strOf_one (e : Ex) : strOf [e] = txt e := by
  unfold strOf txt txtP
  rw [List.map_cons, List.map_nil, joinB_one, ba_nil_app]

/-- The first expression by itself: what its filter's String and zzExprText answer, in whatever later world. -/
theorem first_part {x : Addr} {len cap b o : Nat} {es : List Ex} {w : World} (hE : ERow w.heap.size w (some x) len cap b o es) (hN : len ≤ 1048576) (hS : esizes es ≤ 1048576) :
    Hid (0 < len → ∀ w', Below w.heap.size w w' → Calls Try.prog 22 #[.slice (some x) 1 cap] w' fun e w'' => ∃ F, e = .returned (.pointer (some ⟨F, 0, none⟩)) ∧ Below w.heap.size w w'' ∧
      Calls Try.prog 23 #[.pointer (some ⟨F, 0, none⟩)] w'' fun e w3 => e = .returned (.string (txt (es.getD 0 Ex.zero))) ∧ Below w.heap.size w w3) := by
  intro h0 w' hb
  have hl := hE.1
  have ht := (esizes_take es 1).1
  refine (leaf_str w.heap.size (some x) 1 cap b o (es.take 1) w' hb.size ((hE.take 1 h0).kept hb) (by omega) (by omega)).mono ?_
  rintro e w1 ⟨F, rfl, hb1, hc⟩
  have hb2 := hb.trans (hb1.mono hb.size)
  refine ⟨F, rfl, hb2, hc.mono ?_⟩
  rintro e w2 ⟨rfl, hb3⟩
  refine ⟨?_, hb2.trans (hb3.mono hb2.size)⟩
  have e1 : es.take 1 = [es.getD 0 Ex.zero] := by
    have := take_succ_getD es 0 (by omega)
    simpa using this
  rw [e1, strOf_one]

/-- The first expression's cells, and zzExprText of it, in whatever later world. -/
theorem first_text {x : Option Addr} {len cap b o : Nat} {es : List Ex} {w : World} (hE : ERow w.heap.size w x len cap b o es) (h0 : 0 < len) (hS : esizes es ≤ 1048576) :
    ∃ a1 l1 c1, Hid (∀ w', Below w.heap.size w w' → Calls Try.prog 24 #[.agg #[.slice a1 l1 c1, .string (es.getD 0 Ex.zero).op, .string (es.getD 0 Ex.zero).val]] w' fun e w'' => e = .returned (.string (txt (es.getD 0 Ex.zero))) ∧ Below w.heap.size w w'') ∧
      Hid (∀ w', Below w.heap.size w w' → w'.cell? ⟨b, o, none⟩ = some (.slice a1 l1 c1) ∧ w'.cell? ⟨b, o + 1, none⟩ = some (.string (es.getD 0 Ex.zero).op) ∧ w'.cell? ⟨b, o + 2, none⟩ = some (.string (es.getD 0 Ex.zero).val)) := by
  obtain ⟨_, _, _, h4, h5⟩ := hE
  have hb := (h4 h0).2
  obtain ⟨a1, l1, c1, b1, o1, g0, hs, g1, g2⟩ := h5 0 h0
  simp only [Nat.zero_mul, Nat.add_zero] at g0 g1 g2
  refine ⟨a1, l1, c1, fun w' hB => ?_, fun w' hB => ⟨(hB.cell (p := ⟨b, o, none⟩) hb).trans g0, (hB.cell (p := ⟨b, o + 1, none⟩) hb).trans g1, (hB.cell (p := ⟨b, o + 2, none⟩) hb).trans g2⟩⟩
  refine (exprText_any w.heap.size a1 l1 c1 b1 o1 (es.getD 0 Ex.zero) w' (hs.kept hB) hB.size (Int.le_trans (esize_getD es 0) hS)).mono ?_
  rintro e w2 ⟨rfl, hb2⟩
  exact ⟨rfl, hB.trans (hb2.mono hB.size)⟩

theorem ERow.none_left {B : Nat} {w : World} {a : Option Addr} {len cap b o : Nat} {es : List Ex} (h : ERow B w a len cap b o es) (a' : Option Addr) (n : Nat) (hn : len ≤ n) : ERow B w a' (len - n) 0 b o (es.drop n) := by
  have hl := h.1
  exact ⟨by simp; omega, by omega, Nat.zero_le _, fun hp => absurd hp (by omega), fun i hi => absurd hi (by omega)⟩

theorem ERow.rest {B : Nat} {w : World} {x : Addr} {len cap b o : Nat} {es : List Ex} (h : ERow B w (some x) len cap b o es) (n : Nat) (hn : n ≤ len) : ERow B w (some (x.add (n * 3))) (len - n) (cap - n) b (o + n * 3) (es.drop n) := by
  refine h.drop n hn (fun hlt => ?_)
  have hx := (h.2.2.2.1 (by omega)).1
  cases hx
  unfold Addr.add
  by_cases h0 : n * 3 = 0
  · rw [if_pos h0, h0]; rfl
  · rw [if_neg h0]

set_option maxHeartbeats 1600000 in
set_option maxRecDepth 10000 in
theorem law5 (x : Addr) (len cap b o : Nat) (es : List Ex) (k : Int) (w : World) (hk0 : (Lit.int .i64 k).wf = true) (hE : ERow w.heap.size w (some x) len cap b o es) :
    Calls Try.prog 5 #[.slice (some x) len cap, .int .i64 k] w fun e w' => e = .returned (.bool true) ∧ Below w.heap.size w w' := by
  have hcm := hE.2.2.1
  have hlc := hE.2.1
  unfold maxLen at hcm
  go_enter Try.func5, Try.ntmps5
  go_wp2_with fail
  refine (bytes20_any w.heap.size (some x) len cap b o es k w hE).mono ?_
  rintro e w' ⟨⟨z, rfl⟩, rfl⟩
  cases z with
  | false =>
    go_wp2
    go_ret
    exact ⟨rfl, Below.refl _ _⟩
  | true =>
    go_wp2_with fail
    refine (exprBytes_any w.heap.size (some x) len cap b o es 0 w (by omega) (by omega) hE).mono ?_
    rintro e w' ⟨⟨t, ok, rfl, hok⟩, rfl⟩
    cases ok with
    | false =>
      go_wp2
      go_ret
      exact ⟨rfl, Below.refl _ _⟩
    | true =>
      obtain ⟨ht, ht2⟩ := hok rfl
      have hl := hE.1
      have hs0 := esizes_nonneg es
      have hN : len ≤ 1048576 := by omega
      have hS : esizes es ≤ 1048576 := by omega
      clear ht ht2 hok hs0
      by_cases k0 : k < 0
      · go_wp2
        go_ret
        exact ⟨rfl, Below.refl _ _⟩
      · by_cases k1 : (len : Int) < k
        · go_wp2
          go_ret
          exact ⟨rfl, Below.refl _ _⟩
        · obtain ⟨n, rfl⟩ : ∃ n : Nat, k = (n : Int) := ⟨k.toNat, by omega⟩
          have hn : n ≤ len := by omega
          clear k0 k1
          by_cases hcn : cap = n
          · obtain rfl : n = cap := hcn.symm
            go_wp2_with fail
            refine (leaf_str w.heap.size (some x) len n b o es w (Nat.le_refl _) hE hN hS).mono ?_
            rintro e w1 ⟨F1, rfl, hB1, hc1⟩
            have HC1 : Hid _ := hc1
            clear hc1
            go_wp2_with fail
            refine Calls.mono HC1.out ?_
            rintro e w2 ⟨rfl, hB2⟩
            have hB2' := hB1.trans (hB2.mono hB1.size)
            clear HC1 hB1 hB2
            have hT := (esizes_take es n).1
            have hD := (esizes_take es n).2
            go_wp2_with fail
            refine (leaf_str w.heap.size (some x) n n b o (es.take n) w2 hB2'.size ((hE.take n hn).kept hB2') (by omega) (by omega)).mono ?_
            rintro e w3 ⟨F2, rfl, hB3, hc3⟩
            have HC3 : Hid _ := hc3
            clear hc3
            go_wp2_with fail
            refine Calls.mono HC3.out ?_
            rintro e w4 ⟨rfl, hB4⟩
            have hB4' := hB2'.trans ((hB3.trans (hB4.mono hB3.size)).mono hB2'.size)
            clear HC3 hB3 hB4 hB2'
            have hR5 : ERow w.heap.size w4 (some x) len n b o es := hE.kept hB4'
            go_wp2_with fail
            have hR6 : ERow w.heap.size w4 (some x) 0 0 b o (es.drop n) := by
              have := hR5.none_left (some x) n (by omega)
              rwa [show len - n = 0 by omega] at this
            refine (leaf_str w.heap.size (some x) 0 0 b o (es.drop n) w4 hB4'.size hR6 (by omega) (by omega)).mono ?_
            clear hR6
            rintro e w5 ⟨F3, rfl, hB5, hc5⟩
            have HC5 : Hid _ := hc5
            clear hc5 hR5
            go_wp2_with fail
            refine Calls.mono HC5.out ?_
            rintro e w6 ⟨rfl, hB6⟩
            have hB6' := hB4'.trans ((hB5.trans (hB6.mono hB5.size)).mono hB4'.size)
            clear HC5 hB5 hB6 hB4'
            have hz1 := strOf_size (es.take n)
            have hz2 := strOf_size (es.drop n)
            have hE6 := hE.kept hB6'
            have hcut := strOf_cut es n
            have hlt1 : (es.take n).length ≤ 1048576 := by simp; omega
            have hlt2 : (es.drop n).length ≤ 1048576 := by simp; omega
            rw [hcut, hl]
            have hT' : (strOf (es.take n)).size ≤ 4194304 := by omega
            have hD' : (strOf (es.drop n)).size ≤ 4194304 := by omega
            clear hz1 hz2 hcut hlt1 hlt2 hT hD
            have HF := first_part hE hN hS
            generalize strOf (es.take n) = T at hT' ⊢
            generalize strOf (es.drop n) = D at hD' ⊢
            by_cases h0 : 0 < len
            · obtain ⟨hx, hbw⟩ := hE.2.2.2.1 h0
              cases hx
              obtain ⟨a1, l1, c1, HX, HQ⟩ := first_text hE h0 hS
              have hB6d := hB6'.drew
              obtain ⟨q0, q1, q2⟩ := HQ.out w6 hB6'
              have hcl := hE.2.1
              have hc1 : (1 : Int) ≤ ((n : Nat) : Int) := by omega
              have hl1 : (1 : Int) ≤ (len : Int) := by omega
              clear hE hE6 hcl
              generalize es.getD 0 Ex.zero = e1 at *
              by_cases hsep : 0 < n ∧ n < len
              · exact absurd hsep.2 (by omega)
              · rw [if_neg hsep]
                go_wp2_with fail
                go_region_held3 (fun w' => w'.cell? ⟨b, o, none⟩ = some (.slice a1 l1 c1) ∧ w'.cell? ⟨b, o + 1, none⟩ = some (.string e1.op) ∧ w'.cell? ⟨b, o + 2, none⟩ = some (.string e1.val)) (go_keep) (first | (go_at_call 22; refine Calls.mono (HF.out h0 _ (by assumption)) ?_; rintro e w7 ⟨F7, rfl, hB7, hc7⟩; have HC7 : Hid _ := hc7; clear hc7; obtain ⟨s0, s1, s2⟩ := HQ.out w7 hB7) | (go_at_call 23; refine Calls.mono HC7.out ?_; rintro e w8 ⟨rfl, hB8⟩; obtain ⟨r0, r1, r2⟩ := HQ.out w8 hB8) | (go_at_call 24; refine Calls.mono (HX.out _ (by assumption)) ?_; rintro e w9 ⟨rfl, hB9⟩; obtain ⟨q0, q1, q2⟩ := HQ.out w9 hB9))
                go_wp2
                go_ret
                exact ⟨rfl, hB9⟩
            · obtain rfl : len = 0 := by omega
              obtain rfl : n = 0 := by omega
              rw [if_neg (by omega)]
              go_wp2
              go_ret
              exact ⟨rfl, hB6'⟩
          · go_wp2_with fail
            refine (leaf_str w.heap.size (some x) len cap b o es w (Nat.le_refl _) hE hN hS).mono ?_
            rintro e w1 ⟨F1, rfl, hB1, hc1⟩
            have HC1 : Hid _ := hc1
            clear hc1
            go_wp2_with fail
            refine Calls.mono HC1.out ?_
            rintro e w2 ⟨rfl, hB2⟩
            have hB2' := hB1.trans (hB2.mono hB1.size)
            clear HC1 hB1 hB2
            have hT := (esizes_take es n).1
            have hD := (esizes_take es n).2
            go_wp2_with fail
            refine (leaf_str w.heap.size (some x) n cap b o (es.take n) w2 hB2'.size ((hE.take n hn).kept hB2') (by omega) (by omega)).mono ?_
            rintro e w3 ⟨F2, rfl, hB3, hc3⟩
            have HC3 : Hid _ := hc3
            clear hc3
            go_wp2_with fail
            refine Calls.mono HC3.out ?_
            rintro e w4 ⟨rfl, hB4⟩
            have hB4' := hB2'.trans ((hB3.trans (hB4.mono hB3.size)).mono hB2'.size)
            clear HC3 hB3 hB4 hB2'
            have hR5 : ERow w.heap.size w4 (some x) len cap b o es := hE.kept hB4'
            go_wp2_with fail
            refine (leaf_str w.heap.size (some (x.add (n * 3))) (len - n) (cap - n) b (o + n * 3) (es.drop n) w4 hB4'.size (hR5.rest n hn) (by omega) (by omega)).mono ?_
            rintro e w5 ⟨F3, rfl, hB5, hc5⟩
            have HC5 : Hid _ := hc5
            clear hc5 hR5
            go_wp2_with fail
            refine Calls.mono HC5.out ?_
            rintro e w6 ⟨rfl, hB6⟩
            have hB6' := hB4'.trans ((hB5.trans (hB6.mono hB5.size)).mono hB4'.size)
            clear HC5 hB5 hB6 hB4'
            have hz1 := strOf_size (es.take n)
            have hz2 := strOf_size (es.drop n)
            have hE6 := hE.kept hB6'
            have hcut := strOf_cut es n
            have hlt1 : (es.take n).length ≤ 1048576 := by simp; omega
            have hlt2 : (es.drop n).length ≤ 1048576 := by simp; omega
            rw [hcut, hl]
            have hT' : (strOf (es.take n)).size ≤ 4194304 := by omega
            have hD' : (strOf (es.drop n)).size ≤ 4194304 := by omega
            clear hz1 hz2 hcut hlt1 hlt2 hT hD
            have HF := first_part hE hN hS
            generalize strOf (es.take n) = T at hT' ⊢
            generalize strOf (es.drop n) = D at hD' ⊢
            by_cases h0 : 0 < len
            · obtain ⟨hx, hbw⟩ := hE.2.2.2.1 h0
              cases hx
              obtain ⟨a1, l1, c1, HX, HQ⟩ := first_text hE h0 hS
              have hB6d := hB6'.drew
              obtain ⟨q0, q1, q2⟩ := HQ.out w6 hB6'
              have hcl := hE.2.1
              have hc1 : (1 : Int) ≤ ((cap : Nat) : Int) := by omega
              have hl1 : (1 : Int) ≤ (len : Int) := by omega
              clear hE hE6 hcl
              generalize es.getD 0 Ex.zero = e1 at *
              by_cases hsep : 0 < n ∧ n < len
              · rw [if_pos hsep]
                obtain ⟨hs1, hs2⟩ := hsep
                go_wp2_with fail
                go_region_held3 (fun w' => w'.cell? ⟨b, o, none⟩ = some (.slice a1 l1 c1) ∧ w'.cell? ⟨b, o + 1, none⟩ = some (.string e1.op) ∧ w'.cell? ⟨b, o + 2, none⟩ = some (.string e1.val)) (go_keep) (first | (go_at_call 22; refine Calls.mono (HF.out h0 _ (by assumption)) ?_; rintro e w7 ⟨F7, rfl, hB7, hc7⟩; have HC7 : Hid _ := hc7; clear hc7; obtain ⟨s0, s1, s2⟩ := HQ.out w7 hB7) | (go_at_call 23; refine Calls.mono HC7.out ?_; rintro e w8 ⟨rfl, hB8⟩; obtain ⟨r0, r1, r2⟩ := HQ.out w8 hB8) | (go_at_call 24; refine Calls.mono (HX.out _ (by assumption)) ?_; rintro e w9 ⟨rfl, hB9⟩; obtain ⟨q0, q1, q2⟩ := HQ.out w9 hB9))
                go_wp2
                go_ret
                exact ⟨rfl, hB9⟩
              · rw [if_neg hsep]
                by_cases hn0 : 0 < n
                · have hn1 : ¬ n < len := fun h => hsep ⟨hn0, h⟩
                  go_wp2_with fail
                  go_region_held3 (fun w' => w'.cell? ⟨b, o, none⟩ = some (.slice a1 l1 c1) ∧ w'.cell? ⟨b, o + 1, none⟩ = some (.string e1.op) ∧ w'.cell? ⟨b, o + 2, none⟩ = some (.string e1.val)) (go_keep) (first | (go_at_call 22; refine Calls.mono (HF.out h0 _ (by assumption)) ?_; rintro e w7 ⟨F7, rfl, hB7, hc7⟩; have HC7 : Hid _ := hc7; clear hc7; obtain ⟨s0, s1, s2⟩ := HQ.out w7 hB7) | (go_at_call 23; refine Calls.mono HC7.out ?_; rintro e w8 ⟨rfl, hB8⟩; obtain ⟨r0, r1, r2⟩ := HQ.out w8 hB8) | (go_at_call 24; refine Calls.mono (HX.out _ (by assumption)) ?_; rintro e w9 ⟨rfl, hB9⟩; obtain ⟨q0, q1, q2⟩ := HQ.out w9 hB9))
                  go_wp2
                  go_ret
                  exact ⟨rfl, hB9⟩
                · go_wp2_with fail
                  go_region_held3 (fun w' => w'.cell? ⟨b, o, none⟩ = some (.slice a1 l1 c1) ∧ w'.cell? ⟨b, o + 1, none⟩ = some (.string e1.op) ∧ w'.cell? ⟨b, o + 2, none⟩ = some (.string e1.val)) (go_keep) (first | (go_at_call 22; refine Calls.mono (HF.out h0 _ (by assumption)) ?_; rintro e w7 ⟨F7, rfl, hB7, hc7⟩; have HC7 : Hid _ := hc7; clear hc7; obtain ⟨s0, s1, s2⟩ := HQ.out w7 hB7) | (go_at_call 23; refine Calls.mono HC7.out ?_; rintro e w8 ⟨rfl, hB8⟩; obtain ⟨r0, r1, r2⟩ := HQ.out w8 hB8) | (go_at_call 24; refine Calls.mono (HX.out _ (by assumption)) ?_; rintro e w9 ⟨rfl, hB9⟩; obtain ⟨q0, q1, q2⟩ := HQ.out w9 hB9))
                  go_wp2
                  go_ret
                  exact ⟨rfl, hB9⟩
            · obtain rfl : len = 0 := by omega
              obtain rfl : n = 0 := by omega
              rw [if_neg (by omega)]
              go_wp2
              go_ret
              exact ⟨rfl, hB6'⟩

end Go.Proofs.Qxb6613313a
