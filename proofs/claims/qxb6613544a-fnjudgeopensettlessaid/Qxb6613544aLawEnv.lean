/-
  THE LAW: WHAT STANDS BEHIND THE FIRST JUDGING.
-/
import Derived.Test.Qxb6613544aLawData
import Derived.Test.Qxb6613544aBuildJudge
namespace Go.Proofs.Qxb6613544a
open Go.RowKit

structure Env1 (w w2 : World) (len : Nat) (f : Nat → Lk) (period tick : Int) (hyst : Nat) (ticks : Int) (Fs : Nat → Nat) (es : Nat → Ent) (bb go : Nat) (vg : Value) (gs : List (Nat → Int)) (ms : List Nat) (lsb : Nat) : Prop where
  core : Core w2 w.heap.size len Fs es bb go vg period tick hyst ticks ms.length len (.slice (some ⟨go, 0, none⟩) ms.length len) w2 es vg gs (ms.map (fun j => ptrV (Fs j)))
  row : w2.ownsRow w.heap.size 35 1 (.slice (some ⟨lsb, 0, none⟩) len len) len ((List.range len).map (fun i => ptrV (Fs i)))
  ms : ms = (List.range len).filter (keepL es)
  settled : ∀ j, j < len → (es j).l.dropped = false → Settled period tick ticks (es j).l
  alike : ∀ i, i < len → (f i).Alike (es i).l
  off : ¬ Zone len Fs es bb go vg lsb
  below : Below w.heap.size w w2
  gl : gs.length ≤ 65536
  inj : ∀ i j, i < len → j < len → Fs i = Fs j → i = j

theorem env_of {w w1 w2 : World} {len len' : Nat} {f : Nat → Lk} {g : Nat → Nat → Int} {period tick : Int} {hyst : Nat} {ticks : Int} {Fs : Nat → Nat} {es es1 : Nat → Ent} {bb go : Nat} {vg vg1 : Value} {lsb : Nat} {gs1 : List (Nat → Int)} {ms : List Nat} {xs : List Value}
    (hM : Made w w1 len len' f g period tick hyst ticks Fs es bb go vg lsb) (hL : Lists es Fs (List.range len) period tick ticks ((List.range len').map g) (List.range len).length es1 gs1 ms xs)
    (hC : Core w1 w.heap.size len Fs es bb go vg period tick hyst ticks ms.length len (.slice (some ⟨go, 0, none⟩) ms.length len) w2 es1 vg1 gs1 (ms.map (fun j => ptrV (Fs j)))) (hS : Sized len len' f) :
    Env1 w w2 len f period tick hyst ticks Fs es1 bb go vg1 gs1 ms lsb where
  core := hC.restart
  row := hC.only.own hM.row (fun k hk => by cases hk; exact hM.off)
  ms := by
    have := hL.eq
    rw [List.take_length] at this
    exact this
  settled := fun j hj hd => hL.settled j (by rw [List.take_length]; exact List.mem_range.2 hj) hd
  alike := fun i hi => by
    have := hC.alike i hi
    rw [hM.link i hi] at this
    exact this
  off := fun hz => by
    rcases hC.new lsb hz with h | h
    · exact hM.off h
    · have := (hM.row.lt lsb rfl).2
      omega
  below := hM.below.trans (hC.only.below hM.below.size (fun x hx => by
    rcases hx with ⟨i, hi, hf⟩ | rfl | rfl | hx
    · have hE := hM.core.net.ent i hi
      rcases hf with rfl | hf | hf
      · exact hE.lo
      · exact (hE.mrow.lt x hf).1
      · exact (hE.prow.lt x hf).1
    · exact hM.core.box.lo
    · exact (hM.core.opn.lt _ rfl).1
    · exact (hM.core.gone.lt x hx).1))
  gl := by
    have h1 := hL.glen
    have h2 := hS.l
    have h3 := hS.g
    simp at h1
    omega
  inj := fun i j hi hj he => by
    by_cases e : i = j
    · exact e
    · exact absurd (.inl he) (hM.core.net.apart i j (Fs i) hi hj e (.inl rfl))

/-- The first judging. -/
theorem judge_first {w w1 : World} {len len' : Nat} {f : Nat → Lk} {g : Nat → Nat → Int} {period tick : Int} {hyst : Nat} {ticks : Int} {Fs : Nat → Nat} {es : Nat → Ent} {bb go : Nat} {vg : Value} {lsb : Nat}
    (hM : Made w w1 len len' f g period tick hyst ticks Fs es bb go vg lsb) (hS : Sized len len' f) (hc : Cfg period tick ticks) (hh : Fl 1 hyst) :
    Calls Try.prog 11 #[.pointer (some ⟨bb, 0, none⟩)] w1 fun e w2 => e = .returned (.tuple #[]) ∧ ∃ es1 vg1 gs1 ms, Env1 w w2 len f period tick hyst ticks Fs es1 bb go vg1 gs1 ms lsb := by
  obtain ⟨ks, hks⟩ : ∃ ks, ks = List.range len := ⟨_, rfl⟩
  have hl : ks.length = len := by rw [hks]; simp
  have h0 : Core w1 w.heap.size len Fs es bb go vg period tick hyst ticks ks.length len (.slice (some ⟨go, 0, none⟩) ks.length len) w1 es vg ((List.range len').map g) (ks.map (fun j => ptrV (Fs j))) := by
    rw [hl, hks]
    exact hM.core
  have hj := judgeOpen_any w.heap.size len Fs es bb go vg period tick hyst ticks ks len ((List.range len').map g) w1 h0 hc hh (by rw [hks]; exact List.nodup_range) (fun j hj => by rw [hks] at hj; exact List.mem_range.1 hj) (by rw [hl]; exact hS.l) (by have := hS.g; simp; omega)
  refine zzJudge_any bb w1 _ (hj.mono ?_)
  rintro e w2 ⟨rfl, es1, vg1, gs1, ms, xs, hL, hC⟩
  rw [hks] at hL
  exact ⟨rfl, es1, vg1, gs1, ms, env_of hM hL hC hS⟩

/-- What the second judging leaves. -/
structure After (w w2 w3 w4 : World) (len : Nat) (Fs : Nat → Nat) (es : Nat → Ent) (bb go : Nat) (gs : List (Nat → Int)) (ms : List Nat) (lsb : Nat) : Prop where
  c7 : w4.cell? ⟨bb, 7, none⟩ = some (.slice (some ⟨go, 0, none⟩) ms.length len)
  opn : w4.ownsRow w.heap.size 35 1 (.slice (some ⟨go, 0, none⟩) ms.length len) ms.length (ms.map (fun j => ptrV (Fs j)))
  gone : ∃ vg2, w4.cell? ⟨bb, 9, none⟩ = some vg2 ∧ w4.ownsRow w.heap.size 39 20 vg2 gs.length (grow gs)
  ent : ∀ i, i < len → ∃ vm vp, EntAt w4 w.heap.size (Fs i) (es i).l vm vp
  keep : Only (fun k => k < w2.heap.size) w3 w4
  row : w4.ownsRow w.heap.size 35 1 (.slice (some ⟨lsb, 0, none⟩) len len) len ((List.range len).map (fun i => ptrV (Fs i)))
  below : Below w.heap.size w w4

theorem judge_second {w w2 w3 : World} {len : Nat} {f : Nat → Lk} {period tick : Int} {hyst : Nat} {ticks : Int} {Fs : Nat → Nat} {es : Nat → Ent} {bb go : Nat} {vg : Value} {gs : List (Nat → Int)} {ms : List Nat} {lsb : Nat}
    (hE : Env1 w w2 len f period tick hyst ticks Fs es bb go vg gs ms lsb) (hB : Below w2.heap.size w2 w3) (hc : Cfg period tick ticks) (hh : Fl 1 hyst) (hlen : len ≤ 4096) :
    Calls Try.prog 11 #[.pointer (some ⟨bb, 0, none⟩)] w3 fun e w4 => e = .returned (.tuple #[]) ∧ After w w2 w3 w4 len Fs es bb go gs ms lsb := by
  have ho : Only (fun _ => False) w2 w3 := Only.ofBelow hB
  have h0 := (hE.core.later ho).restart
  have hmem : ∀ j ∈ ms, j < len ∧ keepL es j = true := fun j hj => by
    rw [hE.ms, List.mem_filter] at hj
    exact ⟨List.mem_range.1 hj.1, hj.2⟩
  have hml : ms.length ≤ len := by
    rw [hE.ms]
    exact Nat.le_trans (List.length_filter_le _ _) (by simp)
  have hnd : ms.Nodup := by
    rw [hE.ms]
    exact List.nodup_range.filter _
  have hj := judgeOpen_any w.heap.size len Fs es bb go vg period tick hyst ticks ms len gs w3 h0 hc hh hnd (fun j hj => (hmem j hj).1) (by omega) hE.gl
  refine zzJudge_any bb w3 _ (hj.mono ?_)
  rintro e w4 ⟨rfl, es2, vg2, gs2, ms2, xs, hL, hC⟩
  obtain ⟨s1, s2⟩ := hL.stay (fun j hj => by
    obtain ⟨a1, a2⟩ := hmem j hj
    refine hE.settled j a1 ?_
    unfold keepL at a2
    cases hd : (es j).l.dropped
    · rfl
    · rw [hd] at a2
      simp at a2)
  have hms : ms2 = ms := by
    have h1 := hL.eq
    rw [List.take_length] at h1
    rw [h1]
    refine List.filter_eq_self.2 (fun j hj => ?_)
    have h2 := (hmem j hj).2
    unfold keepL at h2 ⊢
    rw [s1 j]
    exact h2
  rw [hms] at hC
  rw [s2] at hC
  have hzl : ∀ x, Zone len Fs es bb go vg x → x < w2.heap.size := fun x hx => hE.core.zone_lt hx
  have hkeep : Only (fun k => k < w2.heap.size) w3 w4 := hC.only.mono (fun x hx => hzl x hx)
  refine ⟨rfl, hC.c7, hC.opn, ⟨vg2, hC.c9, hC.gone⟩, fun i hi => ?_, hkeep, ?_, ?_⟩
  · have := hC.net.ent i hi
    rw [s1 i] at this
    exact ⟨_, _, this⟩
  · exact hC.only.own (ho.own hE.row (fun _ _ hf => hf)) (fun k hk hz => by cases hk; exact hE.off hz)
  · have hb2 : Below w.heap.size w w3 := hE.below.trans (hB.mono hE.below.size)
    refine hb2.trans (hC.only.below hb2.size (fun x hx => ?_))
    rcases hx with ⟨i, hi, hf⟩ | rfl | rfl | hx
    · have hEn := hE.core.net.ent i hi
      rcases hf with rfl | hf | hf
      · exact hEn.lo
      · exact (hEn.mrow.lt x hf).1
      · exact (hEn.prow.lt x hf).1
    · exact hE.core.box.lo
    · exact (hE.core.opn.lt _ rfl).1
    · exact (hE.core.gone.lt x hx).1

end Go.Proofs.Qxb6613544a
