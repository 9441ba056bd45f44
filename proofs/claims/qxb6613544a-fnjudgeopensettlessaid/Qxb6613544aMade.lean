/-
  buildJudge: WHAT STANDS AT ITS END.
-/
import Derived.Test.Qxb6613544aBuildData
import Derived.Test.Qxb6613544aPremise
import Derived.Test.Qxb6613544aBytes
namespace Go.Proofs.Qxb6613544a
open Go.RowKit

/-- What buildJudge leaves. -/
structure Made (w w' : World) (len len' : Nat) (f : Nat → Lk) (g : Nat → Nat → Int) (period tick : Int) (hyst : Nat) (ticks : Int) (Fs : Nat → Nat) (es : Nat → Ent) (bb go : Nat) (vg : Value) (lsb : Nat) : Prop where
  row : w'.ownsRow w.heap.size 35 1 (.slice (some ⟨lsb, 0, none⟩) len len) len ((List.range len).map (fun i => ptrV (Fs i)))
  core : Core w' w.heap.size len Fs es bb go vg period tick hyst ticks len len (.slice (some ⟨go, 0, none⟩) len len) w' es vg ((List.range len').map g) ((List.range len).map (fun i => ptrV (Fs i)))
  link : ∀ i, i < len → (es i).l = f i
  off : ¬ Zone len Fs es bb go vg lsb
  below : Below w.heap.size w w'

theorem Built.later {w wr wx : World} {B k : Nat} {f : Nat → Lk} {Fs : Nat → Nat} {es : Nat → Ent} {lsb cap : Nat} (h : Built w wr B k f Fs es lsb cap) (ho : Only (fun _ => False) wr wx) : Built w wx B k f Fs es lsb cap where
  ent := fun i hi => (h.ent i hi).kept ho (fun _ _ hf => hf)
  link := h.link
  apart := h.apart
  off := h.off
  row := ho.own h.row (fun _ _ hf => hf)
  below := h.below.trans (ho.below h.size (fun _ hf => hf.elim))
  size := Nat.le_trans h.size ho.size

theorem grow_range_succ (g : Nat → Nat → Int) (j : Nat) : grow ((List.range (j + 1)).map g) = grow ((List.range j).map g) ++ pcells (g j) := by
  rw [List.range_succ, List.map_append, grow_append]
  show _ ++ (pcells (g j) ++ []) = _
  rw [List.append_nil]

theorem EntAt.peerAt {w : World} {B F : Nat} {l : Lk} {vm vp : Value} (h : EntAt w B F l vm vp) : w.rangeAt F 0 (pcells l.peer) := fun j v hv => by
  rw [Nat.zero_add]
  refine h.cell j v ?_
  have hj : j < 20 := (List.getElem?_eq_some_iff.1 hv).1
  rw [← hv]
  match j, hj with
  | 0, _ | 1, _ | 2, _ | 3, _ | 4, _ | 5, _ | 6, _ | 7, _ | 8, _ | 9, _ | 10, _ | 11, _ | 12, _ | 13, _ | 14, _ | 15, _ | 16, _ | 17, _ | 18, _ | 19, _ => rfl

/-- The world behind ZZnewBeaconing. -/
def boxed (w3 : World) (period tick : Int) (hyst : Nat) (ticks : Int) (vo vg : Value) : World := (w3.alloc (.map #[] 0)).alloc (.cells (boxCells period tick hyst ticks w3.heap.size vo vg).toArray 76)

theorem boxed_only (w3 : World) (period tick : Int) (hyst : Nat) (ticks : Int) (vo vg : Value) : Only (fun _ => False) w3 (boxed w3 period tick hyst ticks vo vg) := ((Only.refl _ _).alloc _).alloc _
theorem boxed_size (w3 : World) (period tick : Int) (hyst : Nat) (ticks : Int) (vo vg : Value) : (boxed w3 period tick hyst ticks vo vg).heap.size = w3.heap.size + 2 := by simp [boxed]
theorem boxed_cell (w3 : World) (period tick : Int) (hyst : Nat) (ticks : Int) (vo vg : Value) (j : Nat) (u : Value) (h : (boxCells period tick hyst ticks w3.heap.size vo vg)[j]? = some u) : (boxed w3 period tick hyst ticks vo vg).cell? ⟨w3.heap.size + 1, j, none⟩ = some u := by
  have h1 := cells_new (w3.alloc (.map #[] 0)) (boxCells period tick hyst ticks w3.heap.size vo vg) 76 j u h
  have e1 : (w3.alloc (.map #[] 0)).heap.size = w3.heap.size + 1 := by simp
  rw [e1, Addr.add_mid, Nat.zero_add] at h1
  exact h1
theorem boxed_frozen (w3 : World) (period tick : Int) (hyst : Nat) (ticks : Int) (vo vg : Value) (j : Nat) : (boxed w3 period tick hyst ticks vo vg).frozen? ⟨w3.heap.size + 1, j, none⟩ = false := by
  have hblk := heap_alloc_new (w3.alloc (.map #[] 0)) (.cells (boxCells period tick hyst ticks w3.heap.size vo vg).toArray 76)
  have e1 : (w3.alloc (.map #[] 0)).heap.size = w3.heap.size + 1 := by simp
  rw [e1] at hblk
  unfold World.frozen? boxed
  rw [hblk]
  simp
theorem boxed_map (w3 : World) (period tick : Int) (hyst : Nat) (ticks : Int) (vo vg : Value) : AMap (boxed w3 period tick hyst ticks vo vg) w3.heap.size := (AMap.made w3).kept (S := fun _ => False) ((Only.refl _ _).alloc _) (fun hf => hf)

theorem made_of {w W0 wc w3 wx : World} {k len' : Nat} {f : Nat → Lk} {g : Nat → Nat → Int} {period tick : Int} {hyst : Nat} {ticks : Int} {Fs : Nat → Nat} {es : Nat → Ent} {lsb : Nat} {vg : Value}
    (hBt : Built w W0 w.heap.size k f Fs es lsb k) (hBc : Built w wc w.heap.size k f Fs es lsb k) (hgo : wc.ownsRow w.heap.size 39 20 vg len' (grow ((List.range len').map g))) (hgb : ∀ x, vg.ownBlock = some x → W0.heap.size ≤ x) (hoc : Only (fun _ => False) W0 wc)
    (h3 : w3.ownsRow wc.heap.size 35 1 (.slice (some ⟨wc.heap.size, 0, none⟩) k k) k ((List.range k).map (fun i => ptrV (Fs i)))) (hB3 : Below wc.heap.size wc w3)
    (hx : Only (fun x => x = w3.heap.size) (boxed w3 period tick hyst ticks (.slice (some ⟨wc.heap.size, 0, none⟩) k k) vg) wx) (hS : Sized k len' f) (hF : ∀ i, i < k → Fine (f i) ticks) :
    Made w wx k len' f g period tick hyst ticks Fs es (w3.heap.size + 1) wc.heap.size vg lsb := by
  have s0 := hBt.size
  have s1 := hoc.size
  have s3 := hB3.size
  have hlsb : lsb < W0.heap.size := (hBt.row.lt lsb rfl).2
  have hob : wc.heap.size < w3.heap.size := (h3.lt _ rfl).2
  have o3 : Only (fun _ => False) wc w3 := Only.ofBelow hB3
  have o5 := boxed_only w3 period tick hyst ticks (.slice (some ⟨wc.heap.size, 0, none⟩) k k) vg
  have z5 := boxed_size w3 period tick hyst ticks (.slice (some ⟨wc.heap.size, 0, none⟩) k k) vg
  have o3x : Only (fun x => x = w3.heap.size) w3 wx := (o5.mono (fun _ hf => hf.elim)).trans hx (fun _ h => .inl h)
  have ocx : Only (fun x => x = w3.heap.size) wc wx := (o3.mono (fun _ hf => hf.elim)).trans o3x (fun _ h => .inl h)
  have hfl : ∀ i x, i < k → (es i).foot (Fs i) x → x < W0.heap.size := fun i x hi hf => (hBt.ent i hi).foot_lt hf
  have hgl : ∀ x, vg.ownBlock = some x → x < wc.heap.size := fun x hx => (hgo.lt x hx).2
  have hbx : ¬ w3.heap.size + 1 = w3.heap.size := by omega
  have hbs : w3.heap.size + 1 < (boxed w3 period tick hyst ticks (.slice (some ⟨wc.heap.size, 0, none⟩) k k) vg).heap.size := by omega
  have hc : ∀ j u, (boxCells period tick hyst ticks w3.heap.size (.slice (some ⟨wc.heap.size, 0, none⟩) k k) vg)[j]? = some u → wx.cell? ⟨w3.heap.size + 1, j, none⟩ = some u := fun j u hu => (hx.cell (p := ⟨w3.heap.size + 1, j, none⟩) hbs hbx).trans (boxed_cell _ _ _ _ _ _ _ j u hu)
  refine ⟨?_, ⟨⟨?_, hBc.apart, ?_, ?_, ?_, ?_, ?_, by omega⟩, ?_, hc 7 _ rfl, hc 9 _ rfl, ?_, ?_, Only.refl _ _, fun _ h => .inl h, ?_, fun _ _ => ⟨rfl, rfl, rfl, rfl, rfl, rfl⟩⟩, hBc.link, ?_, ?_⟩
  · exact ocx.own hBc.row (fun x hx hc => by have e : lsb = x := Option.some.inj hx; omega)
  · intro i hi
    exact (hBc.ent i hi).kept ocx (fun x hf hc => by have := hfl i x hi hf; omega)
  · intro i hi hf
    have := hfl i _ hi hf
    omega
  · intro i hi hf
    have := hfl i _ hi hf
    omega
  · intro i x hi hg hf
    have a1 := hfl i _ hi hf
    have a2 := hgb x hg
    omega
  · intro e
    have := hgl _ e
    omega
  · intro e
    have := hgl _ e
    omega
  · exact ⟨by omega, by have := hx.size; omega, hc 0 _ rfl, hc 1 _ rfl, hc 2 _ rfl, hc 4 _ rfl, fun j => (hx.frozen (p := ⟨w3.heap.size + 1, j, none⟩) hbs hbx).trans (boxed_frozen _ _ _ _ _ _ _ j)⟩
  · exact own_mono (o3x.own h3 (fun x hx hc => by have e : wc.heap.size = x := Option.some.inj hx; omega)) (by omega)
  · have e : ((List.range len').map g).length = len' := by simp
    rw [e]
    exact ocx.own hgo (fun x hx hc => by have := hgl x hx; omega)
  · intro i hi
    rw [hBc.link i hi]
    have h1 := hF i hi
    have h2 := hS.p i hi
    exact ⟨h1.ok, h1.m6, 1, h1.loss, by omega⟩
  · rintro (⟨i, hi, hf⟩ | h | h | h)
    · exact hBc.off i hi hf
    · omega
    · omega
    · have := hgb lsb h
      omega
  · exact hBc.below.trans ((ocx.below (B := w.heap.size) (by omega) (fun x hx => by omega)))

end Go.Proofs.Qxb6613544a
