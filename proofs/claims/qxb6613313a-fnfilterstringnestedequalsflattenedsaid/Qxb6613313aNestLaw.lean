/-
  THE PLAIN LAW OF THE NESTED FILTER: what its text is, and how long.
-/
import Derived.Test.Qxb6613313aNested
import Derived.Test.Qxb6613313aLawFive
namespace Go.Proofs.Qxb6613313a

theorem joinTail_len (r : List (List UInt8)) (sep : List UInt8) (hs : sep.length = 1) : (Lib.joinTail sep r).length = r.length + (r.map List.length).sum := by
  rw [tail_length, hs, Nat.mul_one]

/-- How long a join is. -/
theorem joinB_len (xs : List ByteArray) (sep : ByteArray) (hs : sep.data.toList.length = 1) : ((joinB xs sep).size : Int) = lens xs + (if 0 < xs.length then (xs.length : Int) - 1 else 0) := by
  cases xs with
  | nil => rfl
  | cons x xs =>
    have e : ((joinB (x :: xs) sep).size : Int) = ((Lib.join ((x :: xs).map (·.data.toList)) sep.data.toList).length : Int) := by
      unfold joinB
      simp [ByteArray.size]
    rw [e, List.map_cons, Lib.join_cons, List.length_append, joinTail_len _ _ hs]
    simp only [lens, List.length_map, List.length_cons]
    have := sum_lens xs
    rw [if_pos (by omega)]
    have e2 : x.data.toList.length = x.size := Array.length_toList
    omega

theorem txt_len (e : Ex) : ((txtP ⟨#[]⟩ e).size : Int) = elen e := by
  have h := joinB_len e.attr dot rfl
  have h3 : ((txtP ⟨#[]⟩ e).size : Int) = ((joinB e.attr dot).size : Int) + (e.op.size : Int) + (e.val.size : Int) := by
    unfold txtP
    rw [ByteArray.size_append, ByteArray.size_append, ByteArray.size_append]
    have : (⟨#[]⟩ : ByteArray).size = 0 := rfl
    omega
  unfold elen
  omega

def tot : List Ex → Int
  | [] => 0
  | e :: es => elen e + tot es

theorem tot_append : ∀ L M : List Ex, tot (L ++ M) = tot L + tot M
  | [], M => by simp [tot]
  | e :: L, M => by simp only [List.cons_append, tot, tot_append L M]; omega

theorem lens_txt : ∀ L : List Ex, lens (L.map (txtP ⟨#[]⟩)) = tot L
  | [] => rfl
  | e :: L => by simp only [List.map_cons, lens, tot, lens_txt L, txt_len]

theorem strOf_len (L : List Ex) : ((strOf L).size : Int) = tot L + (if 0 < L.length then (L.length : Int) - 1 else 0) := by
  unfold strOf
  rw [joinB_len _ _ rfl, lens_txt, List.length_map]

theorem sumTo_cons (c : Int) (x : Ex) (xs : List Ex) : ∀ k, sumTo c (x :: xs) (k + 1) = (c + elen x) + sumTo c xs k
  | 0 => by simp [sumTo]
  | k + 1 => by
    show sumTo c (x :: xs) (k + 1) + _ = _ + (sumTo c xs k + _)
    rw [sumTo_cons c x xs k]
    simp
    omega

theorem sumTo_all (c : Int) : ∀ es : List Ex, sumTo c es es.length = (es.length : Int) * c + tot es
  | [] => by simp [sumTo, tot]
  | e :: es => by
    rw [List.length_cons, sumTo_cons, sumTo_all c es]
    have h4 : ((es.length + 1 : Nat) : Int) * c = (es.length : Int) * c + c := by
      rw [Int.natCast_add, Int.add_mul]
      simp
    rw [h4]
    simp only [tot]
    omega

/-- Every one names an attribute. -/
def AllNamed (L : List Ex) : Prop := ∀ e ∈ L, 0 < e.attr.length

theorem allNamed_of {L : List Ex} (h : ∀ i, i < L.length → 0 < (L.getD i Ex.zero).attr.length) : AllNamed L := by
  intro e he
  obtain ⟨i, hi, rfl⟩ := List.mem_iff_getElem.1 he
  have := h i hi
  simpa [List.getD, hi] using this

theorem elen_pre (n : ByteArray) (e : Ex) (h : 0 < e.attr.length) : elen (pre n e) = elen e + ((n.size : Int) + 1) := by
  unfold elen pre
  simp only [lens, List.length_cons]
  rw [if_pos (by omega), if_pos h]
  omega

theorem tot_pre (n : ByteArray) : ∀ L : List Ex, AllNamed L → tot (L.map (pre n)) = (L.length : Int) * ((n.size : Int) + 1) + tot L
  | [], _ => by simp [tot]
  | e :: L, h => by
    have h1 := tot_pre n L (fun x hx => h x (List.mem_cons_of_mem _ hx))
    have h2 := elen_pre n e (h e (List.mem_cons_self ..))
    simp only [List.map_cons, tot, h1, h2, List.length_cons]
    have h4 : ((L.length + 1 : Nat) : Int) * ((n.size : Int) + 1) = (L.length : Int) * ((n.size : Int) + 1) + ((n.size : Int) + 1) := by
      rw [Int.natCast_add, Int.add_mul]
      simp
    rw [h4]
    omega

/-- A child's text is the flat expression's. -/
theorem txt_pre (n : ByteArray) (e : Ex) (h : 0 < e.attr.length) : txtP ((⟨#[]⟩ : ByteArray) ++ n ++ ⟨#[46]⟩) e = txtP ⟨#[]⟩ (pre n e) := by
  unfold txtP pre
  have hne : e.attr ≠ [] := fun hn => by rw [hn] at h; simp at h
  have hj : joinB (n :: e.attr) dot = n ++ dot ++ joinB e.attr dot := by
    have := joinB_cut [n] e.attr dot (by simp) hne
    rw [joinB_one] at this
    exact this
  rw [hj, ba_nil_app, ba_nil_app]

theorem map_pre (n : ByteArray) : ∀ L : List Ex, AllNamed L → L.map (txtP ((⟨#[]⟩ : ByteArray) ++ n ++ ⟨#[46]⟩)) = (L.map (pre n)).map (txtP ⟨#[]⟩)
  | [], _ => rfl
  | e :: L, h => by
    rw [List.map_cons, List.map_cons, List.map_cons, txt_pre n e (h e (List.mem_cons_self ..)), map_pre n L (fun x hx => h x (List.mem_cons_of_mem _ hx))]

/-- The flat filter's expressions. -/
def flatL (own : List Ex) (n1 : ByteArray) (L1 : List Ex) (n2 : ByteArray) (L2 : List Ex) : List Ex := own ++ L1.map (pre n1) ++ L2.map (pre n2)

theorem tree_text (own : List Ex) (n1 : ByteArray) (L1 : List Ex) (n2 : ByteArray) (L2 : List Ex) (h1 : AllNamed L1) (h2 : AllNamed L2) :
    joinB (own.map (txtP ⟨#[]⟩) ++ L1.map (txtP ((⟨#[]⟩ : ByteArray) ++ n1 ++ ⟨#[46]⟩)) ++ L2.map (txtP ((⟨#[]⟩ : ByteArray) ++ n2 ++ ⟨#[46]⟩))) ⟨#[44]⟩ = strOf (flatL own n1 L1 n2 L2) := by
  rw [map_pre n1 L1 h1, map_pre n2 L2 h2]
  unfold strOf flatL
  rw [List.map_append, List.map_append]

theorem flat_len (own : List Ex) (p : ByteArray) (c1 : List Ex) (q : ByteArray) (c2 : List Ex) (h1 : AllNamed c1) (h2 : AllNamed c2) :
    ((strOf (flatL own p c1 q c2)).size : Int) = nlen own p c1 q c2 := by
  rw [strOf_len]
  unfold flatL nlen
  rw [tot_append, tot_append, tot_pre p c1 h1, tot_pre q c2 h2, sumTo_all, sumTo_all, sumTo_all]
  simp only [List.length_append, List.length_map, Int.mul_zero]
  split <;> split <;> omega

theorem flat_len' (own : List Ex) (p : ByteArray) (c1 : List Ex) (q : ByteArray) (c2 : List Ex) (h1 : AllNamed c1) (h2 : AllNamed c2) :
    ((strOf (flatL own q c2 p c1)).size : Int) = nlen own p c1 q c2 := by
  rw [strOf_len]
  unfold flatL nlen
  rw [tot_append, tot_append, tot_pre p c1 h1, tot_pre q c2 h2, sumTo_all, sumTo_all, sumTo_all]
  simp only [List.length_append, List.length_map, Int.mul_zero]
  split <;> split <;> omega

end Go.Proofs.Qxb6613313a
