import Derived.Test.YoeetwSort
import Derived.Test.YoeetwShared
import Derived.Test.YoeetwStack
import Derived.Test.YoeetwMatches
namespace Go.Proofs.Yoeetw
open Go.RowKit

/-! What FnNames.. share: the list of names as cells, its copy, frames of fresh blocks. -/

def nth (L : List ByteArray) (k : Nat) : ByteArray := L.getD k ⟨#[]⟩

theorem nth_mem (L : List ByteArray) (s : ByteArray) : (∃ i, i < L.length ∧ nth L i = s) ↔ s ∈ L := by
  unfold nth
  rw [List.mem_iff_getElem]
  constructor
  · rintro ⟨i, hi, e⟩
    exact ⟨i, hi, by rw [← e, List.getD_eq_getElem?_getD, List.getElem?_eq_getElem hi]; rfl⟩
  · rintro ⟨i, hi, e⟩
    exact ⟨i, hi, by rw [← e, List.getD_eq_getElem?_getD, List.getElem?_eq_getElem hi]; rfl⟩

theorem nth_inj {L : List ByteArray} (h : L.Nodup) : ∀ i j, i < L.length → j < L.length → nth L i = nth L j → i = j := by
  intro i j hi hj e
  unfold nth at e
  rw [List.getD_eq_getElem?_getD, List.getD_eq_getElem?_getD, List.getElem?_eq_getElem hi, List.getElem?_eq_getElem hj] at e
  exact (List.getElem?_inj hi h).1 (by rw [List.getElem?_eq_getElem hi, List.getElem?_eq_getElem hj]; exact congrArg some e)

/-- The row of names, as a slice value and its cells. -/
theorem owns_form {w : World} {base : Nat} {v : Value} {L : List ByteArray} (h : w.ownsRow base 9 1 v L.length (L.map .string)) :
    ∃ a cap, v = .slice a L.length cap ∧ ∀ k, k < L.length → ∃ g, a = some ⟨g, 0, none⟩ ∧ g < w.heap.size ∧ w.cell? ⟨g, k, none⟩ = some (.string (nth L k)) := by
  rcases h.2 with ⟨e, e0⟩ | ⟨g, cap, cur, e, hb, hg, h1, h2, h3, h4⟩
  · refine ⟨none, 0, by rw [e, e0], fun k hk => by omega⟩
  · refine ⟨some ⟨g, 0, none⟩, cap, e, fun k hk => ⟨g, rfl, (Array.getElem?_eq_some_iff.1 hg).1, ?_⟩⟩
    rw [cell_of_obj hg]
    have : (cur.toList.take (L.length * 1))[k]? = (L.map Value.string)[k]? := by rw [h4]
    rw [List.getElem?_take, if_pos (by omega), Array.getElem?_toList, List.getElem?_map] at this
    unfold nth
    rw [this, List.getD_eq_getElem?_getD, List.getElem?_eq_getElem hk]
    rfl

/-- L's first k, copied. -/
def copyf (a : Nat → ByteArray) (k : Nat) : Nat → ByteArray := fun j => if j < k then a j else ⟨#[]⟩

theorem copyf_step (a : Nat → ByteArray) (k j : Nat) : seth (copyf a k) k (a k) j = copyf a (k + 1) j := by
  unfold seth copyf
  by_cases e : j = k
  · rw [if_pos e, if_pos (by omega), e]
  · rw [if_neg e]
    by_cases e' : j < k
    · rw [if_pos e', if_pos (by omega)]
    · rw [if_neg e', if_neg (by omega)]

/-- A block that w0 did not have is written. -/
theorem Frm.fresh {w0 w w' : World} {R : Nat} (h : Frm (fun _ => False) w0 w) (hR : w0.heap.size ≤ R) (k : Frm (fun b => b = R) w w') : Frm (fun _ => False) w0 w' :=
  ⟨k.os.trans h.os, k.tape.trans h.tape, k.output.trans h.output, Nat.le_trans h.size k.size,
    fun i hi ho => (k.block i (Nat.lt_of_lt_of_le hi h.size) (by omega)).trans (h.block i hi ho)⟩

theorem Frm.cell {w w' : World} {own : Nat → Prop} (h : Frm own w w') {p : Addr} {v : Value} (hc : w.cell? p = some v) (ho : ¬ own p.block) : w'.cell? p = some v :=
  (World.cell?_of_block (h.block p.block (World.block_lt_of_cell? _ _ hc) ho)).trans hc

theorem Sym.grow {w w' : World} {p : Nat} {nm sc : ByteArray} {ix : Int} (h : Sym w p nm sc ix) (hf : Frm (fun _ => False) w w') : Sym w' p nm sc ix := by
  unfold Sym at h ⊢
  rw [hf.block p (Array.getElem?_eq_some_iff.1 h).1 (fun x => x)]; exact h

theorem fAt_some (ss : Nat → ByteArray) (xs : List Nat) (s : ByteArray) : ∀ k, (fAt ss xs k s).isSome → ∃ j, j < k ∧ ss j = s := by
  intro k
  induction k with
  | zero => intro h; simp [fAt] at h
  | succ k ih =>
    intro h
    simp only [fAt] at h
    unfold fset at h
    by_cases e : s = ss k
    · exact ⟨k, by omega, e.symm⟩
    · rw [if_neg e] at h
      obtain ⟨j, hj, hx⟩ := ih h
      exact ⟨j, by omega, hx⟩

/-- The list of the first k names. -/
def namesOf (ss : Nat → ByteArray) (k : Nat) : List ByteArray := (List.range k).map ss

theorem namesOf_len (ss : Nat → ByteArray) (k : Nat) : (namesOf ss k).length = k := by simp [namesOf]
theorem namesOf_mem (ss : Nat → ByteArray) (k : Nat) (s : ByteArray) : s ∈ namesOf ss k ↔ ∃ j, j < k ∧ ss j = s := by
  simp [namesOf]

theorem defS_small1 {S : Nat → Tab} {k : Nat} (h : Small S 1 (k : Int)) : Small (defS S 0) 1 ((k + 1 : Nat) : Int) := by
  have := defS_small h 0
  rw [Int.natCast_add]; exact this

/-- The root's state behind k definitions. -/
structure RS (w wr : World) (T : Nat → Nat) (bs : Nat → Bool) (ss : Nat → ByteArray) (k : Nat) (S : Nat → Tab) (F : Nat → ByteArray → Option Nat) (xs ps : List Nat) : Prop where
  tabs : Tabs wr w.heap.size 1 T S F xs
  xl : xs.length ≤ k
  small : Small S 1 (k : Int)
  pl : ps.length = k
  f0 : F 0 = fAt ss ps k
  sym : ∀ j, j < k → ∃ ix, Sym wr (ps.getD j 0) (ss j) (if bs j = true then scB else scG) ix
  below : Below w.heap.size w wr

theorem RS.next {w wr w2 : World} {T : Nat → Nat} {bs : Nat → Bool} {ss : Nat → ByteArray} {k : Nat} {S S2 : Nat → Tab} {F : Nat → ByteArray → Option Nat} {xs ps xs2 : List Nat} (h : RS w wr T bs ss k S F xs ps) {ix : Int}
    (hsy : Sym w2 wr.heap.size (ss k) (if bs k = true then scB else scG) ix) (ht : Tabs w2 w.heap.size 1 T S2 (updF F 0 (ss k) wr.heap.size) xs2) (hxl : xs2.length ≤ k + 1) (hsm : Small S2 1 ((k + 1 : Nat) : Int)) (hfk : FK w.heap.size wr w2) :
    RS w w2 T bs ss (k + 1) S2 (updF F 0 (ss k) wr.heap.size) xs2 (ps ++ [wr.heap.size]) := by
  refine ⟨ht, hxl, hsm, by simp [h.pl], ?_, fun j hj => ?_, h.below.trans (FK.below hfk h.below.size)⟩
  · have e1 : updF F 0 (ss k) wr.heap.size 0 = fset (F 0) (ss k) wr.heap.size := by simp [updF]
    rw [e1, h.f0]
    simp only [fAt]
    rw [fAt_append _ _ _ _ (by rw [h.pl]; exact Nat.le_refl _)]
    rw [show (ps ++ [wr.heap.size]).getD k 0 = wr.heap.size by rw [← h.pl]; exact getD_append_last _ _]
  · by_cases e : j = k
    · subst e; rw [← h.pl, getD_append_last, h.pl]; exact ⟨ix, hsy⟩
    · rw [getD_append_left _ _ _ (by rw [h.pl]; omega)]
      obtain ⟨i, hi⟩ := h.sym j (by omega)
      exact ⟨i, hfk.sym hi⟩

theorem RS.builtin {w wr w2 : World} {T : Nat → Nat} {bs : Nat → Bool} {ss : Nat → ByteArray} {k : Nat} {S : Nat → Tab} {F : Nat → ByteArray → Option Nat} {xs ps : List Nat} (h : RS w wr T bs ss k S F xs ps) (hb : bs k = true) {ix : Int} {v : Value}
    (hsy : Sym w2 wr.heap.size (ss k) scB ix) (ht : Tabs w2 w.heap.size 1 T (put S 0 { S 0 with bs := v }) (updF F 0 (ss k) wr.heap.size) (xs ++ [wr.heap.size])) (hfk : FK w.heap.size wr w2) :
    RS w w2 T bs ss (k + 1) (put S 0 { S 0 with bs := v }) (updF F 0 (ss k) wr.heap.size) (xs ++ [wr.heap.size]) (ps ++ [wr.heap.size]) := by
  refine h.next (ix := ix) (by rw [if_pos hb]; exact hsy) ht (by have := h.xl; simp; omega) (fun j hj => ?_) hfk
  obtain rfl : j = 0 := by omega
  rw [put_same]
  have := h.small 0 (by omega)
  exact ⟨this.1, by have := this.2; show (S 0).num ≤ _; omega⟩

theorem RS.defd {w wr w2 : World} {T : Nat → Nat} {bs : Nat → Bool} {ss : Nat → ByteArray} {k : Nat} {S : Nat → Tab} {F : Nat → ByteArray → Option Nat} {xs ps : List Nat} (h : RS w wr T bs ss k S F xs ps) (hb : bs k = false)
    (hd : Defd wr w.heap.size 1 T S F xs (ss k) 0 w2) : RS w w2 T bs ss (k + 1) (defS S 0) (updF F 0 (ss k) wr.heap.size) xs (ps ++ [wr.heap.size]) := by
  obtain ⟨h1, h2, h3⟩ := hd
  exact h.next (ix := nextIdx S 0) (by rw [hb]; exact h1) h2 (by have := h.xl; omega) (defS_small1 h.small) h3

theorem RS.start (w : World) (bs : Nat → Bool) (ss : Nat → ByteArray) :
    RS w ((w.alloc (.map #[] 0)).alloc (tobj none (newTab false w.heap.size))) (fun _ => w.heap.size + 1) bs ss 0 (fun _ => newTab false w.heap.size) (fun _ _ => none) [] [] := by
  have h1 : ((w.alloc (.map #[] 0)).alloc (tobj none (newTab false w.heap.size))).heap[w.heap.size + 1]? = some (tobj none (newTab false w.heap.size)) := by
    have := heap_alloc_new (w.alloc (.map #[] 0)) (tobj none (newTab false w.heap.size))
    simpa using this
  have h2 : ((w.alloc (.map #[] 0)).alloc (tobj none (newTab false w.heap.size))).heap[w.heap.size]? = some (.map #[] 0) := by
    rw [Below.heap_alloc _ _ _ (by simp)]; exact heap_alloc_new w _
  exact ⟨tabs_one h1 h2 (by omega) (by omega), Nat.le_refl _, fun j hj => by simp [newTab], rfl, rfl, fun j hj => by omega,
    (((Frm.refl (fun _ => False) w).alloc _).alloc _).below (Nat.le_refl _) (fun _ x => x.elim)⟩

theorem RS.grow {w wr w2 : World} {T : Nat → Nat} {bs : Nat → Bool} {ss : Nat → ByteArray} {k : Nat} {S : Nat → Tab} {F : Nat → ByteArray → Option Nat} {xs ps : List Nat} (h : RS w wr T bs ss k S F xs ps) (hf : Frm (fun _ => False) wr w2) : RS w w2 T bs ss k S F xs ps :=
  ⟨h.tabs.grow hf, h.xl, h.small, h.pl, h.f0, fun j hj => by obtain ⟨i, hi⟩ := h.sym j hj; exact ⟨i, hi.grow hf⟩, h.below.trans (hf.below h.below.size (fun _ x => x.elim))⟩

end Go.Proofs.Yoeetw
