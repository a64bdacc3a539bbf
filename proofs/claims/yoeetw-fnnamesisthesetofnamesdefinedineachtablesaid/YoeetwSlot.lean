import Derived.Test.YoeetwBase
import Derived.Deep.AppendLies
namespace Go.Proofs.Yoeetw
open Go.RowKit

/-! Rows of one-cell elements that the call itself has made: make, append within the capacity, a store at an index. -/

/-- Block b is a row of 'cap' cells of element type e; its first n hold f 0, f 1, .. -/
structure Row (w : World) (b : Nat) (e : TypeId) (n cap : Nat) (f : Nat → Value) : Prop where
  ex : ∃ cur, w.heap[b]? = some (.cells cur e) ∧ cur.size = cap ∧ ∀ j, j < n → cur[j]? = some (f j)
  le : n ≤ cap

section
variable {w : World} {b : Nat} {e : TypeId} {n cap : Nat} {f : Nat → Value}

theorem Row.cell (h : Row w b e n cap f) {j : Nat} (hj : j < n) : w.cell? ⟨b, j, none⟩ = some (f j) := by
  obtain ⟨cur, h1, _, h3⟩ := h.ex
  rw [cell_of_obj h1]; exact h3 j hj

theorem Row.frozen (h : Row w b e n cap f) (o : Nat) : w.frozen? ⟨b, o, none⟩ = false := by
  obtain ⟨cur, h1, _⟩ := h.ex
  exact frozen_of_obj h1

theorem Row.lt (h : Row w b e n cap f) : b < w.heap.size := by
  obtain ⟨cur, h1, _⟩ := h.ex
  exact (Array.getElem?_eq_some_iff.1 h1).1

theorem Row.keep (h : Row w b e n cap f) {w' : World} (hb : w'.heap[b]? = w.heap[b]?) : Row w' b e n cap f :=
  ⟨by rw [hb]; exact h.ex, h.le⟩

theorem Row.frm {own : Nat → Prop} (h : Row w b e n cap f) {w' : World} (hf : Frm own w w') (ho : ¬ own b) : Row w' b e n cap f :=
  h.keep (hf.block b h.lt ho)

theorem Row.congr (h : Row w b e n cap f) {g : Nat → Value} (hg : ∀ j, j < n → f j = g j) : Row w b e n cap g := by
  obtain ⟨cur, h1, h2, h3⟩ := h.ex
  exact ⟨⟨cur, h1, h2, fun j hj => by rw [h3 j hj, hg j hj]⟩, h.le⟩

theorem Row.less (h : Row w b e n cap f) {m : Nat} (hm : m ≤ n) : Row w b e m cap f := by
  obtain ⟨cur, h1, h2, h3⟩ := h.ex
  exact ⟨⟨cur, h1, h2, fun j hj => h3 j (by omega)⟩, by have := h.le; omega⟩

/-- f, but u at place k. -/
def setf (f : Nat → Value) (k : Nat) (u : Value) : Nat → Value := fun j => if j = k then u else f j

theorem Row.store (h : Row w b e n cap f) {k : Nat} (hk : k < n) (u : Value) : Row (w.setCell ⟨b, k, none⟩ u) b e n cap (setf f k u) := by
  obtain ⟨cur, h1, h2, h3⟩ := h.ex
  refine ⟨⟨_, heap_setCell_same u h1, by simpa using h2, fun j hj => ?_⟩, h.le⟩
  rw [Array.getElem?_setIfInBounds]
  unfold setf
  by_cases hjk : j = k
  · subst hjk; have := h.le; rw [if_pos rfl, if_pos (by omega)]; simp
  · rw [if_neg (by omega), if_neg hjk]; exact h3 j hj

/-- The one cell of a block that has just been made. -/
theorem cell_new {w : World} {u : Value} {e : TypeId} {r : Nat} (hr : w.heap.size = r) : (w.alloc (.cells #[u] e)).cell? ⟨r, 0, none⟩ = some u := by
  subst hr
  rw [cell_of_obj (heap_alloc_new w _)]; rfl

theorem setRow_size (w : World) (g : Nat) (r : Array Value) : (w.setRow g r).heap.size = w.heap.size := by
  simp [World.setRow]

end

section
variable {P : Program}

/-- append of one element where there is room. -/
theorem run_append1 {w : World} {t ty e : TypeId} {i : TypeInfo} (ht : P.underlying t = some (.slice e)) (hi : P.info? e = some i) (hs1 : i.size = 1)
    {g n cap r : Nat} {f : Nat → Value} {u : Value} (hg : Row w g e n cap f) (hr : w.cell? ⟨r, 0, none⟩ = some u) (hu : u.oneCell' = true) (hroom : n < cap) :
    ∃ w', (Builtin.append_ #[t, t] ty #[.slice (some ⟨g, 0, none⟩) n cap, .slice (some ⟨r, 0, none⟩) 1 1]).run P w = .ok (.slice (some ⟨g, 0, none⟩) (n + 1) cap) w' ∧
      Row w' g e (n + 1) cap (setf f n u) ∧ Frm (fun b => b = g) w w' ∧ w'.heap.size = w.heap.size := by
  obtain ⟨cur, h1, h2, h3⟩ := hg.ex
  have hrun := run_append_room (P := P) w t ty e i ht hi g n cap cur h1 ⟨r, 0, none⟩ 1 1 [u] (by simp [hs1])
    (by intro j v hv; match j, hv with
        | 0, hv => simp at hv; subst hv; simpa [Addr.add] using hr)
    (by intro v hv; simp at hv; subst hv; exact hu) (by omega) (by simp [hs1]; omega)
  refine ⟨_, hrun, ⟨⟨_, setRow_heap w g cur _ e _ h1, ?_, ?_⟩, by omega⟩, ⟨rfl, rfl, rfl, by simp, fun k _ hk => setRow_other w g k _ hk⟩, setRow_size _ _ _⟩
  · simp [hs1]; omega
  · intro j hj
    simp only [hs1, Nat.mul_one, List.length_singleton, List.append_assoc, List.getElem?_toArray]
    unfold setf
    by_cases hjn : j = n
    · subst hjn
      rw [List.getElem?_append_right (by simp; omega)]
      simp [show min j cur.size = j by omega]
    · rw [if_neg hjn, List.getElem?_append_left (by simp; omega), List.getElem?_take, if_pos (by omega), Array.getElem?_toList]
      exact h3 j (by omega)

theorem wp_append1 {w : World} {o : Oper} {a : Act} {K : Act → World → Prop} {Q : Exit → Act → World → Prop} (s x : Operand) (t : TypeId)
    (ho : o.op = .call { callee := .builtin .append, args := #[s, x], argTypes := #[t, t] })
    (e : TypeId) (i : TypeInfo) (ht : P.underlying t = some (.slice e)) (hi : P.info? e = some i) (hs1 : i.size = 1)
    (g n cap r : Nat) (f : Nat → Value) (u : Value) (hs : a.eval s = .slice (some ⟨g, 0, none⟩) n cap) (hx : a.eval x = .slice (some ⟨r, 0, none⟩) 1 1)
    (hg : Row w g e n cap f) (hr : w.cell? ⟨r, 0, none⟩ = some u) (hu : u.oneCell' = true) (hroom : n < cap)
    (h : ∀ w', Row w' g e (n + 1) cap (setf f n u) → Frm (fun b => b = g) w w' → w'.heap.size = w.heap.size → K (a.put o.dst (.slice (some ⟨g, 0, none⟩) (n + 1) cap)) w') : o.wp P a w K Q := by
  obtain ⟨w', hrun, h2, h3, h4⟩ := run_append1 (P := P) (ty := o.type) ht hi hs1 hg hr hu hroom
  unfold Oper.wp execOp
  simp only [ho, resolve, invoke, builtin, Sem.run_bind, Sem.run_pure, Result.andThen_ok, List.map_toArray, List.map_cons, List.map_nil, hs, hx, hrun]
  exact h w' h2 h3 h4

theorem wpList_append1 {w : World} {ops : Array Oper} {rest : List Oper} {o : Oper} {a : Act} {Q : Exit → Act → World → Prop} (hgd : o.guard = none) (s x : Operand) (t : TypeId)
    (ho : o.op = .call { callee := .builtin .append, args := #[s, x], argTypes := #[t, t] })
    (e : TypeId) (i : TypeInfo) (ht : P.underlying t = some (.slice e)) (hi : P.info? e = some i) (hs1 : i.size = 1)
    (g n cap r : Nat) (f : Nat → Value) (u : Value) (hs : a.eval s = .slice (some ⟨g, 0, none⟩) n cap) (hx : a.eval x = .slice (some ⟨r, 0, none⟩) 1 1)
    (hg : Row w g e n cap f) (hr : w.cell? ⟨r, 0, none⟩ = some u) (hu : u.oneCell' = true) (hroom : n < cap)
    (h : ∀ w', Row w' g e (n + 1) cap (setf f n u) → Frm (fun b => b = g) w w' → w'.heap.size = w.heap.size → wpList P ops Q rest (a.put o.dst (.slice (some ⟨g, 0, none⟩) (n + 1) cap)) w') :
    wpList P ops Q (o :: rest) a w :=
  wpList_plain hgd fun _ hK => wp_append1 s x t ho e i ht hi hs1 g n cap r f u hs hx hg hr hu hroom fun w' h2 h3 h4 => hK _ _ (h w' h2 h3 h4)

/-- the same at a step of a region that draws its order. -/
theorem step_append1 {w : World} {ops : Array Oper} {o : Oper} {a : Act} {K : Act → World → Prop} {Q : Exit → Act → World → Prop} {E : Prop} (hgd : o.guard = none) (s x : Operand) (t : TypeId)
    (ho : o.op = .call { callee := .builtin .append, args := #[s, x], argTypes := #[t, t] })
    (e : TypeId) (i : TypeInfo) (ht : P.underlying t = some (.slice e)) (hi : P.info? e = some i) (hs1 : i.size = 1)
    (g n cap r : Nat) (f : Nat → Value) (u : Value) (hs : a.eval s = .slice (some ⟨g, 0, none⟩) n cap) (hx : a.eval x = .slice (some ⟨r, 0, none⟩) 1 1)
    (hg : Row w g e n cap f) (hr : w.cell? ⟨r, 0, none⟩ = some u) (hu : u.oneCell' = true) (hroom : n < cap)
    (h : ∀ w', Row w' g e (n + 1) cap (setf f n u) → Frm (fun b => b = g) w w' → w'.heap.size = w.heap.size → K (a.put o.dst (.slice (some ⟨g, 0, none⟩) (n + 1) cap)) w') :
    if Region.wanted o (yielded ops a.tmps) = true then Oper.wp P o a w K Q else E := by
  have hw : Region.wanted o (yielded ops a.tmps) = true := by simp [Region.wanted, hgd]
  rw [if_pos hw]
  exact wp_append1 s x t ho e i ht hi hs1 g n cap r f u hs hx hg hr hu hroom h

/-- 'make([]T, l, c)', of one-cell elements. -/
theorem wpList_make1 {w : World} {ops : Array Oper} {rest : List Oper} {o : Oper} {a : Act} {Q : Exit → Act → World → Prop}
    (hg : o.guard = none) (l c : Operand) (t : TypeId) (hop : o.op = Op.makeSlice t l c)
    (e : TypeId) (i : TypeInfo) (z : Value) (bytes : Nat) (h1 : P.underlying t = some (.slice e)) (h2 : P.info? e = some i) (h3 : i.zero = some z) (h4 : i.size = 1) (h5 : i.bytes = bytes) (hz : z.cells = #[z])
    (kl kc : IntKind) (L C : Int) (m n : Nat) (hl : a.eval l = .int kl L) (hc : a.eval c = .int kc C) (hL : L = (m : Int)) (hC : C = (n : Int)) (hmn : m ≤ n) (b2 : bytes * n ≤ 281474976710656) (b3 : n ≤ maxLen)
    (hK : ∀ w', Row w' w.heap.size e n n (fun _ => z) → Frm (fun _ => False) w w' → w'.heap.size = w.heap.size + 1 → wpList P ops Q rest (a.put o.dst (.slice (some ⟨w.heap.size, 0, none⟩) m n)) w') :
    wpList P ops Q (o :: rest) a w := by
  refine wpList_plain hg fun K hK' => ?_
  subst hL hC h5
  have hby : (i.bytes : Int) * (n : Int) ≤ 281474976710656 := by
    have h : ((i.bytes * n : Nat) : Int) ≤ 281474976710656 := by omega
    rwa [Int.natCast_mul] at h
  have hrun := run_make (P := P) w t e i z h1 h2 h3 kl kc m n (by omega) (by omega) hby (by simp only [maxLen] at b3; omega)
  simp only [Int.toNat_natCast, h4, Nat.mul_one] at hrun
  unfold Oper.wp
  simp [execOp, hop, hl, hc, hrun, Result.andThen]
  refine hK' _ _ (hK _ ⟨⟨_, heap_alloc_new w _, size_madeCells _ _, fun j hj => ?_⟩, Nat.le_refl _⟩ ((Frm.refl _ _).alloc _) (by simp))
  simp [madeCells, hz, hj, Nat.mod_one]

end
end Go.Proofs.Yoeetw
