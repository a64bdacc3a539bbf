import Derived.Test.YoeetwSlot
import Derived.Maps.OwnSet
import Derived.Maps.RangeWalk
namespace Go.Proofs.Yoeetw
open Go.RowKit Go.MapKept

/-! A map[string]*T that the call itself has made: what it holds, as a function from strings to blocks. -/

def ptr (p : Nat) : Value := .pointer (some ⟨p, 0, none⟩)
def optPtr : Option Nat → Value
  | some p => ptr p
  | none => .pointer none

/-- Block b is a map keyed by strings that holds just the pointers f says. -/
structure MapIs (w : World) (b : Nat) (f : ByteArray → Option Nat) : Prop where
  ex : ∃ es clock, w.heap[b]? = some (.map es clock) ∧ Stamped es clock ∧ (∀ x ∈ es.toList, IsKey .string x.key) ∧
    (∀ x ∈ es.toList, ∀ s, x.key = .string s → ∃ p, f s = some p ∧ x.val = ptr p) ∧ (∀ s p, f s = some p → ∃ x ∈ es.toList, x.key = .string s)

/-- f, but p at s. -/
def fset (f : ByteArray → Option Nat) (s : ByteArray) (p : Nat) : ByteArray → Option Nat := fun x => if x = s then some p else f x

theorem isKey_string (s : ByteArray) : IsKey .string (.string s) := by simp [IsKey]

theorem MapIs.empty {w : World} {b : Nat} (h : w.heap[b]? = some (.map #[] 0)) : MapIs w b (fun _ => none) :=
  ⟨#[], 0, h, stamped_empty 0, by simp, by simp, by simp⟩

theorem MapIs.keep {w w' : World} {b : Nat} {f : ByteArray → Option Nat} (h : MapIs w b f) (hb : w'.heap[b]? = w.heap[b]?) : MapIs w' b f :=
  ⟨by rw [hb]; exact h.ex⟩

theorem MapIs.lt {w : World} {b : Nat} {f : ByteArray → Option Nat} (h : MapIs w b f) : b < w.heap.size := by
  obtain ⟨es, c, h1, _⟩ := h.ex
  exact (Array.getElem?_eq_some_iff.1 h1).1

theorem MapIs.frm {w w' : World} {b : Nat} {f : ByteArray → Option Nat} {own : Nat → Prop} (h : MapIs w b f) (hf : Frm own w w') (ho : ¬ own b) : MapIs w' b f :=
  h.keep (hf.block b h.lt ho)

section
variable {P : Program} {w : World} {mty kt et : TypeId} {b : Nat} {f : ByteArray → Option Nat}

theorem MapIs.run_update (h : MapIs w b f) (hm : P.underlying mty = some (.map kt et)) (hd : P.underlying kt = some .string) (s : ByteArray) (p : Nat) :
    ∃ w', (Instr.mapUpdate mty (.map (some b)) (.string s) (ptr p)).run P w = .ok () w' ∧ MapIs w' b (fset f s p) ∧ Frm (fun k => k = b) w w' ∧ w'.heap.size = w.heap.size := by
  obtain ⟨es, clock, hb, hs, hks, h1, h2⟩ := h.ex
  have hk := isKey_string s
  have fr : ∀ o : Obj, Frm (fun k => k = b) w { w with heap := w.heap.setIfInBounds b o } := fun o =>
    ⟨rfl, rfl, rfl, by simp, fun k _ hk => (heap_set hb).2 k hk⟩
  rcases findNow_spec hk es.toList 0 hks with ⟨g1, g2⟩ | ⟨j, e, g1, g2, g3⟩
  · have hrun : (Instr.mapUpdate mty (.map (some b)) (.string s) (ptr p)).run P w = .ok () { w with heap := w.heap.setIfInBounds b (.map (es.push { key := .string s, val := ptr p, born := clock }) (clock + 1)) } := by
      simp [Instr.mapUpdate, run_underlying hm, MapKept.run_getObj_map hb, run_checkKey hd hk, run_findKey hd g1, run_setObj_map _ hb, Result.andThen]
    refine ⟨_, hrun, ⟨_, _, (heap_set hb).1, stamped_push hs g2, ?_, ?_, ?_⟩, fr _, by simp⟩
    · intro x hx
      simp only [Array.toList_push, List.mem_append, List.mem_singleton] at hx
      rcases hx with hx | rfl
      · exact hks x hx
      · exact hk
    · intro x hx t ht
      simp only [Array.toList_push, List.mem_append, List.mem_singleton] at hx
      rcases hx with hx | rfl
      · obtain ⟨q, q1, q2⟩ := h1 x hx t ht
        refine ⟨q, ?_, q2⟩
        unfold fset
        rw [if_neg (fun e => g2 x hx (by rw [ht, e]))]; exact q1
      · have : s = t := by simpa using ht
        subst this
        exact ⟨p, by simp [fset], rfl⟩
    · intro t q hq
      simp only [Array.toList_push, List.mem_append, List.mem_singleton]
      by_cases e : t = s
      · subst e; exact ⟨_, Or.inr rfl, rfl⟩
      · unfold fset at hq
        rw [if_neg e] at hq
        obtain ⟨x, x1, x2⟩ := h2 t q hq
        exact ⟨x, Or.inl x1, x2⟩
  · have hj : es[j]? = some e := by simpa using g2
    have hkey : ∀ e', es[j]? = some e' → ({ e' with key := .string s, val := ptr p } : MapEntry).key = e'.key := fun e' he' => by rw [hj] at he'; cases he'; exact g3.symm
    have hjl : j < es.size := (Array.getElem?_eq_some_iff.1 hj).1
    have hmem : ∀ x, x ∈ (es.modify j fun e => { e with key := .string s, val := ptr p }).toList → (x ∈ es.toList ∧ x.key ≠ .string s) ∨ (x.key = .string s ∧ x.val = ptr p) := by
      intro x hx
      obtain ⟨i, hi⟩ := List.getElem?_of_mem hx
      rw [Array.getElem?_toList, Array.getElem?_modify] at hi
      by_cases e' : j = i
      · subst e'
        rw [if_pos rfl, hj] at hi
        simp at hi
        subst hi
        exact Or.inr ⟨rfl, rfl⟩
      · rw [if_neg e'] at hi
        have hx' : x ∈ es.toList := by rw [← Array.getElem?_toList] at hi; exact List.mem_of_getElem? hi
        refine Or.inl ⟨hx', fun hxs => e' ?_⟩
        have hnd := hs.2.2
        have a1 : (es.toList.map (·.key))[j]? = some (.string s) := by rw [List.getElem?_map, g2]; simp [g3]
        have a2 : (es.toList.map (·.key))[i]? = some (.string s) := by rw [List.getElem?_map, Array.getElem?_toList, hi]; simp [hxs]
        exact (List.getElem?_inj (by simpa using hjl) hnd).1 (a1.trans a2.symm)
    have hrun : (Instr.mapUpdate mty (.map (some b)) (.string s) (ptr p)).run P w = .ok () { w with heap := w.heap.setIfInBounds b (.map (es.modify j fun e => { e with key := .string s, val := ptr p }) clock) } := by
      simp [Instr.mapUpdate, run_underlying hm, MapKept.run_getObj_map hb, run_checkKey hd hk, run_findKey hd g1, hj, g3, run_keyThatStays hk, run_setObj_map _ hb, Result.andThen]
    refine ⟨_, hrun,
      ⟨_, _, (heap_set hb).1, stamped_modify hs _ _ (fun _ _ => rfl) (fun e' _ he' => hkey e' he'), isKey_modify hks _ _ hkey, ?_, ?_⟩, fr _, by simp⟩
    · intro x hx t ht
      rcases hmem x hx with ⟨m1, m2⟩ | ⟨m1, m2⟩
      · obtain ⟨q, q1, q2⟩ := h1 x m1 t ht
        refine ⟨q, ?_, q2⟩
        unfold fset
        rw [if_neg (fun e => m2 (by rw [ht, e]))]; exact q1
      · rw [m1] at ht
        have : s = t := by simpa using ht
        subst this
        exact ⟨p, by simp [fset], m2⟩
    · intro t q hq
      by_cases e' : t = s
      · subst e'
        refine ⟨{ e with key := .string t, val := ptr p }, List.mem_of_getElem? (i := j) ?_, rfl⟩
        rw [Array.getElem?_toList, Array.getElem?_modify, if_pos rfl, hj]; rfl
      · unfold fset at hq
        rw [if_neg e'] at hq
        obtain ⟨x, x1, x2⟩ := h2 t q hq
        obtain ⟨i, hi⟩ := List.getElem?_of_mem x1
        have hij : j ≠ i := by
          intro hji
          subst hji
          rw [g2] at hi
          have : e = x := by simpa using hi
          rw [← this, g3] at x2
          exact e' (by simpa using x2.symm)
        refine ⟨x, List.mem_of_getElem? (i := i) ?_, x2⟩
        rw [Array.getElem?_toList, Array.getElem?_modify, if_neg hij, ← Array.getElem?_toList]; exact hi

theorem MapIs.run_lookup (h : MapIs w b f) (hm : P.underlying mty = some (.map kt et)) (hd : P.underlying kt = some .string) (hz : (zeroValue et).run P w = .ok (.pointer none) w) (s : ByteArray) :
    (Instr.lookup mty (.map (some b)) (.string s) true).run P w = .ok (.tuple #[optPtr (f s), .bool (f s).isSome]) w := by
  obtain ⟨es, clock, hb, hs, hks, h1, h2⟩ := h.ex
  have hk := isKey_string s
  rcases findNow_spec hk es.toList 0 hks with ⟨g1, g2⟩ | ⟨j, e, g1, g2, g3⟩
  · have hn : f s = none := by
      cases hf : f s with
      | none => rfl
      | some q => obtain ⟨x, x1, x2⟩ := h2 s q hf; exact absurd x2 (g2 x x1)
    rw [hn]
    simp [Instr.lookup, run_underlying hm, MapKept.run_getObj_map hb, run_checkKey hd hk, run_findKey hd g1, hz, Result.andThen, optPtr]
  · obtain ⟨q, q1, q2⟩ := h1 e (List.mem_of_getElem? g2) s g3
    rw [q1]
    simp [Instr.lookup, run_underlying hm, MapKept.run_getObj_map hb, run_checkKey hd hk, run_findKey hd g1, Result.andThen, optPtr, q2]

theorem wpList_mapUpdate_is {ops : Array Oper} {rest : List Oper} {o : Oper} {a : Act} {Q : Exit → Act → World → Prop}
    (hg : o.guard = none) (m x v : Operand) (t : TypeId) (hop : o.op = Op.mapUpdate t m x v) (k e : TypeId) (ht : P.underlying t = some (.map k e)) (hd : P.underlying k = some .string)
    (b : Nat) (f : ByteArray → Option Nat) (s : ByteArray) (p : Nat) (hm : a.eval m = .map (some b)) (hx : a.eval x = .string s) (hv : a.eval v = .pointer (some ⟨p, 0, none⟩)) (h : MapIs w b f)
    (hK : ∀ w', MapIs w' b (fset f s p) → Frm (fun k => k = b) w w' → w'.heap.size = w.heap.size → wpList P ops Q rest (a.put o.dst undef) w') :
    wpList P ops Q (o :: rest) a w := by
  refine wpList_plain hg fun K' hK' => ?_
  obtain ⟨w', hrun, r1, r2, r3⟩ := h.run_update (P := P) ht hd s p
  unfold ptr at hrun
  unfold Oper.wp
  simp [execOp, hop, hm, hx, hv, hrun, Result.andThen]
  exact hK' _ _ (hK w' r1 r2 r3)

theorem wpList_lookup_is {ops : Array Oper} {rest : List Oper} {o : Oper} {a : Act} {Q : Exit → Act → World → Prop}
    (hg : o.guard = none) (m x : Operand) (t : TypeId) (hop : o.op = Op.lookup t m x true) (k e : TypeId) (ht : P.underlying t = some (.map k e)) (hd : P.underlying k = some .string)
    (hz : (zeroValue e).run P w = .ok (.pointer none) w)
    (b : Nat) (f : ByteArray → Option Nat) (s : ByteArray) (hm : a.eval m = .map (some b)) (hx : a.eval x = .string s) (h : MapIs w b f)
    (hK : wpList P ops Q rest (a.put o.dst (.tuple #[optPtr (f s), .bool (f s).isSome])) w) :
    wpList P ops Q (o :: rest) a w := by
  refine wpList_plain hg fun K' hK' => ?_
  have hrun := h.run_lookup (P := P) ht hd hz s
  unfold Oper.wp
  simp [execOp, hop, hm, hx, hrun, Result.andThen]
  exact hK' _ _ hK

end
end Go.Proofs.Yoeetw
