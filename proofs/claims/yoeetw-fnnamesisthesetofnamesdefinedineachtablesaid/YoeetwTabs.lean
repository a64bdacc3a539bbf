import Derived.Test.YoeetwUpd
import Derived.Test.YoeetwMap
namespace Go.Proofs.Yoeetw
open Go.RowKit

/-! Symbol tables with their maps, the root's row of builtin symbols, and the symbols themselves. -/

/-- The blocks that the methods of a symbol table write: tables (type 62), rows of symbol pointers (type 33), maps. -/
def Kin (w : World) (base b : Nat) : Prop :=
  base ≤ b ∧ ((∃ c e f, w.heap[b]? = some (.cells c e f) ∧ (e = 62 ∨ e = 33)) ∨ ∃ es c, w.heap[b]? = some (.map es c))

def FK (base : Nat) (w w' : World) : Prop := Frm (Kin w base) w w'

theorem FK.refl (base : Nat) (w : World) : FK base w w := Frm.refl _ _

theorem FK.trans {base : Nat} {a b c : World} (h : FK base a b) (k : FK base b c) : FK base a c := by
  refine ⟨k.os.trans h.os, k.tape.trans h.tape, k.output.trans h.output, Nat.le_trans h.size k.size, fun i hi ho => ?_⟩
  have e := h.block i hi ho
  rw [← e]
  refine k.block i (Nat.lt_of_lt_of_le hi h.size) (fun x => ho ?_)
  unfold Kin at x ⊢
  rw [e] at x
  exact x

theorem FK.of {base : Nat} {own : Nat → Prop} {w w' : World} (h : Frm own w w') (ho : ∀ k, own k → Kin w base k) : FK base w w' := h.mono ho

theorem FK.below {base : Nat} {w w' : World} (h : FK base w w') (hb : base ≤ w.heap.size) : Below base w w' :=
  Frm.below h hb (fun _ k => k.1)

theorem FK.same {base : Nat} {w w' : World} (h : FK base w w') {b : Nat} {c : Array Value} {e : TypeId} {f : Nat × Nat} (hb : w.heap[b]? = some (.cells c e f)) (h1 : e ≠ 62) (h2 : e ≠ 33) : w'.heap[b]? = w.heap[b]? := by
  refine h.block b (Array.getElem?_eq_some_iff.1 hb).1 ?_
  rintro ⟨_, ⟨c', e', f', h3, h4⟩ | ⟨es, c', h3⟩⟩
  · rw [hb] at h3; cases h3; rcases h4 with h4 | h4 <;> contradiction
  · rw [hb] at h3; cases h3

theorem FK.row {base : Nat} {w w' : World} (h : FK base w w') {b e n cap : Nat} {f : Nat → Value} (hr : Row w b e n cap f) (h1 : e ≠ 62) (h2 : e ≠ 33) : Row w' b e n cap f := by
  obtain ⟨cur, hc, _⟩ := hr.ex
  exact hr.keep (h.same hc h1 h2)

/-- The symbol at block p. -/
def symCells (name scope : ByteArray) (idx : Int) : Array Value := #[.string name, .string scope, .int .i64 idx, .bool false]
def Sym (w : World) (p : Nat) (name scope : ByteArray) (idx : Int) : Prop := w.heap[p]? = some (.cells (symCells name scope idx) 39)

theorem FK.sym {base : Nat} {w w' : World} (h : FK base w w') {p : Nat} {name scope : ByteArray} {idx : Int} (hs : Sym w p name scope idx) : Sym w' p name scope idx :=
  (h.same hs (by decide) (by decide)).trans hs

def scG : ByteArray := ⟨#[71, 76, 79, 66, 65, 76]⟩
def scL : ByteArray := ⟨#[76, 79, 67, 65, 76]⟩
def scB : ByteArray := ⟨#[66, 85, 73, 76, 84, 73, 78]⟩

/-- F, but the map of table k holds p at s. -/
def updF (F : Nat → ByteArray → Option Nat) (k : Nat) (s : ByteArray) (p : Nat) : Nat → ByteArray → Option Nat := fun j => if j = k then fset (F k) s p else F j

structure Tabs (w : World) (base n : Nat) (T : Nat → Nat) (S : Nat → Tab) (F : Nat → ByteArray → Option Nat) (xs : List Nat) : Prop where
  chain : Chain w n T S
  maps : ∀ j, j < n → MapIs w (S j).mp (F j)
  inj : ∀ i j, i < n → j < n → (S i).mp = (S j).mp → i = j
  ge : ∀ j, j < n → base ≤ T j ∧ base ≤ (S j).mp
  mono : ∀ i j, i < j → j < n → T i < T j
  bi : w.ownsRow base 33 1 (S 0).bs xs.length (xs.map ptr)

section
variable {w w' : World} {base n : Nat} {T : Nat → Nat} {S : Nat → Tab} {F : Nat → ByteArray → Option Nat} {xs : List Nat}

theorem ownsRow_keep {v : Value} {m : Nat} {ys : List Value} (h : w.ownsRow base 33 1 v m ys) (hb : ∀ g, g < w.heap.size → (∃ c f, w.heap[g]? = some (.cells c 33 f)) → w'.heap[g]? = w.heap[g]?) : w'.ownsRow base 33 1 v m ys := by
  refine ⟨h.1, ?_⟩
  rcases h.2 with h0 | ⟨g, cap, cur, hv, hbg, hg, r⟩
  · exact Or.inl h0
  · exact Or.inr ⟨g, cap, cur, hv, hbg, (hb g (Array.getElem?_eq_some_iff.1 hg).1 ⟨_, _, hg⟩).trans hg, r⟩

theorem Tabs.kinT (h : Tabs w base n T S F xs) {k : Nat} (hk : k < n) : Kin w base (T k) :=
  ⟨(h.ge k hk).1, Or.inl ⟨_, _, _, h.chain.obj k hk, Or.inl rfl⟩⟩

theorem Tabs.kinM (h : Tabs w base n T S F xs) {k : Nat} (hk : k < n) : Kin w base (S k).mp := by
  obtain ⟨es, c, h1, _⟩ := (h.maps k hk).ex
  exact ⟨(h.ge k hk).2, Or.inr ⟨es, c, h1⟩⟩

theorem Tabs.ne_map (h : Tabs w base n T S F xs) {i j : Nat} (hi : i < n) (hj : j < n) : (S i).mp ≠ T j := by
  intro e
  obtain ⟨es, c, h1, _⟩ := (h.maps i hi).ex
  rw [e, h.chain.obj j hj] at h1
  cases h1

/-- All old blocks stand: new ones may have come. -/
theorem Tabs.grow (h : Tabs w base n T S F xs) (hf : Frm (fun _ => False) w w') : Tabs w' base n T S F xs :=
  ⟨h.chain.keep (fun _ hj => hf.block _ (h.chain.lt hj) (fun x => x)), fun j hj => (h.maps j hj).frm hf (fun x => x), h.inj, h.ge, h.mono,
    ownsRow_keep h.bi (fun g hg _ => hf.block g hg (fun x => x))⟩

theorem Tabs.drewN (h : Tabs w base n T S F xs) (q : Nat) : Tabs (w.drewN q) base n T S F xs := h.grow ((Frm.refl _ _).drewN q)

/-- Table k is written; its map and its row of builtin symbols are not. -/
theorem Tabs.turn (h : Tabs w base n T S F xs) {k : Nat} (hk : k < n) {t : Tab} (hb : t.blk = (S k).blk) (hm : t.mp = (S k).mp) (hbs : t.bs = (S k).bs)
    (hw : w'.heap[T k]? = some (tobj (parOf T k) t)) (ho : ∀ b, b ≠ T k → w'.heap[b]? = w.heap[b]?) : Tabs w' base n T (put S k t) F xs := by
  have hmp : ∀ j, (put S k t j).mp = (S j).mp := by
    intro j
    by_cases e : j = k
    · subst e; rw [put_same]; exact hm
    · rw [put_other _ _ e]
  refine ⟨h.chain.turn hk hb hw (fun b hb _ => ho b hb), fun j hj => ?_, fun i j hi hj e => ?_, fun j hj => ?_, h.mono, ?_⟩
  · rw [hmp]; exact (h.maps j hj).keep (ho _ (h.ne_map hj hk))
  · rw [hmp, hmp] at e; exact h.inj i j hi hj e
  · rw [hmp]; exact h.ge j hj
  · have e : (put S k t 0).bs = (S 0).bs := by
      by_cases e : 0 = k
      · subst e; rw [put_same]; exact hbs
      · rw [put_other _ _ e]
    rw [e]
    refine ownsRow_keep h.bi (fun g _ ⟨c, f, hg⟩ => ho g (fun x => ?_))
    rw [x, h.chain.obj k hk] at hg; cases hg

theorem Tabs.setNum (h : Tabs w base n T S F xs) {k : Nat} (hk : k < n) (v : Int) (hw : w' = w.setCell ⟨T k, 3, none⟩ (.int .i64 v)) :
    Tabs w' base n T (put S k { S k with num := v }) F xs ∧ FK base w w' := by
  subst hw
  refine ⟨h.turn hk rfl rfl rfl ?_ (fun b hb => Below.heap_setCell _ _ _ _ hb), FK.of ((Frm.refl (fun b => b = T k) w).setCell rfl _) (fun b e => by rw [e]; exact h.kinT hk)⟩
  have := h.chain.obj k hk
  unfold tobj at this
  rw [heap_setCell_same _ this]; rfl

/-- The map of table k is written. -/
theorem Tabs.mapped (h : Tabs w base n T S F xs) {k : Nat} (hk : k < n) {s : ByteArray} {p : Nat} (hm : MapIs w' (S k).mp (fset (F k) s p)) (hf : Frm (fun b => b = (S k).mp) w w') :
    Tabs w' base n T S (updF F k s p) xs ∧ FK base w w' := by
  refine ⟨⟨h.chain.keep (fun j hj => hf.block _ (h.chain.lt hj) (fun x => (h.ne_map hk hj) x.symm)), fun j hj => ?_, h.inj, h.ge, h.mono, ?_⟩, FK.of hf (fun b e => by rw [e]; exact h.kinM hk)⟩
  · unfold updF
    by_cases e : j = k
    · subst e; rw [if_pos rfl]; exact hm
    · rw [if_neg e]; exact (h.maps j hj).frm hf (fun x => e (h.inj _ _ hj hk x))
  · refine ownsRow_keep h.bi (fun g hg ⟨c, f, hgg⟩ => hf.block g hg (fun x => ?_))
    obtain ⟨es, cl, h1, _⟩ := (h.maps k hk).ex
    rw [x, h1] at hgg; cases hgg

theorem raise_keeps (v : Int) : ∀ (k : Nat) (S : Nat → Tab) (j : Nat), (raise v k S j).mp = (S j).mp ∧ (raise v k S j).bs = (S j).bs ∧ (raise v k S j).num = (S j).num ∧ (raise v k S j).blk = (S j).blk := by
  have hb : ∀ (S : Nat → Tab) (k j : Nat), (bump v S k j).mp = (S j).mp ∧ (bump v S k j).bs = (S j).bs ∧ (bump v S k j).num = (S j).num ∧ (bump v S k j).blk = (S j).blk := by
    intro S k j
    unfold bump
    split
    · by_cases e : j = k
      · subst e; rw [put_same]; exact ⟨rfl, rfl, rfl, rfl⟩
      · rw [put_other _ _ e]; exact ⟨rfl, rfl, rfl, rfl⟩
    · exact ⟨rfl, rfl, rfl, rfl⟩
  intro k
  induction k with
  | zero => intro S j; exact hb S 0 j
  | succ k ih =>
    intro S j
    simp only [raise]
    split
    · obtain ⟨a1, a2, a3, a4⟩ := ih (bump v S (k + 1)) j
      obtain ⟨b1, b2, b3, b4⟩ := hb S (k + 1) j
      exact ⟨a1.trans b1, a2.trans b2, a3.trans b3, a4.trans b4⟩
    · exact hb S (k + 1) j

theorem Tabs.raised (h : Tabs w base n T S F xs) {v : Int} {k : Nat} (hc : Chain w' n T (raise v k S)) (hf : Frm (inChain n T) w w') : Tabs w' base n T (raise v k S) F xs ∧ FK base w w' := by
  refine ⟨⟨hc, fun j hj => ?_, fun i j hi hj e => ?_, fun j hj => ?_, h.mono, ?_⟩, FK.of hf (fun b ⟨j, hj, e⟩ => by rw [e]; exact h.kinT hj)⟩
  · rw [(raise_keeps v k S j).1]; exact (h.maps j hj).frm hf (by rintro ⟨i, hi, e⟩; exact h.ne_map hj hi e)
  · rw [(raise_keeps v k S i).1, (raise_keeps v k S j).1] at e; exact h.inj i j hi hj e
  · rw [(raise_keeps v k S j).1]; exact h.ge j hj
  · rw [(raise_keeps v k S 0).2.1]
    refine ownsRow_keep h.bi (fun g hg ⟨c, f, hgg⟩ => hf.block g hg ?_)
    rintro ⟨j, hj, e⟩
    rw [e, h.chain.obj j hj] at hgg; cases hgg

/-- A new symbol has been laid. -/
theorem sym_new {w : World} {name scope : ByteArray} {idx : Int} : Sym (w.alloc (.cells (symCells name scope idx) 39)) w.heap.size name scope idx := heap_alloc_new w _

theorem Sym.cells {p : Nat} {name scope : ByteArray} {idx : Int} (h : Sym w p name scope idx) :
    w.cell? ⟨p, 0, none⟩ = some (.string name) ∧ w.cell? ⟨p, 1, none⟩ = some (.string scope) ∧ w.cell? ⟨p, 2, none⟩ = some (.int .i64 idx) ∧ w.cell? ⟨p, 3, none⟩ = some (.bool false) ∧ ∀ o, w.frozen? ⟨p, o, none⟩ = false := by
  unfold Sym at h
  refine ⟨?_, ?_, ?_, ?_, fun o => frozen_of_obj h⟩ <;> (rw [cell_of_obj h]; rfl)

theorem Sym.lt {p : Nat} {name scope : ByteArray} {idx : Int} (h : Sym w p name scope idx) : p < w.heap.size := (Array.getElem?_eq_some_iff.1 h).1

end
end Go.Proofs.Yoeetw
