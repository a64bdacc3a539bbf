import Derived.WalkKit
import Derived.Deep.Draws
namespace Go.Proofs.Yoeetw
open Go.RowKit

/-! Plain facts on worlds: a chain of symbol tables in memory. No walk here. -/

/-- What a symbol table holds, but for its parent pointer. -/
structure Tab where
  blk : Bool
  mp : Nat
  num : Int
  mx : Int
  fr : Value
  bs : Value

/-- The parent pointer of table j of a chain whose tables lie in the blocks T 0, T 1, .. -/
def parOf (T : Nat → Nat) : Nat → Option Addr
  | 0 => none
  | j + 1 => some ⟨T j, 0, none⟩

def tcells (p : Option Addr) (t : Tab) : Array Value :=
  #[.pointer p, .bool t.blk, .map (some t.mp), .int .i64 t.num, .int .i64 t.mx, t.fr, t.bs]

def tobj (p : Option Addr) (t : Tab) : Obj := .cells (tcells p t) 62

/-- n tables lie in the blocks T 0 .. T (n-1), each the parent of the next; the first has no parent and is no block. -/
structure Chain (w : World) (n : Nat) (T : Nat → Nat) (S : Nat → Tab) : Prop where
  obj : ∀ j, j < n → w.heap[T j]? = some (tobj (parOf T j) (S j))
  root : (S 0).blk = false
  inj : ∀ i j, i < n → j < n → T i = T j → i = j

/-- From w to w' only blocks of which 'own' holds, and new ones, have turned. -/
structure Frm (own : Nat → Prop) (w w' : World) : Prop where
  os : w'.os = w.os
  tape : w'.tape = w.tape
  output : w'.output = w.output
  size : w.heap.size ≤ w'.heap.size
  block : ∀ k, k < w.heap.size → ¬ own k → w'.heap[k]? = w.heap[k]?

theorem Frm.refl (own : Nat → Prop) (w : World) : Frm own w w := ⟨rfl, rfl, rfl, Nat.le_refl _, fun _ _ _ => rfl⟩

theorem Frm.trans {own : Nat → Prop} {a b c : World} (h : Frm own a b) (k : Frm own b c) : Frm own a c :=
  ⟨k.os.trans h.os, k.tape.trans h.tape, k.output.trans h.output, Nat.le_trans h.size k.size,
    fun i hi ho => (k.block i (Nat.lt_of_lt_of_le hi h.size) ho).trans (h.block i hi ho)⟩

theorem Frm.mono {own own' : Nat → Prop} {a b : World} (h : Frm own a b) (hs : ∀ k, own k → own' k) : Frm own' a b :=
  ⟨h.os, h.tape, h.output, h.size, fun k hk ho => h.block k hk (fun x => ho (hs k x))⟩

theorem Frm.drewN {own : Nat → Prop} {a b : World} (h : Frm own a b) (n : Nat) : Frm own a (b.drewN n) := ⟨h.os, h.tape, h.output, h.size, h.block⟩
theorem Frm.drew {own : Nat → Prop} {a b : World} (h : Frm own a b) : Frm own a b.drew := ⟨h.os, h.tape, h.output, h.size, h.block⟩

/-- From a frame to 'Below': nothing below B is the call's own. -/
theorem Frm.below {own : Nat → Prop} {w w' : World} {B : Nat} (h : Frm own w w') (hB : B ≤ w.heap.size) (ho : ∀ k, own k → B ≤ k) : Below B w w' :=
  ⟨h.os, h.tape, h.output, h.size, fun k hk => h.block k (Nat.lt_of_lt_of_le hk hB) (fun x => by have := ho k x; omega)⟩

theorem heap_setCell_same {w : World} {b o : Nat} {c : Array Value} {e : TypeId} {f : Nat × Nat} (v : Value) (h : w.heap[b]? = some (.cells c e f)) :
    (w.setCell ⟨b, o, none⟩ v).heap[b]? = some (.cells (c.setIfInBounds o v) e f) := by
  simp [World.setCell, Array.getElem?_modify, h]

theorem Frm.setCell {own : Nat → Prop} {a w : World} (h : Frm own a w) {p : Addr} (hp : own p.block) (u : Value) : Frm own a (w.setCell p u) :=
  h.trans ⟨rfl, rfl, rfl, by simp [World.setCell], fun k hk ho => Below.heap_setCell _ _ _ _ (fun e => ho (e ▸ hp))⟩

theorem Frm.alloc {own : Nat → Prop} {a w : World} (h : Frm own a w) (o : Obj) : Frm own a (w.alloc o) :=
  h.trans ⟨rfl, rfl, rfl, by simp, fun k hk _ => Below.heap_alloc _ _ _ hk⟩

theorem cell_of_obj {w : World} {b o : Nat} {c : Array Value} {e : TypeId} {f : Nat × Nat} (h : w.heap[b]? = some (.cells c e f)) : w.cell? ⟨b, o, none⟩ = c[o]? := by
  simp [World.cell?, h]

theorem frozen_of_obj {w : World} {b o : Nat} {c : Array Value} {e : TypeId} (h : w.heap[b]? = some (.cells c e (0, 0))) : w.frozen? ⟨b, o, none⟩ = false := by
  simp [World.frozen?, h]

section
variable {w : World} {n : Nat} {T : Nat → Nat} {S : Nat → Tab}

theorem Chain.cells (h : Chain w n T S) {k : Nat} (hk : k < n) :
    w.cell? ⟨T k, 0, none⟩ = some (.pointer (parOf T k)) ∧ w.cell? ⟨T k, 1, none⟩ = some (.bool (S k).blk) ∧ w.cell? ⟨T k, 2, none⟩ = some (.map (some (S k).mp)) ∧
    w.cell? ⟨T k, 3, none⟩ = some (.int .i64 (S k).num) ∧ w.cell? ⟨T k, 4, none⟩ = some (.int .i64 (S k).mx) ∧ w.cell? ⟨T k, 5, none⟩ = some (S k).fr ∧
    w.cell? ⟨T k, 6, none⟩ = some (S k).bs ∧ ∀ o, w.frozen? ⟨T k, o, none⟩ = false := by
  have := h.obj k hk
  unfold tobj at this
  refine ⟨?_, ?_, ?_, ?_, ?_, ?_, ?_, fun o => frozen_of_obj this⟩ <;> (rw [cell_of_obj this]; rfl)

/-- Table k's state is turned. -/
def put (S : Nat → Tab) (k : Nat) (t : Tab) : Nat → Tab := fun j => if j = k then t else S j

theorem put_same (S : Nat → Tab) (k : Nat) (t : Tab) : put S k t k = t := by simp [put]
theorem put_other (S : Nat → Tab) {k j : Nat} (t : Tab) (h : j ≠ k) : put S k t j = S j := by simp [put, h]

/-- A block of the chain is written anew as table k's with another state. -/
theorem Chain.turn (h : Chain w n T S) {k : Nat} (hk : k < n) {w' : World} {t : Tab} (hb : t.blk = (S k).blk)
    (hw : w'.heap[T k]? = some (tobj (parOf T k) t)) (ho : ∀ b, b ≠ T k → (∃ j, j < n ∧ b = T j) → w'.heap[b]? = w.heap[b]?) : Chain w' n T (put S k t) := by
  refine ⟨fun j hj => ?_, ?_, h.inj⟩
  · by_cases e : j = k
    · subst e; rw [put_same]; exact hw
    · rw [put_other _ _ e, ho _ (fun x => e (h.inj _ _ hj hk x)) ⟨j, hj, rfl⟩]; exact h.obj j hj
  · by_cases e : 0 = k
    · subst e; rw [put_same, hb]; exact h.root
    · rw [put_other _ _ e]; exact h.root

theorem Chain.setMx (h : Chain w n T S) {k : Nat} (hk : k < n) (v : Int) :
    Chain (w.setCell ⟨T k, 4, none⟩ (.int .i64 v)) n T (put S k { S k with mx := v }) := by
  refine h.turn hk rfl ?_ (fun b hb _ => Below.heap_setCell _ _ _ _ hb)
  have := h.obj k hk
  unfold tobj at this
  rw [heap_setCell_same _ this]; rfl

theorem Chain.setNum (h : Chain w n T S) {k : Nat} (hk : k < n) (v : Int) :
    Chain (w.setCell ⟨T k, 3, none⟩ (.int .i64 v)) n T (put S k { S k with num := v }) := by
  refine h.turn hk rfl ?_ (fun b hb _ => Below.heap_setCell _ _ _ _ hb)
  have := h.obj k hk
  unfold tobj at this
  rw [heap_setCell_same _ this]; rfl

theorem Chain.setBs (h : Chain w n T S) {k : Nat} (hk : k < n) (v : Value) :
    Chain (w.setCell ⟨T k, 6, none⟩ v) n T (put S k { S k with bs := v }) := by
  refine h.turn hk rfl ?_ (fun b hb _ => Below.heap_setCell _ _ _ _ hb)
  have := h.obj k hk
  unfold tobj at this
  rw [heap_setCell_same _ this]; rfl

/-- A chain stays while none of its blocks is written. -/
theorem Chain.keep (h : Chain w n T S) {w' : World} (ho : ∀ j, j < n → w'.heap[T j]? = w.heap[T j]?) : Chain w' n T S :=
  ⟨fun j hj => (ho j hj).trans (h.obj j hj), h.root, h.inj⟩

theorem Chain.lt (h : Chain w n T S) {j : Nat} (hj : j < n) : T j < w.heap.size := (Array.getElem?_eq_some_iff.1 (h.obj j hj)).1

theorem Chain.drewN (h : Chain w n T S) (q : Nat) : Chain (w.drewN q) n T S := ⟨h.obj, h.root, h.inj⟩
theorem Chain.drew (h : Chain w n T S) : Chain w.drew n T S := ⟨h.obj, h.root, h.inj⟩

end

/-- What 'updateMaxDefs v' does to one table's state. -/
def bump (v : Int) (S : Nat → Tab) (k : Nat) : Nat → Tab := if (S k).mx < v then put S k { S k with mx := v } else S

theorem bump_blk (v : Int) (S : Nat → Tab) (k j : Nat) : (bump v S k j).blk = (S j).blk := by
  unfold bump put; split
  · dsimp only; split
    · subst_vars; rfl
    · rfl
  · rfl

/-- What 'updateMaxDefs v', called at table k, does to the whole chain. -/
def raise (v : Int) : Nat → (Nat → Tab) → (Nat → Tab)
  | 0, S => bump v S 0
  | k + 1, S => if (S (k + 1)).blk = true then raise v k (bump v S (k + 1)) else bump v S (k + 1)

end Go.Proofs.Yoeetw
