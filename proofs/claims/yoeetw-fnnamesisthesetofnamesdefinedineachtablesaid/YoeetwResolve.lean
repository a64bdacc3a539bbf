import Derived.Test.YoeetwBuiltin
namespace Go.Proofs.Yoeetw
open Go.RowKit

theorem zero33 (w : World) : (zeroValue 33).run Eetg.prog w = .ok (.pointer none) w := by kernel_rfl

set_option maxRecDepth 100000 in
/-- Resolve at the root, of a name that is there, of a symbol that is not local. -/
theorem resolve_root {n : Nat} {T : Nat → Nat} {S : Nat → Tab} (w : World) (hc : Chain w n T S) (hn : 0 < n) (f : ByteArray → Option Nat) (hm : MapIs w (S 0).mp f) (s : ByteArray) (p : Nat) (hf : f s = some p)
    (nm sc : ByteArray) (ix : Int) (hy : Sym w p nm sc ix) (hsc : (!sc.toList == [76, 79, 67, 65, 76]) = true) :
    Calls Eetg.prog 18 #[.pointer (some ⟨T 0, 0, none⟩), .string s, .bool false] w fun e w' => e = .returned (.tuple #[.pointer (some ⟨p, 0, none⟩), .int .i64 0, .bool true]) ∧ w' = w := by
  have c2 := (hc.cells hn).2.2.1
  have y1 := hy.cells.2.1
  have e1 : optPtr (f s) = .pointer (some ⟨p, 0, none⟩) := by rw [hf]; rfl
  have e2 : (f s).isSome = true := by rw [hf]; rfl
  clear hf hy hc
  go_enter Eetg.func18, Eetg.ntmps18
  go_wp2_with (first
    | (at_lookup
       go_must (refine wpList_lookup_is rfl _ _ 60 rfl 9 33 Eetg.underlying60 Eetg.underlying9 (zero33 _) (S 0).mp f s rfl rfl hm ?_)
       rw [e1, e2]))
  go_ret3
  exact ⟨rfl, rfl⟩

/-- What DefineBuiltin does to rows of symbols other than the root's own. -/
def BsFr (w w' : World) (old new : Value) : Prop :=
  (∀ b, b < w.heap.size → some b = new.ownBlock → some b = old.ownBlock) ∧ ∀ b c f, w.heap[b]? = some (.cells c 33 f) → some b ≠ old.ownBlock → w'.heap[b]? = w.heap[b]?

set_option maxHeartbeats 400000 in
theorem defB_root2 {base n : Nat} {T : Nat → Nat} {S : Nat → Tab} {F : Nat → ByteArray → Option Nat} {xs : List Nat} (idx : Int) (name : ByteArray) (w : World)
    (h : Tabs w base n T S F xs) (hn : 0 < n) (hx : xs.length ≤ 5000) (hb : base ≤ w.heap.size) :
    Calls Eetg.prog 15 #[.pointer (some ⟨T 0, 0, none⟩), .int .i64 idx, .string name] w fun e w' => ∃ v, e = .returned (.pointer (some ⟨w.heap.size, 0, none⟩)) ∧ Sym w' w.heap.size name scB idx ∧
      Tabs w' base n T (put S 0 { S 0 with bs := v }) (updF F 0 name w.heap.size) (xs ++ [w.heap.size]) ∧ FK base w w' ∧ BsFr w w' (S 0).bs v := by
  obtain ⟨i0, hi, hz0, hz1, hz2⟩ := info_parts info33
  have c0 : w.cell? ⟨T 0, 0, none⟩ = some (.pointer none) := (h.chain.cells hn).1
  go_enter Eetg.func15, Eetg.ntmps15
  go_wp2_with (first
    | (refine wpList_box1 rfl _ 39 rfl _ rfl ?_
       intro w1 e1
       have f1 : Frm (fun _ => False) w w1 := by rw [e1.out]; exact (Frm.refl _ _).alloc _
       have s1 : w1.heap.size = w.heap.size + 1 := by rw [e1.out]; simp
       have y1 : Sym w1 w.heap.size name scB idx := by rw [e1.out]; exact sym_new
       have t1 := h.grow f1
       have c2 := (t1.chain.cells hn).2.2.1)
    | (at_mapUpdate
       go_must (refine wpList_mapUpdate_is rfl _ _ _ 60 rfl 9 33 Eetg.underlying60 Eetg.underlying9 (S 0).mp (F 0) name w.heap.size rfl rfl rfl (t1.maps 0 hn) ?_)
       intro w2 m2 f2 s2
       have t2 := t1.mapped hn m2 f2
       have y2 := t2.2.sym y1
       have c6 := (t2.1.chain.cells hn).2.2.2.2.2.2.1
       have s2' : w2.heap.size = w.heap.size + 1 := s2.trans s1
       clear m2 s2)
    | (at_builtin
       go_must (refine wpList_append_lies _ rfl _ _ 35 rfl base 33 i0 (.pointer none) 1 8 Eetg.underlying35 hi hz0 hz1 hz2 rfl (by omega) (S 0).bs xs.length (xs.map ptr) rfl (t2.1.bi.alloc _) ⟨w.heap.size + 1, 0, none⟩ 1 1 [ptr w.heap.size] rfl rfl (World.news_of_block (B := w.heap.size + 1) (cs := #[ptr w.heap.size]) (by rw [← s2']; exact heap_alloc_new w2 _)) (by simp [ptr, Value.oneCell']) (by omega) (by unfold maxLen; omega) (by omega) (by simp; omega) (w.heap.size + 2) (by simp; omega) ?_)
       intro g cap w4 o4 g4 a4 l4
       have hT : w4.heap[T 0]? = some (tobj (parOf T 0) (S 0)) := by
         have t3 := t2.1.grow ((Frm.refl _ w2).alloc (.cells #[.pointer (some ⟨w.heap.size, 0, none⟩)] 33))
         rw [g4.block (T 0) (t3.chain.lt hn) (bs_ne t3 hn)]
         exact t3.chain.obj 0 hn
       have c6' : w4.cell? ⟨T 0, 6, none⟩ = some (S 0).bs := by rw [cell_of_obj hT]; rfl
       have cf' : w4.frozen? ⟨T 0, 6, none⟩ = false := frozen_of_obj hT
       have A4 : Hid ((S 0).bs.ownBlock = some g ∨ g = w.heap.size + 2) := a4
       clear hT a4 l4))
  go_ret
  have t3 := t2.1.grow ((Frm.refl _ w2).alloc (.cells #[.pointer (some ⟨w.heap.size, 0, none⟩)] 33))
  have fk3 : FK base w2 (w2.alloc (.cells #[.pointer (some ⟨w.heap.size, 0, none⟩)] 33)) := FK.of ((Frm.refl (fun _ => False) w2).alloc _) (fun _ x => x.elim)
  obtain ⟨r1, r2⟩ := t3.setBs (p := w.heap.size) hn g4 (by simpa using o4) rfl
  have fk1 : FK base w w1 := FK.of f1 (fun _ x => x.elim)
  refine ⟨_, rfl, (fk3.trans r2).sym y2, r1, fk1.trans (t2.2.trans (fk3.trans r2)), ?_, ?_⟩
  · intro b hb' hg
    simp only [Value.ownBlock, Option.some.injEq] at hg
    rcases A4.out with e | e
    · rw [e, hg]
    · omega
  · intro b c f hbc hne
    have hlt := (Array.getElem?_eq_some_iff.1 hbc).1
    have q1 := f1.block b hlt (fun x => x)
    have hmp : b ≠ (S 0).mp := by
      intro e
      obtain ⟨es, cl, h1, _⟩ := (h.maps 0 hn).ex
      rw [e, h1] at hbc; cases hbc
    have hT0 : b ≠ T 0 := by
      intro e
      rw [e, h.chain.obj 0 hn] at hbc; cases hbc
    have q2 := f2.block b (by omega) hmp
    rw [Below.heap_setCell _ _ _ _ hT0, g4.block b (by simp; omega) hne, Below.heap_alloc _ _ _ (by omega), q2, q1]

theorem defB_any2 {base n : Nat} {T : Nat → Nat} {S : Nat → Tab} {F : Nat → ByteArray → Option Nat} {xs : List Nat} (idx : Int) (name : ByteArray) (w : World)
    (h : Tabs w base n T S F xs) (hx : xs.length ≤ 5000) (hb : base ≤ w.heap.size) : ∀ (k : Nat), k < n →
    Calls Eetg.prog 15 #[.pointer (some ⟨T k, 0, none⟩), .int .i64 idx, .string name] w fun e w' => ∃ v, e = .returned (.pointer (some ⟨w.heap.size, 0, none⟩)) ∧ Sym w' w.heap.size name scB idx ∧
      Tabs w' base n T (put S 0 { S 0 with bs := v }) (updF F 0 name w.heap.size) (xs ++ [w.heap.size]) ∧ FK base w w' ∧ BsFr w w' (S 0).bs v := by
  intro k
  induction k with
  | zero => intro hk; exact defB_root2 idx name w h hk hx hb
  | succ k ih =>
    intro hk
    have c0 : w.cell? ⟨T (k + 1), 0, none⟩ = some (.pointer (some ⟨T k, 0, none⟩)) := (h.chain.cells hk).1
    refine (defB_node (T (k + 1)) ⟨T k, 0, none⟩ idx name w c0 (fun e w' => ∃ v, e = .returned (.pointer (some ⟨w.heap.size, 0, none⟩)) ∧ Sym w' w.heap.size name scB idx ∧
      Tabs w' base n T (put S 0 { S 0 with bs := v }) (updF F 0 name w.heap.size) (xs ++ [w.heap.size]) ∧ FK base w w' ∧ BsFr w w' (S 0).bs v) ((ih (by omega)).mono ?_)).mono ?_
    · rintro e w' ⟨v, rfl, r⟩
      exact ⟨_, rfl, v, rfl, r⟩
    · rintro e w' ⟨q, rfl, r⟩
      exact r

end Go.Proofs.Yoeetw
