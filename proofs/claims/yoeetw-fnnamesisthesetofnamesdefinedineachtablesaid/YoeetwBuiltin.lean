import Derived.Test.YoeetwTabs
import Derived.Test.YoeetwStore
import Derived.Test.YoeetwTab
import Derived.Deep.AppendLies
import Derived.WalkSpells
namespace Go.Proofs.Yoeetw
open Go.RowKit

theorem info33 : (Eetg.prog.info? 33).map (fun i => (i.zero, i.size, i.bytes)) = some (some (.pointer none), 1, 8) := by kernel_rfl
theorem info35 : (Eetg.prog.info? 35).map (fun i => (i.zero, i.size, i.bytes)) = some (some (.slice none 0 0), 1, 24) := by kernel_rfl

/-- The root's row of builtin symbols is written anew. -/
theorem Tabs.setBs {w w1 w' : World} {base n : Nat} {T : Nat → Nat} {S : Nat → Tab} {F : Nat → ByteArray → Option Nat} {xs : List Nat} (h : Tabs w base n T S F xs) (hn : 0 < n) {v : Value} {p : Nat}
    (hg : w.grownBy w1 (S 0).bs.ownBlock) (ho : w1.ownsRow base 33 1 v (xs ++ [p]).length ((xs ++ [p]).map ptr)) (hw : w' = w1.setCell ⟨T 0, 6, none⟩ v) :
    Tabs w' base n T (put S 0 { S 0 with bs := v }) F (xs ++ [p]) ∧ FK base w w' := by
  subst hw
  have kb : ∀ k, some k = (S 0).bs.ownBlock → Kin w base k := by
    intro k hk
    rcases h.bi.2 with ⟨e, _⟩ | ⟨g, cap, cur, e, hb, hgg, _⟩
    · rw [e] at hk; simp [Value.ownBlock] at hk
    · rw [e] at hk; simp [Value.ownBlock] at hk; subst hk
      exact ⟨hb, Or.inl ⟨_, _, _, hgg, Or.inr rfl⟩⟩
  have k33 : ∀ k, some k = (S 0).bs.ownBlock → ∃ c f, w.heap[k]? = some (.cells c 33 f) := by
    intro k hk
    rcases h.bi.2 with ⟨e, _⟩ | ⟨g, cap, cur, e, hb, hgg, _⟩
    · rw [e] at hk; simp [Value.ownBlock] at hk
    · rw [e] at hk; simp [Value.ownBlock] at hk; subst hk; exact ⟨_, _, hgg⟩
  have tT : ∀ j, j < n → w1.heap[T j]? = w.heap[T j]? := fun j hj => hg.block _ (h.chain.lt hj) (fun x => by
    obtain ⟨c, f, hx⟩ := k33 _ x
    rw [h.chain.obj j hj] at hx; cases hx)
  have tM : ∀ j, j < n → w1.heap[(S j).mp]? = w.heap[(S j).mp]? := fun j hj => hg.block _ (h.maps j hj).lt (fun x => by
    obtain ⟨c, f, hx⟩ := k33 _ x
    obtain ⟨es, cl, h1, _⟩ := (h.maps j hj).ex
    rw [h1] at hx; cases hx)
  have c1 : Chain w1 n T S := h.chain.keep tT
  have hmp : ∀ j, (put S 0 { S 0 with bs := v } j).mp = (S j).mp := by
    intro j
    by_cases e : j = 0
    · subst e; rw [put_same]
    · rw [put_other _ _ e]
  refine ⟨⟨c1.setBs hn v, fun j hj => ?_, fun i j hi hj e => ?_, fun j hj => ?_, h.mono, ?_⟩, ?_⟩
  · rw [hmp]; exact ((h.maps j hj).keep (tM j hj)).keep (Below.heap_setCell _ _ _ _ (h.ne_map hj hn))
  · rw [hmp, hmp] at e; exact h.inj i j hi hj e
  · rw [hmp]; exact h.ge j hj
  · rw [put_same]
    refine ownsRow_keep ho (fun g _ ⟨c, f, hgg⟩ => Below.heap_setCell _ _ _ _ (fun x => ?_))
    rw [x, c1.obj 0 hn] at hgg; cases hgg
  · refine ⟨hg.os, hg.tape, hg.output, by have := hg.size; simpa [World.setCell] using this, fun k hk hkin => ?_⟩
    rw [Below.heap_setCell _ _ _ _ (fun x => hkin (by rw [x]; exact h.kinT hn))]
    exact hg.block k hk (fun x => hkin (kb k x))

theorem bs_ne {w : World} {base n : Nat} {T : Nat → Nat} {S : Nat → Tab} {F : Nat → ByteArray → Option Nat} {xs : List Nat} (h : Tabs w base n T S F xs) {k : Nat} (hk : k < n) : some (T k) ≠ (S 0).bs.ownBlock := by
  intro e
  rcases h.bi.2 with ⟨e', _⟩ | ⟨g, cap, cur, e', hb, hgg, _⟩
  · rw [e'] at e; simp [Value.ownBlock] at e
  · rw [e'] at e; simp [Value.ownBlock] at e; subst e
    rw [h.chain.obj k hk] at hgg; cases hgg

set_option maxHeartbeats 400000 in
theorem defB_root {base n : Nat} {T : Nat → Nat} {S : Nat → Tab} {F : Nat → ByteArray → Option Nat} {xs : List Nat} (idx : Int) (name : ByteArray) (w : World)
    (h : Tabs w base n T S F xs) (hn : 0 < n) (hx : xs.length ≤ 5000) (hb : base ≤ w.heap.size) :
    Calls Eetg.prog 15 #[.pointer (some ⟨T 0, 0, none⟩), .int .i64 idx, .string name] w fun e w' => ∃ v, e = .returned (.pointer (some ⟨w.heap.size, 0, none⟩)) ∧ Sym w' w.heap.size name scB idx ∧
      Tabs w' base n T (put S 0 { S 0 with bs := v }) (updF F 0 name w.heap.size) (xs ++ [w.heap.size]) ∧ FK base w w' := by
  obtain ⟨i0, hi, hz0, hz1, hz2⟩ := info_parts info33
  obtain ⟨i1, ki, kz0, kz1, kz2⟩ := info_parts info35
  have c0 : w.cell? ⟨T 0, 0, none⟩ = some (.pointer none) := (h.chain.cells hn).1
  go_enter Eetg.func15, Eetg.ntmps15
  go_wp2_with (first
    | (refine wpList_box1 rfl _ 39 rfl _ rfl ?_
       intro w1 e1
       have f1 : Frm (fun _ => False) w w1 := by rw [e1.out]; exact (Frm.refl _ _).alloc _
       have s1 : w1.heap.size = w.heap.size + 1 := by rw [e1.out]; simp
       have y1 : Sym w1 w.heap.size name scB idx := by rw [e1.out]; exact sym_new
       have t1 := h.grow f1
       have c2 := (t1.chain.cells hn).2.2.1)
    | (at_mapUpdate
       go_must (refine wpList_mapUpdate_is rfl _ _ _ 60 rfl 9 33 Eetg.underlying60 Eetg.underlying9 (S 0).mp (F 0) name w.heap.size rfl rfl rfl (t1.maps 0 hn) ?_)
       intro w2 m2 f2 s2
       have t2 := t1.mapped hn m2 f2
       have y2 := t2.2.sym y1
       have c6 := (t2.1.chain.cells hn).2.2.2.2.2.2.1
       have s2' : w2.heap.size = w.heap.size + 1 := s2.trans s1
       clear m2 f2 s2)
    | (at_builtin
       go_must (refine wpList_append_lies _ rfl _ _ 35 rfl base 33 i0 (.pointer none) 1 8 Eetg.underlying35 hi hz0 hz1 hz2 rfl (by omega) (S 0).bs xs.length (xs.map ptr) rfl (t2.1.bi.alloc _) ⟨w.heap.size + 1, 0, none⟩ 1 1 [ptr w.heap.size] rfl rfl (World.news_of_block (B := w.heap.size + 1) (cs := #[ptr w.heap.size]) (by rw [← s2']; exact heap_alloc_new w2 _)) (by simp [ptr, Value.oneCell']) (by omega) (by unfold maxLen; omega) (by omega) (by simp; omega) (w.heap.size + 2) (by simp; omega) ?_)
       intro g cap w4 o4 g4 a4 l4
       have hT : w4.heap[T 0]? = some (tobj (parOf T 0) (S 0)) := by
         have t3 := t2.1.grow ((Frm.refl _ w2).alloc (.cells #[.pointer (some ⟨w.heap.size, 0, none⟩)] 33))
         rw [g4.block (T 0) (t3.chain.lt hn) (bs_ne t3 hn)]
         exact t3.chain.obj 0 hn
       have c6' : w4.cell? ⟨T 0, 6, none⟩ = some (S 0).bs := by rw [cell_of_obj hT]; rfl
       have cf' : w4.frozen? ⟨T 0, 6, none⟩ = false := frozen_of_obj hT
       clear hT a4 l4))
  go_ret
  have t3 := t2.1.grow ((Frm.refl _ w2).alloc (.cells #[.pointer (some ⟨w.heap.size, 0, none⟩)] 33))
  have fk3 : FK base w2 (w2.alloc (.cells #[.pointer (some ⟨w.heap.size, 0, none⟩)] 33)) := FK.of ((Frm.refl (fun _ => False) w2).alloc _) (fun _ x => x.elim)
  obtain ⟨r1, r2⟩ := t3.setBs (p := w.heap.size) hn g4 (by simpa using o4) rfl
  have fk1 : FK base w w1 := FK.of f1 (fun _ x => x.elim)
  exact ⟨_, rfl, (fk3.trans r2).sym y2, r1, fk1.trans (t2.2.trans (fk3.trans r2))⟩

theorem defB_node (t : Nat) (p : Addr) (idx : Int) (name : ByteArray) (w : World) (h0 : w.cell? ⟨t, 0, none⟩ = some (.pointer (some p))) (R : Ending → World → Prop)
    (hc : Calls Eetg.prog 15 #[.pointer (some p), .int .i64 idx, .string name] w fun e w' => ∃ q, e = .returned (.pointer q) ∧ R (.returned (.pointer q)) w') :
    Calls Eetg.prog 15 #[.pointer (some ⟨t, 0, none⟩), .int .i64 idx, .string name] w fun e w' => ∃ q, e = .returned (.pointer q) ∧ R (.returned (.pointer q)) w' := by
  have HC : Hid (Calls Eetg.prog 15 #[.pointer (some p), .int .i64 idx, .string name] w fun e w' => ∃ q, e = .returned (.pointer q) ∧ R (.returned (.pointer q)) w') := hc
  clear hc
  go_enter Eetg.func15, Eetg.ntmps15
  go_wp2_with fail
  refine HC.out.mono ?_
  rintro e w' ⟨q, rfl, hr⟩
  go_wp2_with fail
  go_ret
  exact ⟨_, rfl, hr⟩

theorem defB_any {base n : Nat} {T : Nat → Nat} {S : Nat → Tab} {F : Nat → ByteArray → Option Nat} {xs : List Nat} (idx : Int) (name : ByteArray) (w : World)
    (h : Tabs w base n T S F xs) (hx : xs.length ≤ 5000) (hb : base ≤ w.heap.size) : ∀ (k : Nat), k < n →
    Calls Eetg.prog 15 #[.pointer (some ⟨T k, 0, none⟩), .int .i64 idx, .string name] w fun e w' => ∃ v, e = .returned (.pointer (some ⟨w.heap.size, 0, none⟩)) ∧ Sym w' w.heap.size name scB idx ∧
      Tabs w' base n T (put S 0 { S 0 with bs := v }) (updF F 0 name w.heap.size) (xs ++ [w.heap.size]) ∧ FK base w w' := by
  intro k
  induction k with
  | zero => intro hk; exact defB_root idx name w h hk hx hb
  | succ k ih =>
    intro hk
    have c0 : w.cell? ⟨T (k + 1), 0, none⟩ = some (.pointer (some ⟨T k, 0, none⟩)) := (h.chain.cells hk).1
    refine (defB_node (T (k + 1)) ⟨T k, 0, none⟩ idx name w c0 (fun e w' => ∃ v, e = .returned (.pointer (some ⟨w.heap.size, 0, none⟩)) ∧ Sym w' w.heap.size name scB idx ∧
      Tabs w' base n T (put S 0 { S 0 with bs := v }) (updF F 0 name w.heap.size) (xs ++ [w.heap.size]) ∧ FK base w w') ((ih (by omega)).mono ?_)).mono ?_
    · rintro e w' ⟨v, rfl, r⟩
      exact ⟨_, rfl, v, rfl, r⟩
    · rintro e w' ⟨q, rfl, r⟩
      exact r

theorem bsyms_root (t : Nat) (v : Value) (w : World) (h0 : w.cell? ⟨t, 0, none⟩ = some (.pointer none)) (h6 : w.cell? ⟨t, 6, none⟩ = some v) :
    Calls Eetg.prog 16 #[.pointer (some ⟨t, 0, none⟩)] w fun e w' => e = .returned v ∧ w' = w := by
  go_enter Eetg.func16, Eetg.ntmps16
  go_wp2_with fail
  go_ret
  exact ⟨rfl, rfl⟩

theorem bsyms_node (t : Nat) (p : Addr) (v : Value) (w : World) (h0 : w.cell? ⟨t, 0, none⟩ = some (.pointer (some p)))
    (hc : Calls Eetg.prog 16 #[.pointer (some p)] w fun e w' => e = .returned v ∧ w' = w) :
    Calls Eetg.prog 16 #[.pointer (some ⟨t, 0, none⟩)] w fun e w' => e = .returned v ∧ w' = w := by
  have HC : Hid (Calls Eetg.prog 16 #[.pointer (some p)] w fun e w' => e = .returned v ∧ w' = w) := hc
  clear hc
  go_enter Eetg.func16, Eetg.ntmps16
  go_wp2_with fail
  refine HC.out.mono ?_
  rintro e w' ⟨rfl, rfl⟩
  go_wp2_with fail
  go_ret
  exact ⟨rfl, rfl⟩

theorem bsyms_any {n : Nat} {T : Nat → Nat} {S : Nat → Tab} (w : World) (h : Chain w n T S) : ∀ (k : Nat), k < n →
    Calls Eetg.prog 16 #[.pointer (some ⟨T k, 0, none⟩)] w fun e w' => e = .returned (S 0).bs ∧ w' = w := by
  intro k
  induction k with
  | zero =>
    intro hk
    obtain ⟨c0, c1, c2, c3, c4, c5, c6, cf⟩ := h.cells hk
    exact bsyms_root (T 0) _ w c0 c6
  | succ k ih =>
    intro hk
    have c0 : w.cell? ⟨T (k + 1), 0, none⟩ = some (.pointer (some ⟨T k, 0, none⟩)) := (h.cells hk).1
    exact bsyms_node (T (k + 1)) _ _ w c0 (ih (by omega))

end Go.Proofs.Yoeetw
