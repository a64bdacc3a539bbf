import Derived.Test.YoeetwTabs
import Derived.Test.YoeetwStore
import Derived.Test.YoeetwNext
import Derived.WalkSpells
namespace Go.Proofs.Yoeetw
open Go.RowKit

theorem info3' : (Eetg.prog.info? 3).map (fun i => (i.zero, i.size, i.bytes)) = some (some (.int .i64 0), 1, 8) := by kernel_rfl
theorem info37 : (Eetg.prog.info? 37).map (fun i => (i.zero, i.size, i.bytes)) = some (some (.string ByteArray.empty), 1, 16) := by kernel_rfl

theorem nextIdx_blk (S S' : Nat → Tab) (h : ∀ j, (S' j).blk = (S j).blk) (T : Nat → Nat) : ∀ k, outer S' T k = outer S T k ∧ isGlob S' k = isGlob S k := by
  intro k
  induction k with
  | zero => exact ⟨rfl, rfl⟩
  | succ k ih => simp only [outer, isGlob, h, ih.1, ih.2]; exact ⟨trivial, trivial⟩

theorem put_blk (S : Nat → Tab) (k : Nat) (t : Tab) (h : t.blk = (S k).blk) (j : Nat) : (put S k t j).blk = (S j).blk := by
  by_cases e : j = k
  · subst e; rw [put_same]; exact h
  · rw [put_other _ _ e]

/-- A store into a symbol's field 1 (its scope). -/
theorem Sym.setScope {w : World} {p : Nat} {name scope sc : ByteArray} {idx : Int} (h : Sym w p name scope idx) : Sym (w.setCell ⟨p, 1, none⟩ (.string sc)) p name sc idx := by
  unfold Sym at h ⊢
  rw [heap_setCell_same _ h]; rfl

theorem Tabs.symSet {w : World} {base n : Nat} {T : Nat → Nat} {S : Nat → Tab} {F : Nat → ByteArray → Option Nat} {xs : List Nat} (h : Tabs w base n T S F xs) {p : Nat} {name scope : ByteArray} {idx : Int} (hs : Sym w p name scope idx) (v : Value) :
    Tabs (w.setCell ⟨p, 1, none⟩ v) base n T S F xs := by
  refine ⟨h.chain.keep (fun j hj => Below.heap_setCell _ _ _ _ ?_), fun j hj => (h.maps j hj).keep (Below.heap_setCell _ _ _ _ ?_), h.inj, h.ge, h.mono, ownsRow_keep h.bi (fun g hg ⟨c, f, hgg⟩ => Below.heap_setCell _ _ _ _ ?_)⟩
  · intro e; have := h.chain.obj j hj; rw [e, hs] at this; cases this
  · intro e; obtain ⟨es, c, h1, _⟩ := (h.maps j hj).ex; rw [e, hs] at h1; cases h1
  · intro e; simp only at e; rw [e, hs] at hgg; cases hgg

theorem FK.setFresh {base : Nat} {w w3 : World} (h : FK base w w3) {a : Addr} (ha : w.heap.size ≤ a.block) (v : Value) : FK base w (w3.setCell a v) :=
  ⟨h.os, h.tape, h.output, by have := h.size; simpa [World.setCell] using this, fun k hk hkin => by
    rw [Below.heap_setCell _ _ _ _ (by omega)]; exact h.block k hk hkin⟩

/-- The state behind Define at table k. -/
def defS (S : Nat → Tab) (k : Nat) : Nat → Tab :=
  raise (nextIdx S k + 1) k (put S (if isGlob S k = true then 0 else k) { S (if isGlob S k = true then 0 else k) with num := (S (if isGlob S k = true then 0 else k)).num + 1 })

def blkOf : Value → Nat
  | .pointer (some a) => a.block
  | _ => 0

theorem put_back (S : Nat → Tab) (k : Nat) (t : Tab) (nu : Int) (h : (S k).num = nu) (ht : t = { S k with num := t.num }) : put (put S k t) k { put S k t k with num := nu } = S := by
  funext j
  by_cases e : j = k
  · subst e; rw [put_same, put_same, ht, ← h]
  · rw [put_other _ _ e, put_other _ _ e]

/-- What Define leaves. -/
def Defd (w : World) (base n : Nat) (T : Nat → Nat) (S : Nat → Tab) (F : Nat → ByteArray → Option Nat) (xs : List Nat) (name : ByteArray) (k : Nat) (w' : World) : Prop :=
  Sym w' w.heap.size name (if isGlob S k = true then scG else scL) (nextIdx S k) ∧ Tabs w' base n T (defS S k) (updF F k name w.heap.size) xs ∧ FK base w w'

theorem parent_put {n : Nat} {T : Nat → Nat} {S : Nat → Tab} {k : Nat} {t : Tab} {w : World} {v : Option Addr} (hk : k < n) (hb : t.blk = (S k).blk) (ho : outer S T k = v) (hc : Chain w n T (put S k t)) :
    Calls Eetg.prog 40 #[.pointer (some ⟨T k, 0, none⟩), .bool true] w fun e w' => e = .returned (.pointer v) ∧ w' = w := by
  have := parent_any n T (put S k t) k w hk hc
  rw [(nextIdx_blk S (put S k t) (put_blk S k t hb) T k).1, ho] at this
  exact this

set_option maxRecDepth 100000 in
set_option maxHeartbeats 1000000 in
/-- Define at a function's table, or at a block below one. -/
theorem define_local {base n : Nat} {T : Nat → Nat} {S : Nat → Tab} {F : Nat → ByteArray → Option Nat} {xs : List Nat} (name : ByteArray) (w : World)
    (h : Tabs w base n T S F xs) (k : Nat) (hk : k < n) (hn : n ≤ 5000) (hs : Small S n 100000) (hg : isGlob S k = false) :
    Calls Eetg.prog 20 #[.pointer (some ⟨T k, 0, none⟩), .string name] w fun e w' => e = .returned (.pointer (some ⟨w.heap.size, 0, none⟩)) ∧ Defd w base n T S F xs name k w' := by
  obtain ⟨i3, hi3, _, hs3, _⟩ := info_parts info3'
  obtain ⟨i37, hi37, _, hs37, _⟩ := info_parts info37
  have hnx := next_any n T S 100000 (by omega) (by omega) hs k w hk h.chain
  have hx := nextIdx_le hs k hk
  have hnm := hs k hk
  obtain ⟨x, HX⟩ : ∃ x, Hid (nextIdx S k = x) := ⟨_, rfl⟩
  rw [HX.out] at hnx hx
  have hx2 : x ≤ 1000000000 := by
    have : (100000 : Int) * ((k : Int) + 1) ≤ 1000000000 := by omega
    omega
  replace hx := hx.1
  obtain ⟨nu, HN⟩ : ∃ nu, Hid ((S k).num = nu) := ⟨_, rfl⟩
  rw [HN.out] at hnm
  obtain ⟨op, hop⟩ : ∃ op, outer S T k = some op := by
    rcases outer_none S T k with ⟨h1, _⟩ | ⟨_, h2⟩
    · rw [h1] at hg; cases hg
    · exact h2
  have HO : Hid (outer S T k = some op) := hop
  have HG : Hid (isGlob S k = false) := hg
  clear hop hg hs
  go_enter Eetg.func20, Eetg.ntmps20
  go_wp2_with fail
  refine hnx.mono ?_
  rintro e w1 ⟨rfl, q, rfl⟩
  clear hnx
  go_wp2_with (first
    | (refine wpList_box1 rfl _ 39 rfl _ rfl ?_
       intro w2 e2
       have f2 : Frm (fun _ => False) w w2 := by rw [e2.out]; exact ((Frm.refl _ _).drewN q).alloc _
       have s2 : w2.heap.size = w.heap.size + 1 := by rw [e2.out]; simp
       obtain ⟨sc0, y2⟩ : ∃ sc0, Sym w2 w.heap.size name sc0 x := ⟨_, by rw [e2.out]; exact sym_new⟩
       have t2 := h.grow f2
       have c3 := (t2.chain.cells hk).2.2.2.1
       rw [HN.out] at c3
       have cf3 := (t2.chain.cells hk).2.2.2.2.2.2.2 3)
    | (refine wpList_store1 rfl _ _ 3 rfl i3 hi3 hs3 ⟨T k, 3, none⟩ (.int .i64 (nu + 1)) _ rfl rfl rfl rfl c3 cf3 ?_
       intro w3 e3
       have t3 := t2.setNum hk (nu + 1) e3.out
       have y3 := t3.2.sym y2
       have c31 := y3.cells.2.1
       have cf31 := y3.cells.2.2.2.2 1
       clear c3 cf3)
    | (go_at_call 40
       go_must (refine (parent_put (t := { S k with num := nu + 1 }) hk rfl HO.out t3.1.chain).mono ?_)
       rintro e w3' ⟨rfl, rfl⟩)
    | (refine wpList_store1 rfl _ _ 37 rfl i37 hi37 hs37 ⟨w.heap.size, 1, none⟩ (.string scL) _ rfl rfl rfl rfl c31 cf31 ?_
       intro w4 e4
       have t4 : Tabs w4 base n T (put S k { S k with num := nu + 1 }) F xs := by rw [e4.out]; exact t3.1.symSet y3 _
       have y4 : Sym w4 w.heap.size name scL x := by rw [e4.out]; exact y3.setScope
       have k4 : FK base w w4 := by rw [e4.out]; exact ((FK.of f2 (fun _ z => z.elim)).trans t3.2).setFresh (Nat.le_refl _) _
       have c42 := (t4.chain.cells hk).2.2.1
       rw [put_same] at c42
       have m4 := t4.maps k hk
       rw [put_same] at m4
       clear c31 cf31)
    | (at_mapUpdate
       go_must (refine wpList_mapUpdate_is rfl _ _ _ 60 rfl 9 33 Eetg.underlying60 Eetg.underlying9 (S k).mp (F k) name w.heap.size rfl rfl rfl m4 ?_)
       intro w5 m5 f5 s5
       have t5 := t4.mapped hk (s := name) (p := w.heap.size) (by rw [put_same]; exact m5) (by rw [put_same]; exact f5)
       have y5 := t5.2.sym y4
       have c52 := y5.cells.2.2.1
       clear m5 f5)
    | (go_at_call 41
       go_must (refine (upd_any n T (x + 1) k _ _ hk t5.1.chain).mono ?_)
       rintro e w6 ⟨rfl, h61, h62⟩))
  go_ret
  have t6 := t5.1.raised h61 h62
  refine ⟨rfl, ?_, ?_, k4.trans (t5.2.trans t6.2)⟩
  · rw [HG.out, HX.out]; exact t6.2.sym y5
  · have e : defS S k = raise (x + 1) k (put S k { S k with num := nu + 1 }) := by
      unfold defS; rw [HG.out, HX.out, ← HN.out]; rfl
    rw [e]; exact t6.1

set_option maxRecDepth 100000 in
set_option maxHeartbeats 1000000 in
/-- Define at the root. -/
theorem define_root {base n : Nat} {T : Nat → Nat} {S : Nat → Tab} {F : Nat → ByteArray → Option Nat} {xs : List Nat} (name : ByteArray) (w : World)
    (h : Tabs w base n T S F xs) (k : Nat) (hk : k < n) (hn : n ≤ 5000) (hs : Small S n 100000) (hk0 : k = 0) :
    Calls Eetg.prog 20 #[.pointer (some ⟨T k, 0, none⟩), .string name] w fun e w' => e = .returned (.pointer (some ⟨w.heap.size, 0, none⟩)) ∧ Defd w base n T S F xs name k w' := by
  obtain ⟨i3, hi3, _, hs3, _⟩ := info_parts info3'
  obtain ⟨i37, hi37, _, hs37, _⟩ := info_parts info37
  have hnx := next_any n T S 100000 (by omega) (by omega) hs k w hk h.chain
  have hx := nextIdx_le hs k hk
  have hnm := hs k hk
  obtain ⟨x, HX⟩ : ∃ x, Hid (nextIdx S k = x) := ⟨_, rfl⟩
  rw [HX.out] at hnx hx
  have hx2 : x ≤ 1000000000 := by
    have : (100000 : Int) * ((k : Int) + 1) ≤ 1000000000 := by omega
    omega
  replace hx := hx.1
  obtain ⟨nu, HN⟩ : ∃ nu, Hid ((S k).num = nu) := ⟨_, rfl⟩
  rw [HN.out] at hnm
  have HO : Hid (outer S T k = none) := by show _ = _; rw [hk0]; rfl
  have HG : Hid (isGlob S k = true) := by show _ = _; rw [hk0]; rfl
  have HK0 : Hid (k = 0) := hk0
  clear hk0 hs
  go_enter Eetg.func20, Eetg.ntmps20
  go_wp2_with fail
  refine hnx.mono ?_
  rintro e w1 ⟨rfl, q, rfl⟩
  clear hnx
  go_wp2_with (first
    | (refine wpList_box1 rfl _ 39 rfl _ rfl ?_
       intro w2 e2
       have f2 : Frm (fun _ => False) w w2 := by rw [e2.out]; exact ((Frm.refl _ _).drewN q).alloc _
       have s2 : w2.heap.size = w.heap.size + 1 := by rw [e2.out]; simp
       obtain ⟨sc0, y2⟩ : ∃ sc0, Sym w2 w.heap.size name sc0 x := ⟨_, by rw [e2.out]; exact sym_new⟩
       have t2 := h.grow f2
       have c3 := (t2.chain.cells hk).2.2.2.1
       rw [HN.out] at c3
       have cf3 := (t2.chain.cells hk).2.2.2.2.2.2.2 3)
    | (refine wpList_store1 rfl _ _ 3 rfl i3 hi3 hs3 ⟨T k, 3, none⟩ (.int .i64 (nu + 1)) _ rfl rfl rfl rfl c3 cf3 ?_
       intro w3 e3
       have t3 := t2.setNum hk (nu + 1) e3.out
       have y3 := t3.2.sym y2
       have c31 := y3.cells.2.1
       have cf31 := y3.cells.2.2.2.2 1
       clear c3 cf3)
    | (go_at_call 40
       go_must (refine (parent_put (t := { S k with num := nu + 1 }) hk rfl HO.out t3.1.chain).mono ?_)
       rintro e w3' ⟨rfl, rfl⟩)
    | (refine wpList_store1 rfl _ _ 37 rfl i37 hi37 hs37 ⟨w.heap.size, 1, none⟩ (.string scG) _ rfl rfl rfl rfl c31 cf31 ?_
       intro w4 e4
       have t4 : Tabs w4 base n T (put S k { S k with num := nu + 1 }) F xs := by rw [e4.out]; exact t3.1.symSet y3 _
       have y4 : Sym w4 w.heap.size name scG x := by rw [e4.out]; exact y3.setScope
       have k4 : FK base w w4 := by rw [e4.out]; exact ((FK.of f2 (fun _ z => z.elim)).trans t3.2).setFresh (Nat.le_refl _) _
       have c40 := (t4.chain.cells hk).1
       have ep : parOf T k = none := by rw [HK0.out]; rfl
       rw [ep] at c40
       clear ep
       have c42 := (t4.chain.cells hk).2.2.1
       rw [put_same] at c42
       have m4 := t4.maps k hk
       rw [put_same] at m4
       clear c31 cf31)
    | (at_mapUpdate
       go_must (refine wpList_mapUpdate_is rfl _ _ _ 60 rfl 9 33 Eetg.underlying60 Eetg.underlying9 (S k).mp (F k) name w.heap.size rfl rfl rfl m4 ?_)
       intro w5 m5 f5 s5
       have t5 := t4.mapped hk (s := name) (p := w.heap.size) (by rw [put_same]; exact m5) (by rw [put_same]; exact f5)
       have y5 := t5.2.sym y4
       have c52 := y5.cells.2.2.1
       clear m5 f5)
    | (go_at_call 41
       go_must (refine (upd_any n T (x + 1) k _ _ hk t5.1.chain).mono ?_)
       rintro e w6 ⟨rfl, h61, h62⟩))
  go_ret
  have t6 := t5.1.raised h61 h62
  refine ⟨rfl, ?_, ?_, k4.trans (t5.2.trans t6.2)⟩
  · rw [HG.out, HX.out]; exact t6.2.sym y5
  · have e : defS S k = raise (x + 1) k (put S k { S k with num := nu + 1 }) := by
      unfold defS; rw [HG.out, HX.out, ← HN.out, HK0.out]; rfl
    rw [e]; exact t6.1

set_option maxRecDepth 100000 in
set_option maxHeartbeats 1000000 in
/-- Define at a block of the global scope. -/
theorem define_glob {base n : Nat} {T : Nat → Nat} {S : Nat → Tab} {F : Nat → ByteArray → Option Nat} {xs : List Nat} (name : ByteArray) (w : World)
    (h : Tabs w base n T S F xs) (k : Nat) (hk : k < n) (hn : n ≤ 5000) (hs : Small S n 100000) (hk0 : 0 < k) (hg : isGlob S k = true) :
    Calls Eetg.prog 20 #[.pointer (some ⟨T k, 0, none⟩), .string name] w fun e w' => e = .returned (.pointer (some ⟨w.heap.size, 0, none⟩)) ∧ Defd w base n T S F xs name k w' := by
  obtain ⟨i3, hi3, _, hs3, _⟩ := info_parts info3'
  obtain ⟨i37, hi37, _, hs37, _⟩ := info_parts info37
  have hnx := next_any n T S 100000 (by omega) (by omega) hs k w hk h.chain
  have hx := nextIdx_le hs k hk
  have hnm := hs k hk
  obtain ⟨x, HX⟩ : ∃ x, Hid (nextIdx S k = x) := ⟨_, rfl⟩
  rw [HX.out] at hnx hx
  have hx2 : x ≤ 1000000000 := by
    have : (100000 : Int) * ((k : Int) + 1) ≤ 1000000000 := by omega
    omega
  replace hx := hx.1
  obtain ⟨nu, HN⟩ : ∃ nu, Hid ((S k).num = nu) := ⟨_, rfl⟩
  rw [HN.out] at hnm
  have HO : Hid (outer S T k = none) := by
    rcases outer_none S T k with ⟨_, h2⟩ | ⟨h1, _⟩
    · exact h2
    · rw [hg] at h1; cases h1
  have HG : Hid (isGlob S k = true) := hg
  have hn0 : 0 < n := by omega
  obtain ⟨j0, hj0⟩ : ∃ j0, k = j0 + 1 := ⟨k - 1, by omega⟩
  have HJ : Hid (k = j0 + 1) := hj0
  have hnz := hs 0 hn0
  obtain ⟨nz, HZ⟩ : ∃ nz, Hid ((S 0).num = nz) := ⟨_, rfl⟩
  rw [HZ.out] at hnz
  have hk0' : ¬ 0 = k := by omega
  clear hg hj0 hs
  go_enter Eetg.func20, Eetg.ntmps20
  go_wp2_with fail
  refine hnx.mono ?_
  rintro e w1 ⟨rfl, q, rfl⟩
  clear hnx
  go_wp2_with (first
    | (refine wpList_box1 rfl _ 39 rfl _ rfl ?_
       intro w2 e2
       have f2 : Frm (fun _ => False) w w2 := by rw [e2.out]; exact ((Frm.refl _ _).drewN q).alloc _
       have s2 : w2.heap.size = w.heap.size + 1 := by rw [e2.out]; simp
       obtain ⟨sc0, y2⟩ : ∃ sc0, Sym w2 w.heap.size name sc0 x := ⟨_, by rw [e2.out]; exact sym_new⟩
       have t2 := h.grow f2
       have c3 := (t2.chain.cells hk).2.2.2.1
       rw [HN.out] at c3
       have cf3 := (t2.chain.cells hk).2.2.2.2.2.2.2 3)
    | (refine wpList_store1 rfl _ _ 3 rfl i3 hi3 hs3 ⟨T k, 3, none⟩ (.int .i64 (nu + 1)) _ rfl rfl rfl rfl c3 cf3 ?_
       intro w3 e3
       have t3 := t2.setNum hk (nu + 1) e3.out
       have y3 := t3.2.sym y2
       have c31 := y3.cells.2.1
       have cf31 := y3.cells.2.2.2.2 1
       clear c3 cf3)
    | (go_at_call 40
       go_must (refine (parent_put (t := { S k with num := nu + 1 }) hk rfl HO.out t3.1.chain).mono ?_)
       rintro e w3' ⟨rfl, rfl⟩)
    | (refine wpList_store1 rfl _ _ 37 rfl i37 hi37 hs37 ⟨w.heap.size, 1, none⟩ (.string scG) _ rfl rfl rfl rfl c31 cf31 ?_
       intro w4 e4
       have t4 : Tabs w4 base n T (put S k { S k with num := nu + 1 }) F xs := by rw [e4.out]; exact t3.1.symSet y3 _
       have y4 : Sym w4 w.heap.size name scG x := by rw [e4.out]; exact y3.setScope
       have k4 : FK base w w4 := by rw [e4.out]; exact ((FK.of f2 (fun _ z => z.elim)).trans t3.2).setFresh (Nat.le_refl _) _
       have c40 := (t4.chain.cells hk).1
       have ep : parOf T k = some ⟨T j0, 0, none⟩ := by rw [HJ.out]; rfl
       rw [ep] at c40
       clear ep c31 cf31))
  go_loop [6] (fun v => ∃ i : Nat, i < k ∧ v = .pointer (some ⟨T i, 0, none⟩)) (fun v => blkOf v)
  case atStart => exact ⟨j0, by have := HJ.out; omega, rfl⟩
  case round =>
    obtain ⟨i, hik, rfl⟩ := hrel
    by_cases hi0 : i = 0
    · subst hi0
      have cp : w4.cell? ⟨T 0, 0, none⟩ = some (.pointer none) := (t4.chain.cells hn0).1
      have ck3 := (t4.chain.cells hk).2.2.2.1
      rw [put_same] at ck3
      have ckf := (t4.chain.cells hk).2.2.2.2.2.2.2 3
      go_wp2_with (first
        | (refine wpList_store1 rfl _ _ 3 rfl i3 hi3 hs3 ⟨T k, 3, none⟩ (.int .i64 nu) _ rfl rfl rfl rfl ck3 ckf ?_
           intro w5 e5
           have t5 := t4.setNum hk nu e5.out
           have y5 := t5.2.sym y4
           have es : put (put S k { S k with num := nu + 1 }) k { put S k { S k with num := nu + 1 } k with num := nu } = S := put_back S k _ nu HN.out rfl
           rw [es] at t5
           have c5z := (t5.1.chain.cells hn0).2.2.2.1
           rw [HZ.out] at c5z
           have c5f := (t5.1.chain.cells hn0).2.2.2.2.2.2.2 3
           clear ck3 ckf es)
        | (refine wpList_store1 rfl _ _ 3 rfl i3 hi3 hs3 ⟨T 0, 3, none⟩ (.int .i64 (nz + 1)) _ rfl rfl rfl rfl c5z c5f ?_
           intro w6 e6
           have t6 := t5.1.setNum hn0 (nz + 1) e6.out
           have y6 := t6.2.sym y5
           have c62 := (t6.1.chain.cells hk).2.2.1
           rw [put_other _ _ (fun z => hk0' z.symm)] at c62
           have m6 := t6.1.maps k hk
           rw [put_other _ _ (fun z => hk0' z.symm)] at m6
           clear c5z c5f)
        | (at_mapUpdate
           go_must (refine wpList_mapUpdate_is rfl _ _ _ 60 rfl 9 33 Eetg.underlying60 Eetg.underlying9 (S k).mp (F k) name w.heap.size rfl rfl rfl m6 ?_)
           intro w7 m7 f7 s7
           have t7 := t6.1.mapped hk (s := name) (p := w.heap.size) (by rw [put_other _ _ (fun z => hk0' z.symm)]; exact m7) (by rw [put_other _ _ (fun z => hk0' z.symm)]; exact f7)
           have y7 := t7.2.sym y6
           have c72 := y7.cells.2.2.1
           clear m7 f7)
        | (go_at_call 41
           go_must (refine (upd_any n T (x + 1) k _ _ hk t7.1.chain).mono ?_)
           rintro e w8 ⟨rfl, h81, h82⟩))
      go_ret
      have t8 := t7.1.raised h81 h82
      refine ⟨rfl, ?_, ?_, k4.trans (t5.2.trans (t6.2.trans (t7.2.trans t8.2)))⟩
      · rw [HG.out, HX.out]; exact t8.2.sym y7
      · have e : defS S k = raise (x + 1) k (put S 0 { S 0 with num := nz + 1 }) := by
          unfold defS; rw [HG.out, HX.out, ← HZ.out]; rfl
        rw [e]; exact t8.1
    · obtain ⟨i', rfl⟩ : ∃ i', i = i' + 1 := ⟨i - 1, by omega⟩
      have cp : w4.cell? ⟨T (i' + 1), 0, none⟩ = some (.pointer (some ⟨T i', 0, none⟩)) := (t4.chain.cells (by omega)).1
      have hmo := h.mono i' (i' + 1) (by omega) (by omega)
      go_wp2_with fail
      go_round
      case rel => exact ⟨i', by omega, rfl⟩
      case measure => simp [blkOf]; exact hmo

/-- Define at whatever table of the chain. -/
theorem define_any {base n : Nat} {T : Nat → Nat} {S : Nat → Tab} {F : Nat → ByteArray → Option Nat} {xs : List Nat} (name : ByteArray) (w : World)
    (h : Tabs w base n T S F xs) (k : Nat) (hk : k < n) (hn : n ≤ 5000) (hs : Small S n 100000) :
    Calls Eetg.prog 20 #[.pointer (some ⟨T k, 0, none⟩), .string name] w fun e w' => e = .returned (.pointer (some ⟨w.heap.size, 0, none⟩)) ∧ Defd w base n T S F xs name k w' := by
  cases hg : isGlob S k
  · exact define_local name w h k hk hn hs hg
  · by_cases e : k = 0
    · exact define_root name w h k hk hn hs e
    · exact define_glob name w h k hk hn hs (by omega) hg

end Go.Proofs.Yoeetw
