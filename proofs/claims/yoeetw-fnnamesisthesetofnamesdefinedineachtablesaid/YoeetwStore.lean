import Derived.Test.YoeetwSlot
namespace Go.Proofs.Yoeetw
open Go.RowKit

/-! A store of one cell, at whatever type, the new world a letter. -/

section
variable {P : Program}

theorem run_store1 {w : World} {t : TypeId} {i : TypeInfo} (hi : P.info? t = some i) (hs : i.size = 1) {p : Addr} {u old : Value} (hu : u.cells = #[u]) (h1 : u.oneCell' = true) (hc : w.cell? p = some old) (hf : w.frozen? p = false) :
    (Instr.storeAt t (.pointer (some p)) u).run P w = .ok () (w.setCell p u) := by
  simp [Instr.storeAt, Instr.sureAddr, storeVar, sizeOf, typeInfo, hi, hs, hu, storeCells, Result.andThen]
  have e : p.add 0 = p := by simp [Addr.add]
  rw [e, run_store P w _ u _ h1]
  simp [hc, hf]

theorem wpList_store1 {w : World} {ops : Array Oper} {rest : List Oper} {o : Oper} {a : Act} {Q : Exit → Act → World → Prop}
    (hg : o.guard = none) (ad v : Operand) (t : TypeId) (hop : o.op = Op.store t ad v) (i : TypeInfo) (hi : P.info? t = some i) (hs : i.size = 1)
    (p : Addr) (u old : Value) (had : a.eval ad = .pointer (some p)) (hv : a.eval v = u) (hu : u.cells = #[u]) (h1 : u.oneCell' = true) (hc : w.cell? p = some old) (hf : w.frozen? p = false)
    (hK : ∀ w', Hid (w' = w.setCell p u) → wpList P ops Q rest (a.put o.dst undef) w') :
    wpList P ops Q (o :: rest) a w := by
  refine wpList_plain hg fun K' hK' => ?_
  have hrun := run_store1 (P := P) hi hs hu h1 hc hf
  unfold Oper.wp
  simp [execOp, hop, had, hv, hrun, Result.andThen]
  exact hK' _ _ (hK _ rfl)

/-- A new variable for a struct, the new world a letter. -/
theorem wpList_box1 {w : World} {ops : Array Oper} {rest : List Oper} {o : Oper} {a : Act} {Q : Exit → Act → World → Prop}
    (hg : o.guard = none) (v : Operand) (t : TypeId) (hop : o.op = Op.box t v) (cs : Array Value) (hv : a.eval v = .agg cs)
    (hK : ∀ w', Hid (w' = w.alloc (.cells cs t)) → wpList P ops Q rest (a.put o.dst (.pointer (some ⟨w.heap.size, 0, none⟩))) w') :
    wpList P ops Q (o :: rest) a w := by
  refine wpList_plain hg fun K' hK' => ?_
  unfold Oper.wp
  simp [execOp, hop, hv, Instr.box, newVar, newRow, Value.cells, Result.andThen]
  exact hK' _ _ (hK _ rfl)
end
end Go.Proofs.Yoeetw
