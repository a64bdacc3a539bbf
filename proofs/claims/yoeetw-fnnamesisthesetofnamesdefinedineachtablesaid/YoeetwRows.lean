/-
  No cell of these rows narrows 'for every input' (looked for: loops, veiled, ifaces, maps, wideKeys, modest, calm, conditions, laid).
  DERIVED. THE GIVEN ROWS OF THIS SEAT. 8 by the template 'for every input the law returns true; each argument reads behind the call as it read before'; 0 by the template 'total and deterministic' (their statements: YoeetwTotals.lean).
  GIVEN WITH THE SEED: the statements are not yours to turn. If you find one false, say at which input.
  Laid BY PROGRAM, IN A SANDBOX (cutbox-rows.mjs): the forced cells as the released guide's own fill.sh prints them over the translation 21a9b4e842f9634b… (all of the seat's roots in one cut). By AI agents, Wed Nov 11 2026. No macro, syntax, notation, axiom, sorry.
-/
import Derived.Test.YoeetwChecked
import GoSem.Claim
import GoSem.ClaimJoined
import GoSem.ClaimMapViews
import Derived.JoinedTies
import Derived.KernelRfl
namespace Go.Proofs.Yoeetw
/- THE CELL 'sum', in the pinned program and in every row, IS THE sha256 OF THE DUMP (.gsa) THAT YoeetwProg.lean LOADS. Nothing in Lean hashes anything: it is a label: what it is worth is what the hold of that sum in a sandbox is worth. -/
noncomputable def Eetg.pinned : Pinned := { name := "yoeetw", sum := "21a9b4e842f9634b8b8703d9a23fc8b947b83fb9be134dd12b8f9b4edce21545", checked := Eetg.checked }
namespace Rows
def none {H : Type} : Left H := { results := [], args := [] }

/-- 'zzlaws_root_b3.FnBuiltinSymbolsListsEveryBuiltinInOrder': WHATEVER THE INPUT: true; the input reads as it did. -/
def fnBuiltinSymbolsListsEveryBuiltinInOrderSpec : ChangeSpec := { name := "fnBuiltinSymbolsListsEveryBuiltinInOrder", fn := fun _ => fun
  | [d1, d2, d3, d4] => { results := [.lit (.bool true)], args := [d1, d2, d3, d4] }
  | _ => none }
def fnBuiltinSymbolsListsEveryBuiltinInOrderRow : OpenClaim := { program := "yoeetw", sum := "21a9b4e842f9634b8b8703d9a23fc8b947b83fb9be134dd12b8f9b4edce21545", func := "github.com/d5/tengo/v2/zzlaws_root_b3.FnBuiltinSymbolsListsEveryBuiltinInOrder", spec := "fnBuiltinSymbolsListsEveryBuiltinInOrder", recurses := true, apart := false }
def FnBuiltinSymbolsListsEveryBuiltinInOrderSaid : Prop := fnBuiltinSymbolsListsEveryBuiltinInOrderRow.holds Eetg.pinned (OpenSpec.ofChange fnBuiltinSymbolsListsEveryBuiltinInOrderSpec)

/-- ITS FALSE NEIGHBOUR: 'it returns false'. Refute it at one input. -/
def fnBuiltinSymbolsListsEveryBuiltinInOrderWrong : ChangeSpec := { name := "fnBuiltinSymbolsListsEveryBuiltinInOrder", fn := fun _ => fun
  | [d1, d2, d3, d4] => { results := [.lit (.bool false)], args := [d1, d2, d3, d4] }
  | _ => none }
def FnBuiltinSymbolsListsEveryBuiltinInOrderWrongFalsely : Prop := fnBuiltinSymbolsListsEveryBuiltinInOrderRow.holds Eetg.pinned (OpenSpec.ofChange fnBuiltinSymbolsListsEveryBuiltinInOrderWrong)

/-- 'zzlaws_root_b3.FnBuiltinSymbolsSharedAndLastWins': WHATEVER THE INPUT: true; the input reads as it did. -/
def fnBuiltinSymbolsSharedAndLastWinsSpec : ChangeSpec := { name := "fnBuiltinSymbolsSharedAndLastWins", fn := fun _ => fun
  | [d1, d2, d3, d4] => { results := [.lit (.bool true)], args := [d1, d2, d3, d4] }
  | _ => none }
def fnBuiltinSymbolsSharedAndLastWinsRow : OpenClaim := { program := "yoeetw", sum := "21a9b4e842f9634b8b8703d9a23fc8b947b83fb9be134dd12b8f9b4edce21545", func := "github.com/d5/tengo/v2/zzlaws_root_b3.FnBuiltinSymbolsSharedAndLastWins", spec := "fnBuiltinSymbolsSharedAndLastWins", recurses := true, apart := false }
def FnBuiltinSymbolsSharedAndLastWinsSaid : Prop := fnBuiltinSymbolsSharedAndLastWinsRow.holds Eetg.pinned (OpenSpec.ofChange fnBuiltinSymbolsSharedAndLastWinsSpec)

/-- ITS FALSE NEIGHBOUR: 'it returns false'. Refute it at one input. -/
def fnBuiltinSymbolsSharedAndLastWinsWrong : ChangeSpec := { name := "fnBuiltinSymbolsSharedAndLastWins", fn := fun _ => fun
  | [d1, d2, d3, d4] => { results := [.lit (.bool false)], args := [d1, d2, d3, d4] }
  | _ => none }
def FnBuiltinSymbolsSharedAndLastWinsWrongFalsely : Prop := fnBuiltinSymbolsSharedAndLastWinsRow.holds Eetg.pinned (OpenSpec.ofChange fnBuiltinSymbolsSharedAndLastWinsWrong)

/-- 'zzlaws_root_b3.FnNamesIsTheSetOfNamesDefinedInEachTable': WHATEVER THE INPUT: true; the input reads as it did. -/
def fnNamesIsTheSetOfNamesDefinedInEachTableSpec : ChangeSpec := { name := "fnNamesIsTheSetOfNamesDefinedInEachTable", fn := fun _ => fun
  | [d1, d2, d3, d4] => { results := [.lit (.bool true)], args := [d1, d2, d3, d4] }
  | _ => none }
def fnNamesIsTheSetOfNamesDefinedInEachTableRow : OpenClaim := { program := "yoeetw", sum := "21a9b4e842f9634b8b8703d9a23fc8b947b83fb9be134dd12b8f9b4edce21545", func := "github.com/d5/tengo/v2/zzlaws_root_b3.FnNamesIsTheSetOfNamesDefinedInEachTable", spec := "fnNamesIsTheSetOfNamesDefinedInEachTable", recurses := true, apart := false }
def FnNamesIsTheSetOfNamesDefinedInEachTableSaid : Prop := fnNamesIsTheSetOfNamesDefinedInEachTableRow.holds Eetg.pinned (OpenSpec.ofChange fnNamesIsTheSetOfNamesDefinedInEachTableSpec)

/-- ITS FALSE NEIGHBOUR: 'it returns false'. Refute it at one input. -/
def fnNamesIsTheSetOfNamesDefinedInEachTableWrong : ChangeSpec := { name := "fnNamesIsTheSetOfNamesDefinedInEachTable", fn := fun _ => fun
  | [d1, d2, d3, d4] => { results := [.lit (.bool false)], args := [d1, d2, d3, d4] }
  | _ => none }
def FnNamesIsTheSetOfNamesDefinedInEachTableWrongFalsely : Prop := fnNamesIsTheSetOfNamesDefinedInEachTableRow.holds Eetg.pinned (OpenSpec.ofChange fnNamesIsTheSetOfNamesDefinedInEachTableWrong)

/-- 'zzlaws_root_b3.FnNamesEachResolvesAtRoot': WHATEVER THE INPUT: true; the input reads as it did. -/
def fnNamesEachResolvesAtRootSpec : ChangeSpec := { name := "fnNamesEachResolvesAtRoot", fn := fun _ => fun
  | [d1, d2] => { results := [.lit (.bool true)], args := [d1, d2] }
  | _ => none }
def fnNamesEachResolvesAtRootRow : OpenClaim := { program := "yoeetw", sum := "21a9b4e842f9634b8b8703d9a23fc8b947b83fb9be134dd12b8f9b4edce21545", func := "github.com/d5/tengo/v2/zzlaws_root_b3.FnNamesEachResolvesAtRoot", spec := "fnNamesEachResolvesAtRoot", recurses := true, apart := false }
def FnNamesEachResolvesAtRootSaid : Prop := fnNamesEachResolvesAtRootRow.holds Eetg.pinned (OpenSpec.ofChange fnNamesEachResolvesAtRootSpec)

/-- ITS FALSE NEIGHBOUR: 'it returns false'. Refute it at one input. -/
def fnNamesEachResolvesAtRootWrong : ChangeSpec := { name := "fnNamesEachResolvesAtRoot", fn := fun _ => fun
  | [d1, d2] => { results := [.lit (.bool false)], args := [d1, d2] }
  | _ => none }
def FnNamesEachResolvesAtRootWrongFalsely : Prop := fnNamesEachResolvesAtRootRow.holds Eetg.pinned (OpenSpec.ofChange fnNamesEachResolvesAtRootWrong)

/-- 'zzlaws_root_b3.FnNextIndexMatchesSlotModel': WHATEVER THE INPUT: true; the input reads as it did. -/
def fnNextIndexMatchesSlotModelSpec : ChangeSpec := { name := "fnNextIndexMatchesSlotModel", fn := fun _ => fun
  | [d] => { results := [.lit (.bool true)], args := [d] }
  | _ => none }
def fnNextIndexMatchesSlotModelRow : OpenClaim := { program := "yoeetw", sum := "21a9b4e842f9634b8b8703d9a23fc8b947b83fb9be134dd12b8f9b4edce21545", func := "github.com/d5/tengo/v2/zzlaws_root_b3.FnNextIndexMatchesSlotModel", spec := "fnNextIndexMatchesSlotModel", recurses := true, apart := false }
def FnNextIndexMatchesSlotModelSaid : Prop := fnNextIndexMatchesSlotModelRow.holds Eetg.pinned (OpenSpec.ofChange fnNextIndexMatchesSlotModelSpec)

/-- ITS FALSE NEIGHBOUR: 'it returns false'. Refute it at one input. -/
def fnNextIndexMatchesSlotModelWrong : ChangeSpec := { name := "fnNextIndexMatchesSlotModel", fn := fun _ => fun
  | [d] => { results := [.lit (.bool false)], args := [d] }
  | _ => none }
def FnNextIndexMatchesSlotModelWrongFalsely : Prop := fnNextIndexMatchesSlotModelRow.holds Eetg.pinned (OpenSpec.ofChange fnNextIndexMatchesSlotModelWrong)

/-- 'zzlaws_root_b3.FnNextIndexDefineTakesTheNextSlot': WHATEVER THE INPUT: true; the input reads as it did. -/
def fnNextIndexDefineTakesTheNextSlotSpec : ChangeSpec := { name := "fnNextIndexDefineTakesTheNextSlot", fn := fun _ => fun
  | [d] => { results := [.lit (.bool true)], args := [d] }
  | _ => none }
def fnNextIndexDefineTakesTheNextSlotRow : OpenClaim := { program := "yoeetw", sum := "21a9b4e842f9634b8b8703d9a23fc8b947b83fb9be134dd12b8f9b4edce21545", func := "github.com/d5/tengo/v2/zzlaws_root_b3.FnNextIndexDefineTakesTheNextSlot", spec := "fnNextIndexDefineTakesTheNextSlot", recurses := true, apart := false }
def FnNextIndexDefineTakesTheNextSlotSaid : Prop := fnNextIndexDefineTakesTheNextSlotRow.holds Eetg.pinned (OpenSpec.ofChange fnNextIndexDefineTakesTheNextSlotSpec)

/-- ITS FALSE NEIGHBOUR: 'it returns false'. Refute it at one input. -/
def fnNextIndexDefineTakesTheNextSlotWrong : ChangeSpec := { name := "fnNextIndexDefineTakesTheNextSlot", fn := fun _ => fun
  | [d] => { results := [.lit (.bool false)], args := [d] }
  | _ => none }
def FnNextIndexDefineTakesTheNextSlotWrongFalsely : Prop := fnNextIndexDefineTakesTheNextSlotRow.holds Eetg.pinned (OpenSpec.ofChange fnNextIndexDefineTakesTheNextSlotWrong)

/-- 'zzlaws_root_b3.FnUpdateMaxDefsRaisesBlockReach': WHATEVER THE INPUT: true; the input reads as it did. -/
def fnUpdateMaxDefsRaisesBlockReachSpec : ChangeSpec := { name := "fnUpdateMaxDefsRaisesBlockReach", fn := fun _ => fun
  | [d1, d2, d3] => { results := [.lit (.bool true)], args := [d1, d2, d3] }
  | _ => none }
def fnUpdateMaxDefsRaisesBlockReachRow : OpenClaim := { program := "yoeetw", sum := "21a9b4e842f9634b8b8703d9a23fc8b947b83fb9be134dd12b8f9b4edce21545", func := "github.com/d5/tengo/v2/zzlaws_root_b3.FnUpdateMaxDefsRaisesBlockReach", spec := "fnUpdateMaxDefsRaisesBlockReach", recurses := true, apart := false }
def FnUpdateMaxDefsRaisesBlockReachSaid : Prop := fnUpdateMaxDefsRaisesBlockReachRow.holds Eetg.pinned (OpenSpec.ofChange fnUpdateMaxDefsRaisesBlockReachSpec)

/-- ITS FALSE NEIGHBOUR: 'it returns false'. Refute it at one input. -/
def fnUpdateMaxDefsRaisesBlockReachWrong : ChangeSpec := { name := "fnUpdateMaxDefsRaisesBlockReach", fn := fun _ => fun
  | [d1, d2, d3] => { results := [.lit (.bool false)], args := [d1, d2, d3] }
  | _ => none }
def FnUpdateMaxDefsRaisesBlockReachWrongFalsely : Prop := fnUpdateMaxDefsRaisesBlockReachRow.holds Eetg.pinned (OpenSpec.ofChange fnUpdateMaxDefsRaisesBlockReachWrong)

/-- 'zzlaws_root_b3.FnUpdateMaxDefsOrderFreeAndIdempotent': WHATEVER THE INPUT: true; the input reads as it did. -/
def fnUpdateMaxDefsOrderFreeAndIdempotentSpec : ChangeSpec := { name := "fnUpdateMaxDefsOrderFreeAndIdempotent", fn := fun _ => fun
  | [d1, d2, d3] => { results := [.lit (.bool true)], args := [d1, d2, d3] }
  | _ => none }
def fnUpdateMaxDefsOrderFreeAndIdempotentRow : OpenClaim := { program := "yoeetw", sum := "21a9b4e842f9634b8b8703d9a23fc8b947b83fb9be134dd12b8f9b4edce21545", func := "github.com/d5/tengo/v2/zzlaws_root_b3.FnUpdateMaxDefsOrderFreeAndIdempotent", spec := "fnUpdateMaxDefsOrderFreeAndIdempotent", recurses := true, apart := false }
def FnUpdateMaxDefsOrderFreeAndIdempotentSaid : Prop := fnUpdateMaxDefsOrderFreeAndIdempotentRow.holds Eetg.pinned (OpenSpec.ofChange fnUpdateMaxDefsOrderFreeAndIdempotentSpec)

/-- ITS FALSE NEIGHBOUR: 'it returns false'. Refute it at one input. -/
def fnUpdateMaxDefsOrderFreeAndIdempotentWrong : ChangeSpec := { name := "fnUpdateMaxDefsOrderFreeAndIdempotent", fn := fun _ => fun
  | [d1, d2, d3] => { results := [.lit (.bool false)], args := [d1, d2, d3] }
  | _ => none }
def FnUpdateMaxDefsOrderFreeAndIdempotentWrongFalsely : Prop := fnUpdateMaxDefsOrderFreeAndIdempotentRow.holds Eetg.pinned (OpenSpec.ofChange fnUpdateMaxDefsOrderFreeAndIdempotentWrong)

end Rows
end Go.Proofs.Yoeetw
