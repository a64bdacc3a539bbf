import Derived.Test.YoeetwChain
import Derived.ProofKit
import Derived.OpenShut
import Derived.ShutString
import Derived.ChangeOld
import Derived.Below
import Derived.Deep.Grids
import Derived.SliceStrings
namespace Go.Proofs.Yoeetw
open Go.ChangeShapes Go.WideShapes Go.ChangeAt Go.RowKit Go.Deep

theorem own : ownKnob Eetg.prog.godebug = none := by kernel_rfl
theorem laidOut : laidOutB Eetg.prog = true := by kernel_rfl

theorem reads_of {w : World} {x : Addr} {len : Nat} {f : Nat → Value} (h : ∀ i, i < len → w.cell? (x.add i) = some (f i)) : Reads w w.heap.size (some x) len f := by
  intro i hi
  have h0 := h 0 (by omega)
  have hi' := h i hi
  obtain ⟨b, o, s⟩ := x
  have e0 : (⟨b, o, s⟩ : Addr).add 0 = ⟨b, o, s⟩ := by simp [Addr.add]
  rw [e0] at h0
  obtain rfl : s = none := by
    cases s with
    | none => rfl
    | some y =>
      exfalso
      unfold World.cell? at h0
      split at h0 <;> simp at h0
  have e1 : (⟨b, o, none⟩ : Addr).add i = ⟨b, o + i, none⟩ := by unfold Addr.add; split <;> simp_all
  rw [e1] at hi'
  exact ⟨b, o, rfl, World.block_lt_of_cell? _ _ h0, hi'⟩

theorem reads_nil (w : World) (B : Nat) (f : Nat → Value) : Reads w B none 0 f := fun i hi => by omega

section
variable {H : Type} {enc : TypeId × Value → H} {P : Program} {W : World} {base : Nat} {spare : Nat → Bool} {held : Bool}

theorem reads_ints {t e : TypeId} {k : IntKind} {fuel : Nat} {a : Option Addr} {len cap : Nat} {x : DataW H × List MemPlace} (ht : P.underlying t = some (.slice e)) (he : P.underlying e = some (.int k)) (hc : P.cellsOf e = 1)
    (h : DataW.trod enc P W base spare held fuel t (Value.slice a len cap).cells.toList = some x) : len ≤ maxLen ∧ ∃ f : Nat → Int, (∀ i, (Lit.int k (f i)).wf = true) ∧ Reads W W.heap.size a len (fun i => .int k (f i)) := by
  have hz : (Lit.int k 0).wf = true := by cases k <;> decide
  rcases open_ints ht he hc h with ⟨hcs, _⟩ | ⟨y, l, c, zs, hcs, _, hl, hm, hz', _, hcell, hwz⟩
  · simp [Value.cells] at hcs
    obtain ⟨rfl, rfl, rfl⟩ := hcs
    exact ⟨by unfold maxLen; omega, fun _ => 0, fun _ => hz, reads_nil _ _ _⟩
  · simp [Value.cells] at hcs
    obtain ⟨rfl, rfl, rfl⟩ := hcs
    refine ⟨by omega, fun i => zs.getD i 0, fun i => ?_, reads_of fun i hi => hcell i ?_⟩
    · dsimp only
      by_cases hi : i < zs.length
      · rw [List.getD_eq_getElem?_getD, List.getElem?_eq_getElem hi]; exact hwz _ (List.getElem_mem hi)
      · rw [List.getD_eq_getElem?_getD, List.getElem?_eq_none (by omega)]; exact hz
    · rw [hz']; split <;> omega

theorem reads_bools {t e : TypeId} {fuel : Nat} {a : Option Addr} {len cap : Nat} {x : DataW H × List MemPlace} (ht : P.underlying t = some (.slice e)) (he : P.underlying e = some .bool) (hc : P.cellsOf e = 1)
    (h : DataW.trod enc P W base (fun _ => true) held fuel t (Value.slice a len cap).cells.toList = some x) : len ≤ maxLen ∧ ∃ f : Nat → Bool, Reads W W.heap.size a len (fun i => .bool (f i)) := by
  rcases open_bools ht he hc h with ⟨hcs, _⟩ | ⟨y, l, c, B, hcs, _, hl, hm, _, hcell⟩
  · simp [Value.cells] at hcs
    obtain ⟨rfl, rfl, rfl⟩ := hcs
    exact ⟨by unfold maxLen; omega, fun _ => false, reads_nil _ _ _⟩
  · simp [Value.cells] at hcs
    obtain ⟨rfl, rfl, rfl⟩ := hcs
    exact ⟨by omega, B, reads_of fun i hi => hcell i (by omega)⟩

theorem reads_strings {t e : TypeId} {fuel : Nat} {a : Option Addr} {len cap : Nat} {x : DataW H × List MemPlace} (ht : P.underlying t = some (.slice e)) (he : P.underlying e = some .string) (hc : P.cellsOf e = 1)
    (h : DataW.trod enc P W base spare held fuel t (Value.slice a len cap).cells.toList = some x) : len ≤ maxLen ∧ ∃ f : Nat → ByteArray, (∀ i, (f i).size ≤ maxLen) ∧ Reads W W.heap.size a len (fun i => .string (f i)) := by
  rcases open_strings ht he hc h with ⟨hcs, _⟩ | ⟨y, l, c, zs, hcs, _, hl, hm, hz', _, hcell, hsz⟩
  · simp [Value.cells] at hcs
    obtain ⟨rfl, rfl, rfl⟩ := hcs
    exact ⟨by unfold maxLen; omega, fun _ => ByteArray.empty, fun _ => by unfold maxLen; exact Nat.zero_le _, reads_nil _ _ _⟩
  · simp [Value.cells] at hcs
    obtain ⟨rfl, rfl, rfl⟩ := hcs
    refine ⟨by omega, fun i => zs.getD i ByteArray.empty, fun i => ?_, reads_of fun i hi => hcell i ?_⟩
    · dsimp only
      by_cases hi : i < zs.length
      · rw [List.getD_eq_getElem?_getD, List.getElem?_eq_getElem hi]; exact hsz _ (List.getElem_mem hi)
      · rw [List.getD_eq_getElem?_getD, List.getElem?_eq_none (by omega)]; unfold maxLen; exact Nat.zero_le _
    · rw [hz']; split <;> omega

end

theorem wf_u16 {n : Int} (h : (Lit.int .u16 n).wf = true) : 0 ≤ n ∧ n < 65536 := by
  simp [Lit.wf, IntKind.min, IntKind.max, IntKind.bits, IntKind.signed] at h; omega

/-- numbers of kind uint16 as natural numbers. -/
theorem reads_u16 {w : World} {B : Nat} {a : Option Addr} {len : Nat} {f : Nat → Int} (hw : ∀ i, (Lit.int .u16 (f i)).wf = true) (h : Reads w B a len (fun i => .int .u16 (f i))) :
    ∃ g : Nat → Nat, (∀ i, g i < 65536) ∧ Reads w B a len (fun i => .int .u16 ((g i : Nat) : Int)) := by
  refine ⟨fun i => (f i).toNat, fun i => by have := wf_u16 (hw i); dsimp only; omega, fun i hi => ?_⟩
  obtain ⟨b, o, h1, h2, h3⟩ := h i hi
  refine ⟨b, o, h1, h2, ?_⟩
  have := wf_u16 (hw i)
  rw [h3]
  dsimp only
  rw [Int.toNat_of_nonneg this.1]

end Go.Proofs.Yoeetw
