import Derived.Test.YoeetwOpen
namespace Go.Proofs.Yoeetw
open Go.RowKit

theorem wf_u8 {n : Int} (h : (Lit.int .u8 n).wf = true) : 0 ≤ n ∧ n < 256 := by
  simp [Lit.wf, IntKind.min, IntKind.max, IntKind.bits, IntKind.signed] at h; omega

/-- numbers of kind uint8 as natural numbers. -/
theorem reads_u8 {w : World} {B : Nat} {a : Option Addr} {len : Nat} {f : Nat → Int} (hw : ∀ i, (Lit.int .u8 (f i)).wf = true) (h : Reads w B a len (fun i => .int .u8 (f i))) :
    ∃ g : Nat → Nat, (∀ i, g i < 256) ∧ Reads w B a len (fun i => .int .u8 ((g i : Nat) : Int)) := by
  refine ⟨fun i => (f i).toNat, fun i => by have := wf_u8 (hw i); dsimp only; omega, fun i hi => ?_⟩
  obtain ⟨b, o, h1, h2, h3⟩ := h i hi
  refine ⟨b, o, h1, h2, ?_⟩
  have := wf_u8 (hw i)
  rw [h3]
  dsimp only
  rw [Int.toNat_of_nonneg this.1]

end Go.Proofs.Yoeetw
