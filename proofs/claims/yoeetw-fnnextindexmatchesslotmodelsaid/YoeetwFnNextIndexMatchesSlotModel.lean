import Derived.Test.YoeetwMatches
import Derived.Test.YoeetwOpen8
import Derived.Test.YoeetwOpen
namespace Go.Proofs.Yoeetw.fnNextIndexMatchesSlotModel
open Go.ChangeShapes Go.WideShapes Go.ChangeAt Go.RowKit
set_option linter.unusedVariables false

set_option maxRecDepth 100000 in
theorem lifted (os : Os) (started : os.Started) (H : Type) (enc : TypeId × Value → H) :
    ReturnsInHanded {} Eetg.checked os 7 .any (Rows.fnNextIndexMatchesSlotModelSpec.pre6 enc Eetg.prog Eetg.f7 Rows.fnNextIndexMatchesSlotModelRow.domain false) (Rows.fnNextIndexMatchesSlotModelSpec.post enc Eetg.prog Eetg.f7 false true false false) := by
  refine returnsInHanded_of_change (C := Eetg.checked) own started (by kernel_rfl) Eetg.func7
    (ChangeSpec.witness6 (enc := enc) (C := Eetg.checked) false ⟨#[], #[.slice none 0 0], []⟩ 8 (by kernel_rfl) (by kernel_rfl) (by kernel_rfl) (by kernel_rfl)) ?_
  intro W base args ds gs before hval0 hW hcnd _
  have hval : ∀ (j : Nat) t v, Eetg.f7.params[j]? = some t → args[j]? = some v → Value.okWide Eetg.prog W .any base t v := hval0
  have hW' := hW
  obtain ⟨p, q, hA0, hV, rfl, hfz, hnd⟩ := hW
  have hA : DataW.TrodAll enc Eetg.prog W 0 (fun _ => true) true Eetg.f7.params.toList args.toList ds p := hA0
  rw [Eetg.params7] at hA hval
  obtain ⟨v0, vs0, d0, ds0, p0, q0, hargs, rfl, rfl, h0, r0⟩ := trodAll_cons hA
  obtain ⟨rfl, rfl, rfl⟩ := trodAll_nil r0
  obtain rfl : args = #[v0] := by cases args; simp_all
  obtain ⟨rfl, rfl⟩ := trodVars_none hV
  obtain ⟨a0, len0, cap0, rfl⟩ := okWide_slice Eetg.underlying51 (hval 0 51 v0 rfl rfl)
  have k0 := h0
  have lt0 : ∀ x ∈ p0, x.block < W.heap.size := by obtain ⟨m, hm⟩ := k0; exact DataW.trod_lt m _ _ _ hm
  obtain ⟨m0, g0, wf0, w0⟩ : len0 ≤ maxLen ∧ ∃ f : Nat → Int, (∀ i, (Lit.int .u8 (f i)).wf = true) ∧ Reads W W.heap.size a0 len0 (fun i => .int .u8 (f i)) := by
    obtain ⟨fuel, hf⟩ := h0
    exact reads_ints Eetg.underlying51 Eetg.underlying5 (by kernel_rfl) hf
  obtain ⟨f0, hf0, w0⟩ := reads_u8 wf0 w0
  clear hA0 hval0
  have walk : Calls Eetg.prog 7 #[.slice a0 len0 cap0] W fun e w' => e = .returned (.bool true) ∧ Below W.heap.size W w' := by
    by_cases hs : len0 ≤ 4096
    · exact matches_any a0 len0 cap0 f0 W hs hf0 w0
    · exact matches_long a0 len0 cap0 W m0 (by omega)
  refine walk.mono fun e W' ⟨he, bel⟩ => ?_
  subst he
  exact ⟨_, rfl, _, _, _, [], _, [], hW', trodAll_mk1 (shut_bool Eetg.underlying4 _), (trodAll_cons_mk (Below.trod laidOut (by kernel_rfl) (of_decide_eq_true (by kernel_rfl)) k0 bel lt0) trodAll_mk0), rfl, bel.frame _, fun h => by cases h⟩

theorem over : Rows.fnNextIndexMatchesSlotModelRow.holds Eetg.pinned (OpenSpec.ofChange Rows.fnNextIndexMatchesSlotModelSpec) :=
  OpenClaim.holds_of_wide 7 Eetg.f7 rfl rfl rfl rfl rfl rfl rfl ⟨rfl, rfl, rfl, rfl, rfl⟩ rfl rfl rfl rfl rfl (by kernel_rfl) Eetg.func7 (by kernel_rfl)
    (of_decide_eq_true (by kernel_rfl)) (by unfold Func.isWrapper; first | (rw [if_pos (by decide +kernel)]; kernel_rfl) | (rw [if_neg (by decide +kernel)]; exact ⟨rfl, rfl⟩))
    (fun os started H enc _ => lifted os started H enc)

/-- THE STATEMENT -/
theorem proved : Rows.FnNextIndexMatchesSlotModelSaid := over

end Go.Proofs.Yoeetw.fnNextIndexMatchesSlotModel
