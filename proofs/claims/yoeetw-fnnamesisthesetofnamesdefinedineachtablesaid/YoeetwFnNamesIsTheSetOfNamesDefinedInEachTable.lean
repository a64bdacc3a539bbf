import Derived.Test.YoeetwSet
import Derived.Test.YoeetwOpen
namespace Go.Proofs.Yoeetw.fnNamesIsTheSetOfNamesDefinedInEachTable
open Go.ChangeShapes Go.WideShapes Go.ChangeAt Go.RowKit
set_option linter.unusedVariables false

set_option maxRecDepth 100000 in
theorem lifted (os : Os) (started : os.Started) (H : Type) (enc : TypeId × Value → H) :
    ReturnsInHanded {} Eetg.checked os 5 .any (Rows.fnNamesIsTheSetOfNamesDefinedInEachTableSpec.pre6 enc Eetg.prog Eetg.f5 Rows.fnNamesIsTheSetOfNamesDefinedInEachTableRow.domain false) (Rows.fnNamesIsTheSetOfNamesDefinedInEachTableSpec.post enc Eetg.prog Eetg.f5 false true false false) := by
  refine returnsInHanded_of_change (C := Eetg.checked) own started (by kernel_rfl) Eetg.func5
    (ChangeSpec.witness6 (enc := enc) (C := Eetg.checked) false ⟨#[], #[.slice none 0 0, .slice none 0 0, .slice none 0 0, .slice none 0 0], []⟩ 8 (by kernel_rfl) (by kernel_rfl) (by kernel_rfl) (by kernel_rfl)) ?_
  intro W base args ds gs before hval0 hW hcnd _
  have hval : ∀ (j : Nat) t v, Eetg.f5.params[j]? = some t → args[j]? = some v → Value.okWide Eetg.prog W .any base t v := hval0
  have hW' := hW
  obtain ⟨p, q, hA0, hV, rfl, hfz, hnd⟩ := hW
  have hA : DataW.TrodAll enc Eetg.prog W 0 (fun _ => true) true Eetg.f5.params.toList args.toList ds p := hA0
  rw [Eetg.params5] at hA hval
  obtain ⟨v0, vs0, d0, ds0, p0, q0, hargs, rfl, rfl, h0, r0⟩ := trodAll_cons hA
  obtain ⟨v1, vs1, d1, ds1, p1, q1, rfl, rfl, rfl, h1, r1⟩ := trodAll_cons r0
  obtain ⟨v2, vs2, d2, ds2, p2, q2, rfl, rfl, rfl, h2, r2⟩ := trodAll_cons r1
  obtain ⟨v3, vs3, d3, ds3, p3, q3, rfl, rfl, rfl, h3, r3⟩ := trodAll_cons r2
  obtain ⟨rfl, rfl, rfl⟩ := trodAll_nil r3
  obtain rfl : args = #[v0, v1, v2, v3] := by cases args; simp_all
  obtain ⟨rfl, rfl⟩ := trodVars_none hV
  obtain ⟨a0, len0, cap0, rfl⟩ := okWide_slice Eetg.underlying22 (hval 0 22 v0 rfl rfl)
  obtain ⟨a1, len1, cap1, rfl⟩ := okWide_slice Eetg.underlying23 (hval 1 23 v1 rfl rfl)
  obtain ⟨a2, len2, cap2, rfl⟩ := okWide_slice Eetg.underlying22 (hval 2 22 v2 rfl rfl)
  obtain ⟨a3, len3, cap3, rfl⟩ := okWide_slice Eetg.underlying25 (hval 3 25 v3 rfl rfl)
  have k0 := h0
  have k1 := h1
  have k2 := h2
  have k3 := h3
  have lt0 : ∀ x ∈ p0, x.block < W.heap.size := by obtain ⟨m, hm⟩ := k0; exact DataW.trod_lt m _ _ _ hm
  have lt1 : ∀ x ∈ p1, x.block < W.heap.size := by obtain ⟨m, hm⟩ := k1; exact DataW.trod_lt m _ _ _ hm
  have lt2 : ∀ x ∈ p2, x.block < W.heap.size := by obtain ⟨m, hm⟩ := k2; exact DataW.trod_lt m _ _ _ hm
  have lt3 : ∀ x ∈ p3, x.block < W.heap.size := by obtain ⟨m, hm⟩ := k3; exact DataW.trod_lt m _ _ _ hm
  obtain ⟨m0, f0, w0⟩ : len0 ≤ maxLen ∧ ∃ f : Nat → Bool, Reads W W.heap.size a0 len0 (fun i => .bool (f i)) := by
    obtain ⟨fuel, hf⟩ := h0
    exact reads_bools Eetg.underlying22 Eetg.underlying4 (by kernel_rfl) hf
  obtain ⟨m1, g1, wf1, w1⟩ : len1 ≤ maxLen ∧ ∃ f : Nat → Int, (∀ i, (Lit.int .u16 (f i)).wf = true) ∧ Reads W W.heap.size a1 len1 (fun i => .int .u16 (f i)) := by
    obtain ⟨fuel, hf⟩ := h1
    exact reads_ints Eetg.underlying23 Eetg.underlying32 (by kernel_rfl) hf
  obtain ⟨f1, hf1, w1⟩ := reads_u16 wf1 w1
  obtain ⟨m2, f2, w2⟩ : len2 ≤ maxLen ∧ ∃ f : Nat → Bool, Reads W W.heap.size a2 len2 (fun i => .bool (f i)) := by
    obtain ⟨fuel, hf⟩ := h2
    exact reads_bools Eetg.underlying22 Eetg.underlying4 (by kernel_rfl) hf
  obtain ⟨m3, f3, wf3, w3⟩ : len3 ≤ maxLen ∧ ∃ f : Nat → ByteArray, (∀ i, (f i).size ≤ maxLen) ∧ Reads W W.heap.size a3 len3 (fun i => .string (f i)) := by
    obtain ⟨fuel, hf⟩ := h3
    exact reads_strings Eetg.underlying25 Eetg.underlying9 (by kernel_rfl) hf
  clear hA0 hval0
  have walk : Calls Eetg.prog 5 #[.slice a0 len0 cap0, .slice a1 len1 cap1, .slice a2 len2 cap2, .slice a3 len3 cap3] W fun e w' => e = .returned (.bool true) ∧ Below W.heap.size W w' := by
    by_cases hs : len0 ≤ 4096 ∧ len1 ≤ 4096 ∧ len2 ≤ 4096 ∧ len3 ≤ 4096
    · exact set_any a0 a1 a2 a3 len0 cap0 len1 cap1 len2 cap2 len3 cap3 f0 f1 f2 f3 W hs.1 hs.2.1 hs.2.2.1 hs.2.2.2 wf3 hf1 w0 w1 w2 w3
    · exact set_long a0 a1 a2 a3 len0 cap0 len1 cap1 len2 cap2 len3 cap3 f3 W m0 m1 m2 m3 wf3 w3 (by omega)
  refine walk.mono fun e W' ⟨he, bel⟩ => ?_
  subst he
  exact ⟨_, rfl, _, _, _, [], _, [], hW', trodAll_mk1 (shut_bool Eetg.underlying4 _), (trodAll_cons_mk (Below.trod laidOut (by kernel_rfl) (of_decide_eq_true (by kernel_rfl)) k0 bel lt0) (trodAll_cons_mk (Below.trod laidOut (by kernel_rfl) (of_decide_eq_true (by kernel_rfl)) k1 bel lt1) (trodAll_cons_mk (Below.trod laidOut (by kernel_rfl) (of_decide_eq_true (by kernel_rfl)) k2 bel lt2) (trodAll_cons_mk (Below.trod laidOut (by kernel_rfl) (of_decide_eq_true (by kernel_rfl)) k3 bel lt3) trodAll_mk0)))), rfl, bel.frame _, fun h => by cases h⟩

theorem over : Rows.fnNamesIsTheSetOfNamesDefinedInEachTableRow.holds Eetg.pinned (OpenSpec.ofChange Rows.fnNamesIsTheSetOfNamesDefinedInEachTableSpec) :=
  OpenClaim.holds_of_wide 5 Eetg.f5 rfl rfl rfl rfl rfl rfl rfl ⟨rfl, rfl, rfl, rfl, rfl⟩ rfl rfl rfl rfl rfl (by kernel_rfl) Eetg.func5 (by kernel_rfl)
    (of_decide_eq_true (by kernel_rfl)) (by unfold Func.isWrapper; first | (rw [if_pos (by decide +kernel)]; kernel_rfl) | (rw [if_neg (by decide +kernel)]; exact ⟨rfl, rfl⟩))
    (fun os started H enc _ => lifted os started H enc)

/-- THE STATEMENT -/
theorem proved : Rows.FnNamesIsTheSetOfNamesDefinedInEachTableSaid := over

end Go.Proofs.Yoeetw.fnNamesIsTheSetOfNamesDefinedInEachTable
