import Derived.Test.YoeetwPlainUpd
namespace Go.Proofs.Yoeetw

/-! The maxima that a batch of 'updateMaxDefs' leaves do not hang on the order of the calls. No Go here. -/

/-- Call i reaches table j. -/
def reach (ks : Nat → Bool) (n : Nat) (lv : Nat → Nat) (i j : Nat) : Prop := lowN ks (lv i % n) ≤ j ∧ j ≤ lv i % n

/-- M is the greatest of 0 and the values of those calls i (of which I holds) that reach table j. -/
structure IsMx (ks : Nat → Bool) (n : Nat) (lv : Nat → Nat) (vs : Nat → Int) (j : Nat) (I : Nat → Prop) (M : Int) : Prop where
  nn : 0 ≤ M
  ub : ∀ i, I i → reach ks n lv i j → vs i ≤ M
  att : M = 0 ∨ ∃ i, I i ∧ reach ks n lv i j ∧ vs i = M

section
variable {ks : Nat → Bool} {n : Nat} {lv : Nat → Nat} {vs : Nat → Int} {j : Nat}

theorem IsMx.unique {I : Nat → Prop} {M M' : Int} (h : IsMx ks n lv vs j I M) (h' : IsMx ks n lv vs j I M') : M = M' := by
  have a : M ≤ M' := by
    rcases h.att with e | ⟨i, h1, h2, h3⟩
    · rw [e]; exact h'.nn
    · rw [← h3]; exact h'.ub i h1 h2
  have b : M' ≤ M := by
    rcases h'.att with e | ⟨i, h1, h2, h3⟩
    · rw [e]; exact h.nn
    · rw [← h3]; exact h.ub i h1 h2
  omega

theorem IsMx.congr {I I' : Nat → Prop} {M : Int} (h : IsMx ks n lv vs j I M) (e : ∀ i, I i ↔ I' i) : IsMx ks n lv vs j I' M :=
  ⟨h.nn, fun i hi hr => h.ub i ((e i).2 hi) hr, by
    rcases h.att with x | ⟨i, h1, h2, h3⟩
    · exact Or.inl x
    · exact Or.inr ⟨i, (e i).1 h1, h2, h3⟩⟩

theorem IsMx.step {I : Nat → Prop} {M : Int} (h : IsMx ks n lv vs j I M) (k : Nat) :
    IsMx ks n lv vs j (fun i => I i ∨ i = k) (if lowN ks (lv k % n) ≤ j ∧ j ≤ lv k % n ∧ M < vs k then vs k else M) := by
  by_cases c : lowN ks (lv k % n) ≤ j ∧ j ≤ lv k % n ∧ M < vs k
  · rw [if_pos c]
    have := h.nn
    refine ⟨by omega, fun i hi hr => ?_, Or.inr ⟨k, Or.inr rfl, ⟨c.1, c.2.1⟩, rfl⟩⟩
    rcases hi with hi | hi
    · have := h.ub i hi hr; omega
    · rw [hi]; exact Int.le_refl _
  · rw [if_neg c]
    refine ⟨h.nn, fun i hi hr => ?_, ?_⟩
    · rcases hi with hi | hi
      · exact h.ub i hi hr
      · subst hi
        have h1 := hr.1
        have h2 := hr.2
        by_cases g : M < vs i
        · exact absurd ⟨h1, h2, g⟩ c
        · omega
    · rcases h.att with e | ⟨i, h1, h2, h3⟩
      · exact Or.inl e
      · exact Or.inr ⟨i, Or.inl h1, h2, h3⟩

/-- The calls in the order of the list. -/
theorem up_isMx {S0 : Nat → Tab} (h : Kinds ks S0) (h0 : ∀ j, (S0 j).mx = 0) (i : Nat) : IsMx ks n lv vs j (fun x => x < i) (stAt S0 n lv vs i j).mx := by
  induction i with
  | zero => exact ⟨by rw [stAt, h0]; exact Int.le_refl _, fun i hi => by omega, Or.inl (by rw [stAt, h0])⟩
  | succ i ih =>
    simp only [stAt]
    rw [raise_mx _ _ (stAt_kinds h n lv vs i)]
    exact (ih.step i).congr (fun x => by omega)

/-- The calls from the list's end, k of them. -/
def stDn (S0 : Nat → Tab) (n : Nat) (lv : Nat → Nat) (vs : Nat → Int) (m : Nat) : Nat → (Nat → Tab)
  | 0 => S0
  | k + 1 => raise (vs (m - 1 - k)) (lv (m - 1 - k) % n) (stDn S0 n lv vs m k)

theorem stDn_kinds {S0 : Nat → Tab} (h : Kinds ks S0) (m k : Nat) : Kinds ks (stDn S0 n lv vs m k) := by
  induction k with
  | zero => exact h
  | succ k ih => exact ih.raise _ _

theorem dn_isMx {S0 : Nat → Tab} (h : Kinds ks S0) (h0 : ∀ j, (S0 j).mx = 0) (m k : Nat) (hk : k ≤ m) : IsMx ks n lv vs j (fun x => m - k ≤ x ∧ x < m) (stDn S0 n lv vs m k j).mx := by
  induction k with
  | zero => exact ⟨by rw [stDn, h0]; exact Int.le_refl _, fun i hi => by omega, Or.inl (by rw [stDn, h0])⟩
  | succ k ih =>
    simp only [stDn]
    rw [raise_mx _ _ (stDn_kinds h m k)]
    exact ((ih (by omega)).step (m - 1 - k)).congr (fun x => by omega)

/-- The order does not matter. -/
theorem order_free {S0 S1 : Nat → Tab} (h : Kinds ks S0) (h0 : ∀ j, (S0 j).mx = 0) (h' : Kinds ks S1) (h0' : ∀ j, (S1 j).mx = 0) (m j : Nat) :
    (stDn S1 n lv vs m m j).mx = (stAt S0 n lv vs m j).mx :=
  ((dn_isMx h' h0' m m (Nat.le_refl _)).congr (fun x => by omega)).unique (up_isMx h h0 m)

/-- A second pass changes nothing. -/
theorem second_pass {S0 : Nat → Tab} (h : Kinds ks S0) (h0 : ∀ j, (S0 j).mx = 0) (m k : Nat) (hk : k ≤ m) (j : Nat) :
    (stAt (stAt S0 n lv vs m) n lv vs k j).mx = (stAt S0 n lv vs m j).mx := by
  induction k with
  | zero => rfl
  | succ k ih =>
    have hx := up_isMx (n := n) (lv := lv) (vs := vs) (j := j) h h0 m
    have hi := ih (by omega)
    simp only [stAt]
    rw [raise_mx _ _ (stAt_kinds (stAt_kinds h n lv vs m) n lv vs k), hi]
    rw [if_neg]
    rintro ⟨h1, h2, h3⟩
    have := hx.ub k (by omega) ⟨h1, h2⟩
    omega

end
end Go.Proofs.Yoeetw
