import Derived.Test.YoeetwBase
namespace Go.Proofs.Yoeetw

/-! Plain laws on 'updateMaxDefs': no Go here. -/

/-- The nearest table at or above k (toward the root) that is no block. -/
def lowN (ks : Nat → Bool) : Nat → Nat
  | 0 => 0
  | k + 1 => if ks k = true then lowN ks k else k + 1

theorem lowN_le (ks : Nat → Bool) (k : Nat) : lowN ks k ≤ k := by
  induction k with
  | zero => simp [lowN]
  | succ k ih => simp only [lowN]; split <;> omega

/-- The tables' marks 'block' are those of the kinds. -/
def Kinds (ks : Nat → Bool) (S : Nat → Tab) : Prop := (S 0).blk = false ∧ ∀ j, (S (j + 1)).blk = ks j

theorem Kinds.bump {ks : Nat → Bool} {S : Nat → Tab} (h : Kinds ks S) (v : Int) (k : Nat) : Kinds ks (bump v S k) :=
  ⟨by rw [bump_blk]; exact h.1, fun j => by rw [bump_blk]; exact h.2 j⟩

theorem Kinds.raise {ks : Nat → Bool} (v : Int) : ∀ (k : Nat) {S : Nat → Tab}, Kinds ks S → Kinds ks (raise v k S) := by
  intro k
  induction k with
  | zero => intro S h; exact h.bump v 0
  | succ k ih =>
    intro S h
    simp only [Yoeetw.raise]
    split
    · exact ih (h.bump v (k + 1))
    · exact h.bump v (k + 1)

theorem bump_mx (v : Int) (S : Nat → Tab) (k j : Nat) : (bump v S k j).mx = if j = k ∧ (S j).mx < v then v else (S j).mx := by
  unfold bump
  by_cases h : (S k).mx < v
  · rw [if_pos h]
    by_cases e : j = k
    · subst e; rw [put_same, if_pos ⟨rfl, h⟩]
    · rw [put_other _ _ e, if_neg (fun x => e x.1)]
  · rw [if_neg h]
    by_cases e : j = k
    · subst e; rw [if_neg (fun x => h x.2)]
    · rw [if_neg (fun x => e x.1)]

theorem raise_mx {ks : Nat → Bool} (v : Int) : ∀ (k : Nat) {S : Nat → Tab}, Kinds ks S → ∀ j,
    (raise v k S j).mx = if lowN ks k ≤ j ∧ j ≤ k ∧ (S j).mx < v then v else (S j).mx := by
  intro k
  induction k with
  | zero =>
    intro S h j
    simp only [raise, bump_mx]
    have hl : lowN ks 0 = 0 := rfl
    generalize lowN ks 0 = q at *
    subst hl
    by_cases e : j = 0
    · subst e; simp
    · rw [if_neg (fun x => e x.1), if_neg (by omega)]
  | succ k ih =>
    intro S h j
    have hle := lowN_le ks k
    simp only [raise, h.2 k]
    by_cases hk : ks k = true
    · have hl : lowN ks (k + 1) = lowN ks k := by simp [lowN, hk]
      generalize lowN ks (k + 1) = q at *
      subst hl
      rw [if_pos hk, ih (h.bump v (k + 1)) j, bump_mx]
      by_cases e : j = k + 1
      · subst e
        rw [if_neg (by omega)]
        by_cases hm : (S (k + 1)).mx < v
        · rw [if_pos ⟨rfl, hm⟩, if_pos ⟨by omega, by omega, hm⟩]
        · rw [if_neg (fun x => hm x.2), if_neg (fun x => hm x.2.2)]
      · have e1 : (if j = k + 1 ∧ (S j).mx < v then v else (S j).mx) = (S j).mx := if_neg (fun x => e x.1)
        simp only [e1]
        by_cases hm : lowN ks k ≤ j ∧ j ≤ k ∧ (S j).mx < v
        · rw [if_pos hm, if_pos ⟨hm.1, by omega, hm.2.2⟩]
        · rw [if_neg hm, if_neg (fun x => hm ⟨x.1, by omega, x.2.2⟩)]
    · have hl : lowN ks (k + 1) = k + 1 := by simp [lowN, hk]
      generalize lowN ks (k + 1) = q at *
      subst hl
      rw [if_neg hk, bump_mx]
      by_cases hm : j = k + 1 ∧ (S j).mx < v
      · rw [if_pos hm, if_pos ⟨by omega, by omega, hm.2⟩]
      · rw [if_neg hm, if_neg (fun x => hm ⟨by omega, x.2.2⟩)]

/-- The chain's state behind the first i calls. -/
def stAt (S0 : Nat → Tab) (n : Nat) (lv : Nat → Nat) (vs : Nat → Int) : Nat → (Nat → Tab)
  | 0 => S0
  | i + 1 => raise (vs i) (lv i % n) (stAt S0 n lv vs i)

theorem stAt_kinds {ks : Nat → Bool} {S0 : Nat → Tab} (h : Kinds ks S0) (n : Nat) (lv : Nat → Nat) (vs : Nat → Int) (i : Nat) : Kinds ks (stAt S0 n lv vs i) := by
  induction i with
  | zero => exact h
  | succ i ih => exact ih.raise _ _

/-- What the law reckons for table j out of the first i calls. -/
def wantN (ks : Nat → Bool) (n : Nat) (lv : Nat → Nat) (vs : Nat → Int) (j : Nat) : Nat → Int
  | 0 => 0
  | i + 1 => if lowN ks (lv i % n) ≤ j ∧ j ≤ lv i % n ∧ wantN ks n lv vs j i < vs i then vs i else wantN ks n lv vs j i

theorem stAt_mx {ks : Nat → Bool} {S0 : Nat → Tab} (h : Kinds ks S0) (h0 : ∀ j, (S0 j).mx = 0) (n : Nat) (lv : Nat → Nat) (vs : Nat → Int) (j i : Nat) :
    (stAt S0 n lv vs i j).mx = wantN ks n lv vs j i := by
  induction i with
  | zero => exact h0 j
  | succ i ih =>
    simp only [stAt, wantN]
    rw [raise_mx _ _ (stAt_kinds h n lv vs i)]
    simp only [ih]

end Go.Proofs.Yoeetw
