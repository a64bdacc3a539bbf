import Derived.Test.YoeetwBase
namespace Go.Proofs.Yoeetw
open Go.RowKit

/-! Plain facts: the order of strings, rearrangements. -/

theorem bl_irrefl : ∀ x : List UInt8, Op.bytesLess x x = false := by
  intro x
  induction x with
  | nil => rfl
  | cons a x ih => simp [Op.bytesLess, ih]

theorem bl_trans : ∀ x y z : List UInt8, Op.bytesLess x y = true → Op.bytesLess y z = true → Op.bytesLess x z = true := by
  intro x
  induction x with
  | nil =>
    intro y z h1 h2
    cases z with
    | nil => cases y <;> simp [Op.bytesLess] at h2
    | cons c z => rfl
  | cons a x ih =>
    intro y z h1 h2
    cases y with
    | nil => simp [Op.bytesLess] at h1
    | cons b y =>
      cases z with
      | nil => simp [Op.bytesLess] at h2
      | cons c z =>
        simp only [Op.bytesLess, Bool.or_eq_true, Bool.and_eq_true, decide_eq_true_eq, beq_iff_eq] at h1 h2 ⊢
        rcases h1 with h1 | ⟨rfl, h1⟩
        · rcases h2 with h2 | ⟨rfl, h2⟩
          · left; rw [UInt8.lt_iff_toNat_lt] at *; omega
          · exact Or.inl h1
        · rcases h2 with h2 | ⟨rfl, h2⟩
          · exact Or.inl h2
          · exact Or.inr ⟨rfl, ih _ _ h1 h2⟩

theorem bl_tri : ∀ x y : List UInt8, Op.bytesLess x y = true ∨ x = y ∨ Op.bytesLess y x = true := by
  intro x
  induction x with
  | nil => intro y; cases y <;> simp [Op.bytesLess]
  | cons a x ih =>
    intro y
    cases y with
    | nil => simp [Op.bytesLess]
    | cons b y =>
      simp only [Op.bytesLess, Bool.or_eq_true, Bool.and_eq_true, decide_eq_true_eq, beq_iff_eq, List.cons.injEq]
      rcases Nat.lt_trichotomy a.toNat b.toNat with h | h | h
      · exact Or.inl (Or.inl (UInt8.lt_iff_toNat_lt.2 h))
      · have e : a = b := UInt8.toNat_inj.1 h
        subst e
        rcases ih y with h | h | h
        · exact Or.inl (Or.inr ⟨rfl, h⟩)
        · exact Or.inr (Or.inl ⟨rfl, h⟩)
        · exact Or.inr (Or.inr (Or.inr ⟨rfl, h⟩))
      · exact Or.inr (Or.inr (Or.inl (UInt8.lt_iff_toNat_lt.2 h)))

theorem toList_inj {a b : ByteArray} (h : a.toList = b.toList) : a = b := by
  rw [ByteArray.toList_eq, ByteArray.toList_eq] at h
  cases a; cases b
  simp at h
  rw [h]

def slt (a b : ByteArray) : Prop := Op.bytesLess a.toList b.toList = true
def sle (a b : ByteArray) : Prop := slt a b ∨ a = b

theorem slt_irrefl {a : ByteArray} (h : slt a a) : False := by
  unfold slt at h
  rw [bl_irrefl] at h; cases h

theorem slt_trans {a b c : ByteArray} (h : slt a b) (k : slt b c) : slt a c := bl_trans _ _ _ h k

theorem slt_tri (a b : ByteArray) : slt a b ∨ a = b ∨ slt b a := by
  rcases bl_tri a.toList b.toList with h | h | h
  · exact Or.inl h
  · exact Or.inr (Or.inl (toList_inj h))
  · exact Or.inr (Or.inr h)

theorem sle_trans {a b c : ByteArray} (h : sle a b) (k : sle b c) : sle a c := by
  rcases h with h | rfl
  · rcases k with k | rfl
    · exact Or.inl (slt_trans h k)
    · exact Or.inl h
  · exact k

theorem sle_of_gt_false {a b : ByteArray} : sle a b ↔ (!(Op.bytesLess a.toList b.toList || a.toList == b.toList)) = false := by
  unfold sle slt
  simp only [Bool.not_eq_false', Bool.or_eq_true, beq_iff_eq]
  constructor
  · rintro (h | rfl)
    · exact Or.inl h
    · exact Or.inr rfl
  · rintro (h | h)
    · exact Or.inl h
    · exact Or.inr (toList_inj h)

theorem slt_of_not_sle {a b : ByteArray} (h : ¬ sle a b) : slt b a := by
  rcases slt_tri a b with k | k | k
  · exact absurd (Or.inl k) h
  · exact absurd (Or.inr k) h
  · exact k

/-- b's first n are a's first n in another order. -/
def PermF (n : Nat) (a b : Nat → ByteArray) : Prop :=
  ∃ σ : Nat → Nat, (∀ i, i < n → σ i < n) ∧ (∀ i j, i < n → j < n → σ i = σ j → i = j) ∧ (∀ j, j < n → ∃ i, i < n ∧ σ i = j) ∧ ∀ i, i < n → b i = a (σ i)

theorem PermF.refl (n : Nat) (a : Nat → ByteArray) : PermF n a a := ⟨fun i => i, fun _ h => h, fun _ _ _ _ h => h, fun j h => ⟨j, h, rfl⟩, fun _ _ => rfl⟩

def tr (r s i : Nat) : Nat := if i = r then s else if i = s then r else i

theorem tr_tr (r s i : Nat) : tr r s (tr r s i) = i := by
  unfold tr
  by_cases h1 : i = r
  · rw [if_pos h1]
    by_cases h2 : s = r
    · rw [if_pos h2]; omega
    · rw [if_neg h2, if_pos rfl]; omega
  · rw [if_neg h1]
    by_cases h2 : i = s
    · rw [if_pos h2, if_pos rfl]; omega
    · rw [if_neg h2, if_neg h1, if_neg h2]

theorem tr_lt {n r s i : Nat} (hr : r < n) (hs : s < n) (hi : i < n) : tr r s i < n := by
  unfold tr
  split
  · exact hs
  · split
    · exact hr
    · exact hi

theorem PermF.swap {n : Nat} {a b c : Nat → ByteArray} (h : PermF n a b) {r s : Nat} (hr : r < n) (hs : s < n) (hc : ∀ i, i < n → c i = b (tr r s i)) : PermF n a c := by
  obtain ⟨σ, h1, h2, h3, h4⟩ := h
  refine ⟨fun i => σ (tr r s i), fun i hi => h1 _ (tr_lt hr hs hi), fun i j hi hj e => ?_, fun j hj => ?_, fun i hi => (hc i hi).trans (h4 _ (tr_lt hr hs hi))⟩
  · have := h2 _ _ (tr_lt hr hs hi) (tr_lt hr hs hj) e
    rw [← tr_tr r s i, this, tr_tr]
  · obtain ⟨i, hi, hx⟩ := h3 j hj
    exact ⟨tr r s i, tr_lt hr hs hi, by show σ (tr r s (tr r s i)) = j; rw [tr_tr]; exact hx⟩

theorem PermF.congr {n : Nat} {a b c : Nat → ByteArray} (h : PermF n a b) (hc : ∀ i, i < n → c i = b i) : PermF n a c := by
  obtain ⟨σ, h1, h2, h3, h4⟩ := h
  exact ⟨σ, h1, h2, h3, fun i hi => (hc i hi).trans (h4 i hi)⟩

theorem PermF.mem {n : Nat} {a b : Nat → ByteArray} (h : PermF n a b) (s : ByteArray) : (∃ i, i < n ∧ b i = s) ↔ ∃ i, i < n ∧ a i = s := by
  obtain ⟨σ, h1, h2, h3, h4⟩ := h
  constructor
  · rintro ⟨i, hi, e⟩
    exact ⟨σ i, h1 i hi, by rw [← h4 i hi]; exact e⟩
  · rintro ⟨j, hj, e⟩
    obtain ⟨i, hi, hx⟩ := h3 j hj
    exact ⟨i, hi, by rw [h4 i hi, hx]; exact e⟩

theorem PermF.inj {n : Nat} {a b : Nat → ByteArray} (h : PermF n a b) (ha : ∀ i j, i < n → j < n → a i = a j → i = j) : ∀ i j, i < n → j < n → b i = b j → i = j := by
  obtain ⟨σ, h1, h2, h3, h4⟩ := h
  intro i j hi hj e
  rw [h4 i hi, h4 j hj] at e
  exact h2 i j hi hj (ha _ _ (h1 i hi) (h1 j hj) e)

/-! The insertion sort's inner loop. -/

/-- a, but v at place r. -/
def seth (a : Nat → ByteArray) (r : Nat) (v : ByteArray) : Nat → ByteArray := fun i => if i = r then v else a i

/-- Places 0 .. i of M are in order but for the hole r; those behind the hole lie above v; with v in the hole M is a's first n in another order. -/
structure Ins (n : Nat) (a M : Nat → ByteArray) (v : ByteArray) (i r : Nat) : Prop where
  ord : ∀ p q, p < q → q ≤ i → p ≠ r → q ≠ r → sle (M p) (M q)
  up : ∀ q, r < q → q ≤ i → slt v (M q)
  perm : PermF n a (seth M r v)

theorem Ins.start {n i : Nat} {a M : Nat → ByteArray} (hs : ∀ p q, p < q → q < i → sle (M p) (M q)) (hp : PermF n a M) : Ins n a M (M i) i i := by
  refine ⟨fun p q h1 h2 _ h4 => hs p q h1 (by omega), fun q h1 h2 => by omega, hp.congr fun j _ => ?_⟩
  unfold seth
  by_cases e : j = i
  · rw [if_pos e, e]
  · rw [if_neg e]

theorem Ins.step {n i j : Nat} {a M : Nat → ByteArray} {v : ByteArray} (h : Ins n a M v i (j + 1)) (hi : i < n) (hj : j + 1 ≤ i) (hgt : ¬ sle (M j) v) : Ins n a (seth M (j + 1) (M j)) v i j := by
  have e1 : ∀ q, q ≠ j + 1 → seth M (j + 1) (M j) q = M q := fun q hq => by unfold seth; rw [if_neg hq]
  have e2 : seth M (j + 1) (M j) (j + 1) = M j := by unfold seth; rw [if_pos rfl]
  refine ⟨fun p q h1 h2 h3 h4 => ?_, fun q h1 h2 => ?_, h.perm.swap (r := j) (s := j + 1) (by omega) (by omega) fun k hk => ?_⟩
  · by_cases ep : p = j + 1
    · rw [ep, e2, e1 q (by omega)]
      exact h.ord j q (by omega) h2 (by omega) (by omega)
    · rw [e1 p ep]
      by_cases eq : q = j + 1
      · rw [eq, e2]
        exact h.ord p j (by omega) (by omega) (by omega) (by omega)
      · rw [e1 q eq]
        exact h.ord p q h1 h2 ep eq
  · by_cases eq : q = j + 1
    · rw [eq, e2]; exact slt_of_not_sle hgt
    · rw [e1 q eq]; exact h.up q (by omega) h2
  · unfold seth tr
    by_cases e : k = j
    · rw [if_pos e, if_pos e, if_pos rfl]
    · rw [if_neg e, if_neg e]
      by_cases e' : k = j + 1
      · rw [if_pos e', if_pos e', if_neg (by omega)]
      · rw [if_neg e', if_neg e', if_neg e']

theorem Ins.done {n i r : Nat} {a M : Nat → ByteArray} {v : ByteArray} (h : Ins n a M v i r) (hlo : ∀ j, r = j + 1 → sle (M j) v) (hr : r ≤ i) :
    (∀ p q, p < q → q < i + 1 → sle (seth M r v p) (seth M r v q)) ∧ PermF n a (seth M r v) := by
  refine ⟨fun p q h1 h2 => ?_, h.perm⟩
  unfold seth
  by_cases ep : p = r
  · rw [if_pos ep, if_neg (by omega)]
    exact Or.inl (h.up q (by omega) (by omega))
  · rw [if_neg ep]
    by_cases eq : q = r
    · rw [if_pos eq]
      obtain ⟨j, rfl⟩ : ∃ j, r = j + 1 := ⟨r - 1, by omega⟩
      by_cases e : p = j
      · rw [e]; exact hlo j rfl
      · exact sle_trans (h.ord p j (by omega) (by omega) ep (by omega)) (hlo j rfl)
    · rw [if_neg eq]; exact h.ord p q h1 (by omega) ep eq

/-- Two strictly ordered rows with the same members are the same row. -/
theorem same_rows {n m : Nat} {a b : Nat → ByteArray} (ha : ∀ p q, p < q → q < n → slt (a p) (a q)) (hb : ∀ p q, p < q → q < m → slt (b p) (b q))
    (hab : ∀ s, (∃ i, i < n ∧ a i = s) ↔ ∃ i, i < m ∧ b i = s) : n = m ∧ ∀ i, i < n → a i = b i := by
  have key : ∀ {n m : Nat} {a b : Nat → ByteArray}, (∀ p q, p < q → q < n → slt (a p) (a q)) → (∀ p q, p < q → q < m → slt (b p) (b q)) →
      (∀ s, (∃ i, i < n ∧ a i = s) ↔ ∃ i, i < m ∧ b i = s) → ∀ k, k < n → k < m ∧ ∀ i, i ≤ k → a i = b i := by
    intro n m a b ha hb hab k
    induction k with
    | zero =>
      intro hk
      obtain ⟨j, hj, e⟩ := (hab (a 0)).1 ⟨0, hk, rfl⟩
      have hm : 0 < m := by omega
      refine ⟨hm, fun i hi => ?_⟩
      have hi0 : i = 0 := by omega
      subst hi0
      by_cases j0 : j = 0
      · rw [← e, j0]
      · obtain ⟨i, hi, e'⟩ := (hab (b 0)).2 ⟨0, hm, rfl⟩
        by_cases i0 : i = 0
        · rw [← e', i0]
        · have h1 := ha 0 i (by omega) hi
          have h2 := hb 0 j (by omega) hj
          rw [e'] at h1; rw [e] at h2
          exact (slt_irrefl (slt_trans h1 h2)).elim
    | succ k ih =>
      intro hk
      obtain ⟨hkm, heq⟩ := ih (by omega)
      obtain ⟨j, hj, e⟩ := (hab (a (k + 1))).1 ⟨k + 1, hk, rfl⟩
      have hjk : k < j := by
        rcases Nat.lt_or_ge k j with h | h
        · exact h
        · have h1 := ha j (k + 1) (by omega) hk
          rw [heq j h, e] at h1
          exact (slt_irrefl h1).elim
      have hm : k + 1 < m := by omega
      refine ⟨hm, fun i hi => ?_⟩
      by_cases ik : i ≤ k
      · exact heq i ik
      · have : i = k + 1 := by omega
        subst this
        by_cases j0 : j = k + 1
        · rw [← e, j0]
        · obtain ⟨i, hi', e'⟩ := (hab (b (k + 1))).2 ⟨k + 1, hm, rfl⟩
          by_cases i0 : i = k + 1
          · rw [← e', i0]
          · rcases Nat.lt_or_ge k i with h | h
            · have h1 := ha (k + 1) i (by omega) hi'
              have h2 := hb (k + 1) j (by omega) hj
              rw [e'] at h1; rw [e] at h2
              exact (slt_irrefl (slt_trans h1 h2)).elim
            · have h1 := hb i (k + 1) (by omega) hm
              rw [← heq i h, e'] at h1
              exact (slt_irrefl h1).elim
  have k1 := key ha hb hab
  have k2 := key hb ha (fun s => (hab s).symm)
  refine ⟨?_, fun i hi => (k1 i hi).2 i (Nat.le_refl _)⟩
  rcases Nat.lt_trichotomy n m with h | h | h
  · have := (k2 n h).1; omega
  · exact h
  · have := (k1 m h).1; omega

theorem strict_of {n : Nat} {a : Nat → ByteArray} (hs : ∀ p q, p < q → q < n → sle (a p) (a q)) (hi : ∀ i j, i < n → j < n → a i = a j → i = j) : ∀ p q, p < q → q < n → slt (a p) (a q) := by
  intro p q h1 h2
  rcases hs p q h1 h2 with h | h
  · exact h
  · have := hi p q (by omega) h2 h; omega

end Go.Proofs.Yoeetw
