import Derived.Test.YoeetwDefine
import Derived.Test.YoeetwChain
namespace Go.Proofs.Yoeetw
open Go.RowKit

/-! A stack of tables: push, pop; what Define does to nextIndex. No walk here. -/

def setn (T : Nat → Nat) (k p : Nat) : Nat → Nat := fun j => if j = k then p else T j
def setF (F : Nat → ByteArray → Option Nat) (k : Nat) : Nat → ByteArray → Option Nat := fun j => if j = k then (fun _ => none) else F j

theorem setn_same (T : Nat → Nat) (k p : Nat) : setn T k p k = p := by simp [setn]
theorem setn_other (T : Nat → Nat) {k j : Nat} (p : Nat) (h : j ≠ k) : setn T k p j = T j := by simp [setn, h]

theorem parOf_setn (T : Nat → Nat) (d p j : Nat) (h : j ≤ d) : parOf (setn T d p) j = parOf T j := by
  cases j with
  | zero => rfl
  | succ j => simp only [parOf]; rw [setn_other _ _ (by omega)]

theorem Tabs.push {w w' : World} {base d : Nat} {T : Nat → Nat} {S : Nat → Tab} {F : Nat → ByteArray → Option Nat} {xs : List Nat} (h : Tabs w base (d + 1) T S F xs) (hf : Frm (fun _ => False) w w') (hb : base ≤ w.heap.size)
    {p m : Nat} {b : Bool} (hp : w'.heap[p]? = some (tobj (some ⟨T d, 0, none⟩) (newTab b m))) (hm : w'.heap[m]? = some (.map #[] 0)) (gp : w.heap.size ≤ p) (gm : w.heap.size ≤ m) :
    Tabs w' base (d + 1 + 1) (setn T (d + 1) p) (put S (d + 1) (newTab b m)) (setF F (d + 1)) xs := by
  have g := h.grow hf
  refine ⟨⟨fun j hj => ?_, ?_, fun i j hi hj e => ?_⟩, fun j hj => ?_, fun i j hi hj e => ?_, fun j hj => ?_, fun i j hij hj => ?_, ?_⟩
  · by_cases e : j = d + 1
    · subst e
      rw [setn_same, put_same, parOf_setn _ _ _ _ (Nat.le_refl _)]; exact hp
    · rw [setn_other _ _ e, put_other _ _ e, parOf_setn _ _ _ _ (by omega)]
      exact g.chain.obj j (by omega)
  · rw [put_other _ _ (by omega)]; exact h.chain.root
  · unfold setn at e
    by_cases e1 : i = d + 1
    · by_cases e2 : j = d + 1
      · omega
      · rw [if_pos e1, if_neg e2] at e
        have := h.chain.lt (j := j) (by omega); omega
    · by_cases e2 : j = d + 1
      · rw [if_neg e1, if_pos e2] at e
        have := h.chain.lt (j := i) (by omega); omega
      · rw [if_neg e1, if_neg e2] at e
        exact h.chain.inj i j (by omega) (by omega) e
  · by_cases e : j = d + 1
    · subst e; rw [put_same]; unfold setF; rw [if_pos rfl]; exact MapIs.empty hm
    · rw [put_other _ _ e]; unfold setF; rw [if_neg e]; exact g.maps j (by omega)
  · by_cases e1 : i = d + 1
    · by_cases e2 : j = d + 1
      · omega
      · rw [e1, put_same, put_other _ _ e2] at e
        have := (h.maps j (by omega)).lt
        simp only [newTab] at e; omega
    · by_cases e2 : j = d + 1
      · rw [e2, put_same, put_other _ _ e1] at e
        have := (h.maps i (by omega)).lt
        simp only [newTab] at e; omega
      · rw [put_other _ _ e1, put_other _ _ e2] at e
        exact h.inj i j (by omega) (by omega) e
  · by_cases e : j = d + 1
    · subst e; rw [setn_same, put_same]; exact ⟨by omega, by simp only [newTab]; omega⟩
    · rw [setn_other _ _ e, put_other _ _ e]; exact h.ge j (by omega)
  · by_cases e2 : j = d + 1
    · subst e2; rw [setn_same, setn_other _ _ (by omega)]
      have := h.chain.lt (j := i) (by omega); omega
    · rw [setn_other _ _ e2, setn_other _ _ (by omega)]; exact h.mono i j hij (by omega)
  · rw [put_other _ _ (by omega)]; exact g.bi

theorem Tabs.pop {w : World} {base n m : Nat} {T : Nat → Nat} {S : Nat → Tab} {F : Nat → ByteArray → Option Nat} {xs : List Nat} (h : Tabs w base n T S F xs) (hm : m ≤ n) : Tabs w base m T S F xs :=
  ⟨⟨fun j hj => h.chain.obj j (by omega), h.chain.root, fun i j hi hj => h.chain.inj i j (by omega) (by omega)⟩, fun j hj => h.maps j (by omega), fun i j hi hj => h.inj i j (by omega) (by omega),
    fun j hj => h.ge j (by omega), fun i j hij hj => h.mono i j hij (by omega), h.bi⟩

theorem Small.mono {S : Nat → Tab} {n m : Nat} {B B' : Int} (h : Small S n B) (hm : m ≤ n) (hB : B ≤ B') : Small S m B' :=
  fun j hj => ⟨(h j (by omega)).1, by have := (h j (by omega)).2; omega⟩

theorem Small.push {S : Nat → Tab} {d : Nat} {B : Int} (h : Small S (d + 1) B) (hB : 0 ≤ B) (b : Bool) (m : Nat) : Small (put S (d + 1) (newTab b m)) (d + 1 + 1) B := by
  intro j hj
  by_cases e : j = d + 1
  · subst e; rw [put_same]; exact ⟨by simp [newTab], by simpa [newTab] using hB⟩
  · rw [put_other _ _ e]; exact h j (by omega)

/-- nextIndex looks at marks and counts up to k alone. -/
theorem nextIdx_congr {S S' : Nat → Tab} : ∀ k, (∀ j, j ≤ k → (S' j).blk = (S j).blk ∧ (S' j).num = (S j).num) → nextIdx S' k = nextIdx S k := by
  intro k
  induction k with
  | zero => intro h; exact (h 0 (Nat.le_refl _)).2
  | succ k ih =>
    intro h
    have h1 := h (k + 1) (Nat.le_refl _)
    simp only [nextIdx, h1.1, h1.2, ih (fun j hj => h j (by omega))]

theorem nextIdx_block (S : Nat → Tab) (d m : Nat) : nextIdx (put S (d + 1) (newTab true m)) (d + 1) = nextIdx S d := by
  simp only [nextIdx, put_same, newTab, if_true]
  rw [nextIdx_congr (S := S) d (fun j hj => by rw [put_other _ _ (by omega)]; exact ⟨rfl, rfl⟩)]
  omega

theorem nextIdx_func (S : Nat → Tab) (d m : Nat) : nextIdx (put S (d + 1) (newTab false m)) (d + 1) = 0 := by
  simp [nextIdx, put_same, newTab]

theorem nextIdx_own (S : Nat → Tab) (k : Nat) : nextIdx (put S k { S k with num := (S k).num + 1 }) k = nextIdx S k + 1 := by
  cases k with
  | zero => simp [nextIdx, put_same]
  | succ k =>
    simp only [nextIdx, put_same]
    rw [nextIdx_congr (S := S) k (fun j hj => by rw [put_other _ _ (by omega)]; exact ⟨rfl, rfl⟩)]
    split <;> omega

theorem nextIdx_glob (S : Nat → Tab) : ∀ k, isGlob S k = true → nextIdx (put S 0 { S 0 with num := (S 0).num + 1 }) k = nextIdx S k + 1 := by
  intro k
  induction k with
  | zero => intro _; simp [nextIdx, put_same]
  | succ k ih =>
    intro h
    simp only [isGlob, Bool.and_eq_true] at h
    simp only [nextIdx, put_other S (k := 0) (j := k + 1) _ (by omega), h.1, if_true, ih h.2]
    omega

theorem raise_next (v : Int) (k : Nat) (S : Nat → Tab) (j : Nat) : nextIdx (raise v k S) j = nextIdx S j :=
  nextIdx_congr j (fun i _ => ⟨(raise_keeps v k S i).2.2.2, (raise_keeps v k S i).2.2.1⟩)

theorem defS_next (S : Nat → Tab) (k : Nat) : nextIdx (defS S k) k = nextIdx S k + 1 := by
  unfold defS
  rw [raise_next]
  cases h : isGlob S k
  · exact nextIdx_own S k
  · exact nextIdx_glob S k h

theorem raise_top (v : Int) (k : Nat) (S : Nat → Tab) : v ≤ (raise v k S k).mx := by
  have hb : ∀ (S : Nat → Tab) (k : Nat), v ≤ (bump v S k k).mx := by
    intro S k; unfold bump; split
    · rw [put_same]; exact Int.le_refl _
    · omega
  have hl : ∀ (m : Nat) (S : Nat → Tab) (j : Nat), m < j → (raise v m S j).mx = (S j).mx := by
    intro m
    induction m with
    | zero => intro S j hj; simp only [raise]; unfold bump; split
              · rw [put_other _ _ (by omega)]
              · rfl
    | succ m ih =>
      intro S j hj
      have hbj : (bump v S (m + 1) j).mx = (S j).mx := by
        unfold bump; split
        · rw [put_other _ _ (by omega)]
        · rfl
      simp only [raise]; split
      · rw [ih _ j (by omega), hbj]
      · exact hbj
  cases k with
  | zero => exact hb S 0
  | succ k =>
    simp only [raise]; split
    · rw [hl k _ (k + 1) (by omega)]; exact hb S (k + 1)
    · exact hb S (k + 1)

theorem defS_small {S : Nat → Tab} {n : Nat} {B : Int} (h : Small S n B) (k : Nat) : Small (defS S k) n (B + 1) := by
  intro j hj
  unfold defS
  rw [(raise_keeps _ _ _ j).2.2.1]
  generalize (if isGlob S k = true then 0 else k) = c
  have := h j hj
  by_cases e : j = c
  · subst e; rw [put_same]; exact ⟨by simp only; omega, by simp only; omega⟩
  · rw [put_other _ _ e]; omega

end Go.Proofs.Yoeetw
