import Derived.Test.YoeetwStack
namespace Go.Proofs.Yoeetw
open Go.RowKit

/-! zzInnermostFunc and zzModelNext: the slot model. -/

/-- The nearest table at or above k that is no block. -/
def fIdx (S : Nat → Tab) : Nat → Nat
  | 0 => 0
  | k + 1 => if (S (k + 1)).blk = true then fIdx S k else k + 1

def innerOf (S : Nat → Tab) (k : Nat) : Int := if isGlob S k = true then -1 else (fIdx S k : Int)

/-- What 'kinds' and 'counts' hold. -/
def kindV (S : Nat → Tab) (j : Nat) : Value := .int .i64 (if j = 0 then 0 else if (S j).blk = true then 2 else 1)
def cntV (S : Nat → Tab) (j : Nat) : Value := .int .i64 (S j).num

theorem fIdx_le (S : Nat → Tab) (k : Nat) : fIdx S k ≤ k := by
  induction k with
  | zero => exact Nat.le_refl _
  | succ k ih => simp only [fIdx]; split <;> omega

/-- n counts from f on. -/
def sumN (S : Nat → Tab) (f : Nat) : Nat → Int
  | 0 => 0
  | n + 1 => sumN S f n + (S (f + n)).num

theorem next_sum (S : Nat → Tab) (k : Nat) : nextIdx S k = sumN S (fIdx S k) (k + 1 - fIdx S k) := by
  induction k with
  | zero => simp [nextIdx, fIdx, sumN]
  | succ k ih =>
    simp only [nextIdx, fIdx]
    split
    · have := fIdx_le S k
      rw [show k + 1 + 1 - fIdx S k = (k + 1 - fIdx S k) + 1 by omega, sumN, ← ih, show fIdx S k + (k + 1 - fIdx S k) = k + 1 by omega]
    · rw [show k + 1 + 1 - (k + 1) = 0 + 1 by omega, sumN, sumN]; simp

theorem sumN_le {S : Nat → Tab} {n : Nat} {B : Int} (h : Small S n B) (f m : Nat) (hm : f + m ≤ n) : 0 ≤ sumN S f m ∧ sumN S f m ≤ B * (m : Int) := by
  induction m with
  | zero => simp [sumN]
  | succ m ih =>
    have h1 := ih (by omega)
    have h2 := h (f + m) (by omega)
    have e : B * ((m + 1 : Nat) : Int) = B * (m : Int) + B := by rw [Int.natCast_add, Int.mul_add]; simp
    simp only [sumN]
    rw [e]
    omega

/-- Blocks of the global scope count nothing themselves. -/
def GZ (S : Nat → Tab) (n : Nat) : Prop := ∀ j, j + 1 < n → isGlob S (j + 1) = true → (S (j + 1)).num = 0

theorem glob_next {S : Nat → Tab} {n : Nat} (h : GZ S n) : ∀ k, k < n → isGlob S k = true → nextIdx S k = (S 0).num := by
  intro k
  induction k with
  | zero => intro _ _; rfl
  | succ k ih =>
    intro hk hg
    have h0 := h k hk hg
    have hg' := hg
    simp only [isGlob, Bool.and_eq_true] at hg'
    simp only [nextIdx, hg'.1, if_true, h0, ih (by omega) hg'.2]
    omega

theorem inner_any (b cap d : Nat) (S : Nat → Tab) (w : World) (hd : d ≤ 5000) (hr : Row w b 3 (d + 1) cap (kindV S)) :
    Calls Eetg.prog 31 #[.slice (some ⟨b, 0, none⟩) (d + 1) cap] w fun e w' => e = .returned (.int .i64 (innerOf S d)) ∧ w' = w := by
  go_enter Eetg.func31, Eetg.ntmps31
  go_wp2_with fail
  go_loop [3] (fun i => ∃ r : Nat, r ≤ d ∧ i = .int .i64 r ∧ innerOf S r = innerOf S d) (fun i => (intOf i).toNat)
  case atStart => exact ⟨d, Nat.le_refl _, rfl, rfl⟩
  case round =>
    obtain ⟨r, hrd, rfl, he⟩ := hrel
    have HE : Hid (innerOf S r = innerOf S d) := he
    clear he
    by_cases hr0 : r = 0
    · subst hr0
      go_wp2_with fail
      go_ret
      exact ⟨by rw [← HE.out]; rfl, rfl⟩
    · obtain ⟨r', rfl⟩ : ∃ r', r = r' + 1 := ⟨r - 1, by omega⟩
      have c := hr.cell (j := r' + 1) (by omega)
      have i0 : (0 : Int) ≤ (r' : Int) + 1 := by omega
      have i1 : (r' : Int) + 1 < (d : Int) + 1 := by omega
      clear hr
      cases hb : (S (r' + 1)).blk
      · have c' : w.cell? ⟨b, r' + 1, none⟩ = some (.int .i64 1) := by rw [c]; simp [kindV, hb]
        have HV : Hid (innerOf S (r' + 1) = ((r' : Int) + 1)) := by show _ = _; simp [innerOf, isGlob, fIdx, hb]
        clear c hb
        go_wp2_with fail
        go_ret
        exact ⟨by rw [← HE.out, HV.out]; rfl, rfl⟩
      · have c' : w.cell? ⟨b, r' + 1, none⟩ = some (.int .i64 2) := by rw [c]; simp [kindV, hb]
        have HV : Hid (innerOf S (r' + 1) = innerOf S r') := by show _ = _; simp [innerOf, isGlob, fIdx, hb]
        clear c hb
        go_wp2_with fail
        go_round
        case rel => exact ⟨r', by omega, by go_num, by rw [← HE.out, HV.out]⟩
        case measure => simp [intOf]

theorem model_any (b1 b2 cap1 cap2 d : Nat) (S : Nat → Tab) (w : World) (hd : d ≤ 5000) (hr1 : Row w b1 3 (d + 1) cap1 (kindV S)) (hr2 : Row w b2 3 (d + 1) cap2 (cntV S)) (hs : Small S (d + 1) 100000) (hz : GZ S (d + 1)) :
    Calls Eetg.prog 30 #[.slice (some ⟨b1, 0, none⟩) (d + 1) cap1, .slice (some ⟨b2, 0, none⟩) (d + 1) cap2] w fun e w' => e = .returned (.int .i64 (nextIdx S d)) ∧ w' = w := by
  have HI := inner_any b1 cap1 d S w hd hr1
  cases hg : isGlob S d
  · have hin : innerOf S d = (fIdx S d : Int) := by unfold innerOf; rw [hg]; rfl
    rw [hin] at HI
    have hf := fIdx_le S d
    have HN : Hid (nextIdx S d = sumN S (fIdx S d) (d + 1 - fIdx S d)) := next_sum S d
    generalize fIdx S d = f at *
    have H2 : Hid (Calls Eetg.prog 31 #[.slice (some ⟨b1, 0, none⟩) (d + 1) cap1] w fun e w' => e = .returned (.int .i64 (f : Int)) ∧ w' = w) := HI
    clear HI hg hin hr1 hz
    go_enter Eetg.func30, Eetg.ntmps30
    go_wp2_with fail
    refine H2.out.mono ?_
    rintro e w1 ⟨rfl, rfl⟩
    go_wp2_with fail
    go_loop [6, 7] (fun s i => ∃ m : Nat, f + m ≤ d + 1 ∧ i = .int .i64 ((f + m : Nat) : Int) ∧ s = .int .i64 (sumN S f m)) (fun _ i => d + 1 - (intOf i).toNat)
    case atStart => exact ⟨0, by omega, rfl, rfl⟩
    case round =>
      obtain ⟨m, hm, rfl, rfl⟩ := hrel
      by_cases hlt : f + m < d + 1
      · have c := hr2.cell hlt
        have hb1 := sumN_le hs f m (by omega)
        have hb2 := hs (f + m) hlt
        have hb3 : (100000 : Int) * (m : Int) ≤ 1000000000 := by omega
        have HS : Hid (sumN S f (m + 1) = sumN S f m + (S (f + m)).num) := rfl
        have c' : w1.cell? ⟨b2, f + m, none⟩ = some (.int .i64 (S (f + m)).num) := c
        generalize (S (f + m)).num = nu at *
        generalize sumN S f m = sm at *
        obtain ⟨k, hk⟩ : ∃ k, f + m = k := ⟨_, rfl⟩
        rw [hk] at c' hlt ⊢
        have HK : Hid (f + m = k) := hk
        have i0 : (0 : Int) ≤ k := by omega
        have i1 : (k : Int) < (d : Int) + 1 := by omega
        clear hr2 hs c hk hm
        go_wp2_with fail
        go_round
        case rel => exact ⟨m + 1, by have := HK.out; omega, by have := HK.out; rw [show f + (m + 1) = k + 1 by omega]; go_num, by rw [HS.out]⟩
        case measure => simp [intOf]; omega
      · have em : m = d + 1 - f := by omega
        have HF : Hid (nextIdx S d = sumN S f m) := by rw [em]; exact HN.out
        clear em HN
        go_wp2_with fail
        go_ret
        exact ⟨by rw [HF.out]; rfl, rfl⟩
  · have hin : innerOf S d = -1 := by unfold innerOf; rw [hg]; rfl
    rw [hin] at HI
    have HN : Hid (nextIdx S d = (S 0).num) := glob_next hz d (by omega) hg
    have c := hr2.cell (j := 0) (by omega)
    have c' : w.cell? ⟨b2, 0, none⟩ = some (.int .i64 (S 0).num) := c
    have H2 : Hid (Calls Eetg.prog 31 #[.slice (some ⟨b1, 0, none⟩) (d + 1) cap1] w fun e w' => e = .returned (.int .i64 (-1)) ∧ w' = w) := HI
    clear HI hg hin hr1 hz hr2 c
    have i1 : (0 : Int) < (d : Int) + 1 := by omega
    rw [HN.out]
    go_enter Eetg.func30, Eetg.ntmps30
    go_wp2_with fail
    refine H2.out.mono ?_
    rintro e w1 ⟨rfl, rfl⟩
    go_wp2_with fail
    go_ret
    exact ⟨rfl, rfl⟩

end Go.Proofs.Yoeetw
