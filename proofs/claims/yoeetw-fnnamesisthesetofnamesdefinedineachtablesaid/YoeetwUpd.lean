import Derived.Test.YoeetwTab
namespace Go.Proofs.Yoeetw
open Go.RowKit

/-- The blocks of a chain. -/
def inChain (n : Nat) (T : Nat → Nat) (b : Nat) : Prop := ∃ j, j < n ∧ b = T j

theorem bump_step {w : World} {n : Nat} {T : Nat → Nat} {S : Nat → Tab} (h : Chain w n T S) {k : Nat} (hk : k < n) (v : Int) :
    Chain (if (S k).mx < v then w.setCell ⟨T k, 4, none⟩ (.int .i64 v) else w) n T (bump v S k) ∧
    Frm (inChain n T) w (if (S k).mx < v then w.setCell ⟨T k, 4, none⟩ (.int .i64 v) else w) := by
  unfold bump
  by_cases hlt : (S k).mx < v
  · simp only [if_pos hlt]
    exact ⟨h.setMx hk v, (Frm.refl _ _).setCell ⟨k, hk, rfl⟩ _⟩
  · simp only [if_neg hlt]
    exact ⟨h, Frm.refl _ _⟩

theorem upd_any (n : Nat) (T : Nat → Nat) (v : Int) : ∀ (k : Nat) (S : Nat → Tab) (w : World), k < n → Chain w n T S →
    Calls Eetg.prog 41 #[.pointer (some ⟨T k, 0, none⟩), .int .i64 v] w fun e w' => e = .returned (.tuple #[]) ∧ Chain w' n T (raise v k S) ∧ Frm (inChain n T) w w' := by
  intro k
  induction k with
  | zero =>
    intro S w hk h
    obtain ⟨c0, c1, c2, c3, c4, c5, c6, cf⟩ := h.cells hk
    rw [h.root] at c1
    refine (upd_leaf (T 0) _ v w c4 c1 (cf 4)).mono ?_
    rintro e w' ⟨rfl, rfl⟩
    obtain ⟨b1, b2⟩ := bump_step h hk v
    exact ⟨rfl, b1, b2⟩
  | succ k ih =>
    intro S w hk h
    obtain ⟨c0, c1, c2, c3, c4, c5, c6, cf⟩ := h.cells hk
    obtain ⟨b1, b2⟩ := bump_step h hk v
    cases hb : (S (k + 1)).blk
    · rw [hb] at c1
      refine (upd_leaf (T (k + 1)) _ v w c4 c1 (cf 4)).mono ?_
      rintro e w' ⟨rfl, rfl⟩
      refine ⟨rfl, ?_, b2⟩
      simp only [raise, hb]
      exact b1
    · rw [hb] at c1
      refine upd_node (T (k + 1)) _ _ v w c4 c1 c0 (cf 4) _ ?_
      refine (ih (bump v S (k + 1)) _ (by omega) b1).mono ?_
      rintro e w' ⟨rfl, r1, r2⟩
      refine ⟨rfl, ?_, b2.trans r2⟩
      simp only [raise, hb, if_true]
      exact r1

theorem zzUpd_any (n : Nat) (T : Nat → Nat) (v : Int) (k : Nat) (S : Nat → Tab) (w : World) (hk : k < n) (h : Chain w n T S) :
    Calls Eetg.prog 36 #[.pointer (some ⟨T k, 0, none⟩), .int .i64 v] w fun e w' => e = .returned (.tuple #[]) ∧ Chain w' n T (raise v k S) ∧ Frm (inChain n T) w w' := by
  have HC := upd_any n T v k S w hk h
  generalize raise v k S = S' at *
  have HD : Hid (Calls Eetg.prog 41 #[.pointer (some ⟨T k, 0, none⟩), .int .i64 v] w fun e w' => e = .returned (.tuple #[]) ∧ Chain w' n T S' ∧ Frm (inChain n T) w w') := HC
  clear HC h
  go_enter Eetg.func36, Eetg.ntmps36
  go_wp2_with fail
  refine HD.out.mono ?_
  rintro e w' ⟨rfl, h1, h2⟩
  go_wp2_with fail
  go_end0
  exact ⟨rfl, h1, h2⟩

end Go.Proofs.Yoeetw
