import Derived.Test.YoeetwUpd
namespace Go.Proofs.Yoeetw
open Go.RowKit

/-! nextIndex, ZZnextIndex, Parent(true): they only read. -/

/-- What nextIndex answers at table k. -/
def nextIdx (S : Nat → Tab) : Nat → Int
  | 0 => (S 0).num
  | k + 1 => if (S (k + 1)).blk = true then nextIdx S k + (S (k + 1)).num else (S (k + 1)).num

/-- Every count lies between 0 and B. -/
def Small (S : Nat → Tab) (n : Nat) (B : Int) : Prop := ∀ j, j < n → 0 ≤ (S j).num ∧ (S j).num ≤ B

theorem nextIdx_le {S : Nat → Tab} {n : Nat} {B : Int} (h : Small S n B) : ∀ k, k < n → 0 ≤ nextIdx S k ∧ nextIdx S k ≤ B * ((k : Int) + 1) := by
  intro k
  induction k with
  | zero => intro hk; have := h 0 hk; simp only [nextIdx]; omega
  | succ k ih =>
    intro hk
    have h1 := ih (by omega)
    have h2 := h (k + 1) hk
    have e : B * (((k + 1 : Nat) : Int) + 1) = B * ((k : Int) + 1) + B := by rw [Int.natCast_add, Int.mul_add B _ 1, Int.mul_one]; rfl
    rw [e]
    have h3 : 0 ≤ B * ((k : Int) + 1) := by omega
    simp only [nextIdx]
    split <;> omega

/-- Is table k of the global scope: is every table between it and the root a block? -/
def isGlob (S : Nat → Tab) : Nat → Bool
  | 0 => true
  | k + 1 => (S (k + 1)).blk && isGlob S k

/-- What Parent(true) answers at table k. -/
def outer (S : Nat → Tab) (T : Nat → Nat) : Nat → Option Addr
  | 0 => none
  | k + 1 => if (S (k + 1)).blk = true then outer S T k else some ⟨T k, 0, none⟩

theorem outer_none (S : Nat → Tab) (T : Nat → Nat) (k : Nat) : (isGlob S k = true ∧ outer S T k = none) ∨ (isGlob S k = false ∧ ∃ x, outer S T k = some x) := by
  induction k with
  | zero => exact Or.inl ⟨rfl, rfl⟩
  | succ k ih =>
    simp only [isGlob, outer]
    cases h : (S (k + 1)).blk
    · exact Or.inr ⟨rfl, _, rfl⟩
    · simpa using ih

theorem next_leaf (t : Nat) (m : Int) (w : World) (h1 : w.cell? ⟨t, 1, none⟩ = some (.bool false)) (h3 : w.cell? ⟨t, 3, none⟩ = some (.int .i64 m)) :
    Calls Eetg.prog 39 #[.pointer (some ⟨t, 0, none⟩)] w fun e w' => e = .returned (.int .i64 m) ∧ w' = w := by
  go_enter Eetg.func39, Eetg.ntmps39
  go_wp2_with fail
  go_ret
  exact ⟨rfl, rfl⟩

theorem next_node (t : Nat) (p : Option Addr) (m a : Int) (w : World) (h1 : w.cell? ⟨t, 1, none⟩ = some (.bool true)) (h3 : w.cell? ⟨t, 3, none⟩ = some (.int .i64 m))
    (h0 : w.cell? ⟨t, 0, none⟩ = some (.pointer p)) (hw : IntKind.i64.wrap (a + m) = a + m)
    (hc : ∀ n, Calls Eetg.prog 39 #[.pointer p] (w.drewN n) fun e w' => e = .returned (.int .i64 a) ∧ ∃ m, w' = (w.drewN n).drewN m) :
    Calls Eetg.prog 39 #[.pointer (some ⟨t, 0, none⟩)] w fun e w' => e = .returned (.int .i64 (a + m)) ∧ ∃ q, w' = w.drewN q := by
  have HC : Hid (∀ n, Calls Eetg.prog 39 #[.pointer p] (w.drewN n) fun e w' => e = .returned (.int .i64 a) ∧ ∃ m, w' = (w.drewN n).drewN m) := hc
  clear hc
  go_enter Eetg.func39, Eetg.ntmps39
  go_wp2_with fail
  go_quiet ((go_at_call 39; exact Calls.quiet_of (HC.out _)))
  go_wp2_with fail
  go_ret
  exact ⟨rfl, _, rfl⟩

theorem next_any (n : Nat) (T : Nat → Nat) (S : Nat → Tab) (B : Int) (hB : B ≤ 1000000) (hn : n ≤ 1000000) (hs : Small S n B) : ∀ (k : Nat) (w : World), k < n → Chain w n T S →
    Calls Eetg.prog 39 #[.pointer (some ⟨T k, 0, none⟩)] w fun e w' => e = .returned (.int .i64 (nextIdx S k)) ∧ ∃ q, w' = w.drewN q := by
  intro k
  induction k with
  | zero =>
    intro w hk h
    obtain ⟨c0, c1, c2, c3, c4, c5, c6, cf⟩ := h.cells hk
    rw [h.root] at c1
    refine (next_leaf (T 0) _ w c1 c3).mono ?_
    rintro e w' ⟨rfl, rfl⟩
    exact ⟨rfl, 0, rfl⟩
  | succ k ih =>
    intro w hk h
    obtain ⟨c0, c1, c2, c3, c4, c5, c6, cf⟩ := h.cells hk
    cases hb : (S (k + 1)).blk
    · rw [hb] at c1
      refine (next_leaf (T (k + 1)) _ w c1 c3).mono ?_
      rintro e w' ⟨rfl, rfl⟩
      refine ⟨?_, 0, rfl⟩
      simp [nextIdx, hb]
    · rw [hb] at c1
      have b1 := nextIdx_le hs k (by omega)
      have b2 := hs (k + 1) hk
      have b3 : B * ((k : Int) + 1) ≤ 1000000 * 1000000 := Int.mul_le_mul hB (by omega) (by omega) (by omega)
      refine (next_node (T (k + 1)) _ _ (nextIdx S k) w c1 c3 c0 (by rw [IntKind.wrap_i64]; omega) (fun q => ih (w.drewN q) (by omega) (h.drewN q))).mono ?_
      rintro e w' ⟨rfl, hw⟩
      refine ⟨?_, hw⟩
      simp [nextIdx, hb]

theorem zzNext_any (n : Nat) (T : Nat → Nat) (S : Nat → Tab) (B : Int) (hB : B ≤ 1000000) (hn : n ≤ 1000000) (hs : Small S n B) (k : Nat) (w : World) (hk : k < n) (h : Chain w n T S) :
    Calls Eetg.prog 32 #[.pointer (some ⟨T k, 0, none⟩)] w fun e w' => e = .returned (.int .i64 (nextIdx S k)) ∧ ∃ q, w' = w.drewN q := by
  have HC := next_any n T S B hB hn hs k w hk h
  generalize nextIdx S k = x at *
  have HD : Hid (Calls Eetg.prog 39 #[.pointer (some ⟨T k, 0, none⟩)] w fun e w' => e = .returned (.int .i64 x) ∧ ∃ q, w' = w.drewN q) := HC
  clear HC h hs
  go_enter Eetg.func32, Eetg.ntmps32
  go_wp2_with fail
  refine HD.out.mono ?_
  rintro e w' ⟨rfl, q, rfl⟩
  go_wp2_with fail
  go_ret
  exact ⟨rfl, q, rfl⟩

theorem parent_leaf (t : Nat) (p : Option Addr) (w : World) (h1 : w.cell? ⟨t, 1, none⟩ = some (.bool false)) (h0 : w.cell? ⟨t, 0, none⟩ = some (.pointer p)) :
    Calls Eetg.prog 40 #[.pointer (some ⟨t, 0, none⟩), .bool true] w fun e w' => e = .returned (.pointer p) ∧ w' = w := by
  go_enter Eetg.func40, Eetg.ntmps40
  go_wp2_with fail
  go_ret
  exact ⟨rfl, rfl⟩

theorem parent_node (t : Nat) (p r : Option Addr) (w : World) (h1 : w.cell? ⟨t, 1, none⟩ = some (.bool true)) (h0 : w.cell? ⟨t, 0, none⟩ = some (.pointer p))
    (hc : Calls Eetg.prog 40 #[.pointer p, .bool true] w fun e w' => e = .returned (.pointer r) ∧ w' = w) :
    Calls Eetg.prog 40 #[.pointer (some ⟨t, 0, none⟩), .bool true] w fun e w' => e = .returned (.pointer r) ∧ w' = w := by
  have HC : Hid (Calls Eetg.prog 40 #[.pointer p, .bool true] w fun e w' => e = .returned (.pointer r) ∧ w' = w) := hc
  clear hc
  go_enter Eetg.func40, Eetg.ntmps40
  go_wp2_with fail
  refine HC.out.mono ?_
  rintro e w' ⟨rfl, rfl⟩
  go_wp2_with fail
  go_ret
  exact ⟨rfl, rfl⟩

theorem parent_any (n : Nat) (T : Nat → Nat) (S : Nat → Tab) : ∀ (k : Nat) (w : World), k < n → Chain w n T S →
    Calls Eetg.prog 40 #[.pointer (some ⟨T k, 0, none⟩), .bool true] w fun e w' => e = .returned (.pointer (outer S T k)) ∧ w' = w := by
  intro k
  induction k with
  | zero =>
    intro w hk h
    obtain ⟨c0, c1, _⟩ := h.cells hk
    rw [h.root] at c1
    exact parent_leaf (T 0) _ w c1 c0
  | succ k ih =>
    intro w hk h
    obtain ⟨c0, c1, _⟩ := h.cells hk
    cases hb : (S (k + 1)).blk
    · rw [hb] at c1
      refine (parent_leaf (T (k + 1)) _ w c1 c0).mono ?_
      rintro e w' ⟨rfl, rfl⟩
      refine ⟨?_, rfl⟩
      simp [outer, hb, parOf]
    · rw [hb] at c1
      refine (parent_node (T (k + 1)) _ (outer S T k) w c1 c0 (ih w (by omega) h)).mono ?_
      rintro e w' ⟨rfl, rfl⟩
      refine ⟨?_, rfl⟩
      simp [outer, hb]

end Go.Proofs.Yoeetw
