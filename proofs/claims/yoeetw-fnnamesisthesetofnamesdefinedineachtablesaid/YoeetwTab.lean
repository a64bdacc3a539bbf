import Derived.Test.YoeetwRows
import Derived.Test.YoeetwBase
import Derived.WalkKit
import Derived.Deep.QuietTactic
import Derived.BigQuiet
namespace Go.Proofs.Yoeetw
open Go.RowKit

theorem min2_any (a b : Int) (w : World) :
    Calls Eetg.prog 27 #[.int .i64 a, .int .i64 b] w fun e w' => e = .returned (.int .i64 (min a b)) ∧ w' = w := by
  by_cases h : b < a
  · have hm : min a b = b := by omega
    rw [hm]; clear hm
    go_enter Eetg.func27, Eetg.ntmps27
    go_wp2
    go_ret
    exact ⟨rfl, rfl⟩
  · have hm : min a b = a := by omega
    rw [hm]; clear hm
    go_enter Eetg.func27, Eetg.ntmps27
    go_wp2
    go_ret
    exact ⟨rfl, rfl⟩

theorem maxSym_any {t : Nat} {m : Int} (w : World) (h : w.cell? ⟨t, 4, none⟩ = some (.int .i64 m)) :
    Calls Eetg.prog 34 #[.pointer (some ⟨t, 0, none⟩)] w fun e w' => e = .returned (.int .i64 m) ∧ w' = w := by
  go_enter Eetg.func34, Eetg.ntmps34
  go_wp2
  go_ret
  exact ⟨rfl, rfl⟩

/-- A new table's state. -/
def newTab (b : Bool) (m : Nat) : Tab := { blk := b, mp := m, num := 0, mx := 0, fr := .slice none 0 0, bs := .slice none 0 0 }

theorem fork_any (v : Option Addr) (b : Bool) (w : World) :
    Calls Eetg.prog 29 #[.pointer v, .bool b] w fun e w' => e = .returned (.pointer (some ⟨w.heap.size + 1, 0, none⟩)) ∧ w' = (w.alloc (.map #[] 0)).alloc (tobj v (newTab b w.heap.size)) := by
  have hmm := @run_makeMap Eetg.prog
  go_enter Eetg.func29, Eetg.ntmps29
  go_wp2
  go_ret
  exact ⟨rfl, rfl⟩

theorem new_any (w : World) :
    Calls Eetg.prog 26 #[] w fun e w' => e = .returned (.pointer (some ⟨w.heap.size + 1, 0, none⟩)) ∧ w' = (w.alloc (.map #[] 0)).alloc (tobj none (newTab false w.heap.size)) := by
  have hmm := @run_makeMap Eetg.prog
  go_enter Eetg.func26, Eetg.ntmps26
  go_wp2
  go_ret
  exact ⟨rfl, rfl⟩

/-- One call of updateMaxDefs, its call of itself met by a contract. -/
theorem upd_leaf (t : Nat) (m v : Int) (w : World) (h4 : w.cell? ⟨t, 4, none⟩ = some (.int .i64 m)) (h1 : w.cell? ⟨t, 1, none⟩ = some (.bool false))
    (hf : w.frozen? ⟨t, 4, none⟩ = false) :
    Calls Eetg.prog 41 #[.pointer (some ⟨t, 0, none⟩), .int .i64 v] w fun e w' => e = .returned (.tuple #[]) ∧ w' = if m < v then w.setCell ⟨t, 4, none⟩ (.int .i64 v) else w := by
  by_cases hlt : m < v
  all_goals
    go_enter Eetg.func41, Eetg.ntmps41
    go_wp2_with fail
    go_end0
    exact ⟨rfl, by simp [*]⟩

theorem upd_node (t : Nat) (p : Option Addr) (m v : Int) (w : World) (h4 : w.cell? ⟨t, 4, none⟩ = some (.int .i64 m)) (h1 : w.cell? ⟨t, 1, none⟩ = some (.bool true))
    (h0 : w.cell? ⟨t, 0, none⟩ = some (.pointer p)) (hf : w.frozen? ⟨t, 4, none⟩ = false) (R : World → Prop)
    (hc : Calls Eetg.prog 41 #[.pointer p, .int .i64 v] (if m < v then w.setCell ⟨t, 4, none⟩ (.int .i64 v) else w) fun e w' => e = .returned (.tuple #[]) ∧ R w') :
    Calls Eetg.prog 41 #[.pointer (some ⟨t, 0, none⟩), .int .i64 v] w fun e w' => e = .returned (.tuple #[]) ∧ R w' := by
  by_cases hlt : m < v
  · rw [if_pos hlt] at hc
    have HC : Hid (Calls Eetg.prog 41 #[.pointer p, .int .i64 v] (w.setCell ⟨t, 4, none⟩ (.int .i64 v)) fun e w' => e = .returned (.tuple #[]) ∧ R w') := hc
    clear hc
    go_enter Eetg.func41, Eetg.ntmps41
    go_wp2_with fail
    refine HC.out.mono ?_
    rintro e w' ⟨rfl, hr⟩
    go_wp2_with fail
    go_end0
    exact ⟨rfl, hr⟩
  · rw [if_neg hlt] at hc
    have HC : Hid (Calls Eetg.prog 41 #[.pointer p, .int .i64 v] w fun e w' => e = .returned (.tuple #[]) ∧ R w') := hc
    clear hc
    go_enter Eetg.func41, Eetg.ntmps41
    go_wp2_with fail
    refine HC.out.mono ?_
    rintro e w' ⟨rfl, hr⟩
    go_wp2_with fail
    go_end0
    exact ⟨rfl, hr⟩

end Go.Proofs.Yoeetw
