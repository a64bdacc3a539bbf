import Derived.Test.YoeetwTab
import Derived.Test.YoeetwSlot
import Derived.Deep.RegionHeld3
import Derived.WalkSpells
namespace Go.Proofs.Yoeetw
open Go.RowKit

/-- A slice that came in: whatever i < len, it leads to a cell below block B that holds f i. -/
def Reads (w : World) (B : Nat) (a : Option Addr) (len : Nat) (f : Nat → Value) : Prop :=
  ∀ i, i < len → ∃ b off, a = some ⟨b, off, none⟩ ∧ b < B ∧ w.cell? ⟨b, off + i, none⟩ = some (f i)

/-- Where zzChain lays its tables: C is the block of its slice. -/
def tb (C j : Nat) : Nat := C + 2 + 3 * j
def initS (ks : Nat → Bool) (C : Nat) (j : Nat) : Tab := newTab (match j with | 0 => false | j + 1 => ks j) (C + 1 + 3 * j)
def ptrs (T : Nat → Nat) (j : Nat) : Value := .pointer (some ⟨T j, 0, none⟩)

/-- What zzChain has laid when its slice holds k + 1 tables. -/
structure Laid (w wr : World) (ks : Nat → Bool) (cap k : Nat) : Prop where
  row : Row wr w.heap.size 31 (k + 1) cap (ptrs (tb w.heap.size))
  chain : Chain wr (k + 1) (tb w.heap.size) (initS ks w.heap.size)
  maps : ∀ j, j ≤ k → wr.heap[w.heap.size + 1 + 3 * j]? = some (.map #[] 0)
  frm : Frm (fun _ => False) w wr
  size : wr.heap.size = w.heap.size + 4 + 3 * k

theorem heap_three (w : World) (o1 o2 o3 : Obj) :
    ((((w.alloc o1).alloc o2).alloc o3).heap[w.heap.size]? = some o1) ∧ ((((w.alloc o1).alloc o2).alloc o3).heap[w.heap.size + 1]? = some o2) ∧
    (∀ k, k < w.heap.size → (((w.alloc o1).alloc o2).alloc o3).heap[k]? = w.heap[k]?) ∧ (((w.alloc o1).alloc o2).alloc o3).heap.size = w.heap.size + 3 := by
  refine ⟨?_, ?_, ?_, by simp⟩
  · rw [Below.heap_alloc _ _ _ (by simp; omega), Below.heap_alloc _ _ _ (by simp)]; exact heap_alloc_new w o1
  · rw [Below.heap_alloc _ _ _ (by simp)]
    have := heap_alloc_new (w.alloc o1) o2
    simpa using this
  · intro k hk
    rw [Below.heap_alloc _ _ _ (by simp; omega), Below.heap_alloc _ _ _ (by simp; omega), Below.heap_alloc _ _ _ hk]

theorem laid_zero {w w1 w4 : World} {ks : Nat → Bool} {cap : Nat} {f : Nat → Value} {o : Obj} (f1 : Frm (fun _ => False) w w1) (s1 : w1.heap.size = w.heap.size + 1)
    (r4 : Row w4 w.heap.size 31 (0 + 1) cap (setf f 0 (.pointer (some ⟨w.heap.size + 1 + 1, 0, none⟩))))
    (f4 : Frm (fun b => b = w.heap.size) (((w1.alloc (.map #[] 0)).alloc (tobj none (newTab false (w.heap.size + 1)))).alloc o) w4)
    (s4 : w4.heap.size = (((w1.alloc (.map #[] 0)).alloc (tobj none (newTab false (w.heap.size + 1)))).alloc o).heap.size) : Laid w w4 ks cap 0 := by
  obtain ⟨h1, h2, h3, h4⟩ := heap_three w1 (.map #[] 0) (tobj none (newTab false (w.heap.size + 1))) o
  rw [s1] at h1 h2 h3 h4
  rw [h4] at s4
  refine ⟨r4.congr ?_, ⟨?_, rfl, ?_⟩, ?_, ⟨f4.os.trans f1.os, f4.tape.trans f1.tape, f4.output.trans f1.output, by omega, ?_⟩, by omega⟩
  · intro j hj
    obtain rfl : j = 0 := by omega
    simp [setf, ptrs, tb]
  · intro j hj
    obtain rfl : j = 0 := by omega
    have := f4.block (w.heap.size + 1 + 1) (by rw [h4]; omega) (by omega)
    rw [h2] at this
    simpa [tb, parOf, initS] using this
  · intro i j hi hj _; omega
  · intro j hj
    obtain rfl : j = 0 := by omega
    have := f4.block (w.heap.size + 1) (by rw [h4]; omega) (by omega)
    rw [h1] at this
    simpa using this
  · intro k hk _
    rw [f4.block k (by rw [h4]; omega) (by omega), h3 k (by omega)]
    exact f1.block k hk (fun x => x)

theorem laid_step {w wr w3 w4 : World} {ks : Nat → Bool} {cap k : Nat} {o : Obj} (h : Laid w wr ks cap k)
    (e3 : w3.heap = (((wr.alloc (.map #[] 0)).alloc (tobj (some ⟨tb w.heap.size k, 0, none⟩) (newTab (ks k) wr.heap.size))).alloc o).heap) (e3o : w3.os = wr.os) (e3t : w3.tape = wr.tape) (e3p : w3.output = wr.output)
    (r4 : Row w4 w.heap.size 31 (k + 1 + 1) cap (setf (ptrs (tb w.heap.size)) (k + 1) (.pointer (some ⟨wr.heap.size + 1, 0, none⟩))))
    (f4 : Frm (fun b => b = w.heap.size) w3 w4) (s4 : w4.heap.size = w3.heap.size) : Laid w w4 ks cap (k + 1) := by
  obtain ⟨h1, h2, h3, h4⟩ := heap_three wr (.map #[] 0) (tobj (some ⟨tb w.heap.size k, 0, none⟩) (newTab (ks k) wr.heap.size)) o
  rw [← e3] at h1 h2 h3 h4
  rw [h4] at s4
  have hs := h.size
  refine ⟨r4.congr ?_, ⟨?_, rfl, ?_⟩, ?_, ⟨f4.os.trans (e3o.trans h.frm.os), f4.tape.trans (e3t.trans h.frm.tape), f4.output.trans (e3p.trans h.frm.output), by omega, ?_⟩, by omega⟩
  · intro j hj
    unfold setf
    split
    · subst_vars
      have e : wr.heap.size + 1 = tb w.heap.size (k + 1) := by simp only [tb]; omega
      rw [e]; rfl
    · rfl
  · intro j hj
    by_cases hjk : j = k + 1
    · subst hjk
      have := f4.block (wr.heap.size + 1) (by rw [h4]; omega) (by omega)
      rw [h2] at this
      have e : tb w.heap.size (k + 1) = wr.heap.size + 1 := by simp only [tb]; omega
      rw [e, this]
      simp only [initS, parOf]
      rw [hs]; congr 3; omega
    · have hj' : j < k + 1 := by omega
      have hlt := h.chain.lt hj'
      have := f4.block (tb w.heap.size j) (by rw [h4]; omega) (by simp only [tb]; omega)
      rw [this, h3 _ hlt]
      exact h.chain.obj j hj'
  · intro i j hi hj; simp only [tb]; omega
  · intro j hj
    by_cases hjk : j = k + 1
    · subst hjk
      have := f4.block wr.heap.size (by rw [h4]; omega) (by omega)
      rw [h1] at this
      have e : w.heap.size + 1 + 3 * (k + 1) = wr.heap.size := by omega
      rw [e, this]
    · have hj' : j ≤ k := by omega
      have := f4.block (w.heap.size + 1 + 3 * j) (by rw [h4]; omega) (by omega)
      rw [this, h3 _ (by omega)]
      exact h.maps j hj'
  · intro b hb _
    rw [f4.block b (by rw [h4]; omega) (by omega), h3 b (by omega)]
    exact h.frm.block b hb (fun x => x)

theorem info31 : (Eetg.prog.info? 31).map (fun i => (i.zero, i.size, i.bytes)) = some (some (.pointer none), 1, 8) := by kernel_rfl

theorem cell1 {w : World} {p : Addr} {v : Value} (h : w.cell? p = some v) (o : Obj) : (w.alloc o).cell? p = some v := by
  rw [World.cell?_alloc_some _ _ _ (by rw [h]; rfl)]; exact h

theorem cell3 {w : World} {p : Addr} {v : Value} (h : w.cell? p = some v) (o1 o2 o3 : Obj) : (((w.alloc o1).alloc o2).alloc o3).cell? p = some v :=
  cell1 (cell1 (cell1 h _) _) _

theorem cell3d {w : World} {p : Addr} {v : Value} (h : w.cell? p = some v) (o1 o2 o3 : Obj) : (((w.alloc o1).alloc o2).alloc o3).drew.cell? p = some v :=
  cell1 (cell1 (cell1 h _) _) _

set_option maxHeartbeats 400000 in
theorem chain_any (a0 : Option Addr) (len cap : Nat) (ks : Nat → Bool) (w : World) (hlen : len ≤ 4096) (hr : Reads w w.heap.size a0 len (fun i => .bool (ks i))) :
    Calls Eetg.prog 13 #[.slice a0 len cap] w fun e w' => e = .returned (.slice (some ⟨w.heap.size, 0, none⟩) (len + 1) (len + 1)) ∧ Laid w w' ks (len + 1) len := by
  obtain ⟨i0, hi, hz0, hz1, hz2⟩ := info_parts info31
  go_enter Eetg.func13, Eetg.ntmps13
  go_wp2_with (first
    | (at_make; refine wpList_make1 rfl _ _ 28 rfl 31 i0 _ 8 Eetg.underlying28 hi hz0 hz1 hz2 rfl .i64 .i64 _ _ 0 (len + 1) rfl rfl rfl (by simp) (by omega) (by omega) (by unfold maxLen; omega) ?_; intro w1 r1 f1 s1)
    | (go_at_call 26; refine (new_any _).mono ?_; rintro e w2 ⟨rfl, rfl⟩)
    | (at_builtin; go_must (refine wpList_append1 rfl _ _ 28 rfl 31 i0 Eetg.underlying28 hi hz1 w.heap.size 0 (len + 1) _ _ _ rfl rfl (((((r1.less (Nat.zero_le _)).keep (Below.heap_alloc _ _ _ r1.lt)).keep (Below.heap_alloc _ _ _ (by simp; have := r1.lt; omega))).keep (Below.heap_alloc _ _ _ (by simp; have := r1.lt; omega)))) (cell_new (by simp [s1])) rfl (by omega) ?_; intro w4 r4 f4 s4)))
  have l0 : Laid w w4 ks (len + 1) 0 := laid_zero f1 s1 r4 f4 s4
  clear r4 f4 s4 r1 f1 s1
  go_loopw [3, 4] (fun v i wr => ∃ k : Nat, k ≤ len ∧ i = .int .i64 k ∧ v = .slice (some ⟨w.heap.size, 0, none⟩) (k + 1) (len + 1) ∧ Laid w wr ks (len + 1) k)
    (fun _ i _ => len - (intOf i).toNat)
  case atStart => exact ⟨0, Nat.zero_le _, rfl, rfl, l0⟩
  case round =>
    obtain ⟨k, hk, rfl, rfl, hl⟩ := hrel
    clear l0
    by_cases hlt : k < len
    · obtain ⟨b, off, rfl, hb, hcb⟩ := hr k hlt
      have hc1 := hl.row.cell (j := k) (by omega)
      have hc2 : wr.cell? ⟨b, off + k, none⟩ = some (.bool (ks k)) := by
        rw [World.cell?_of_block (w := w) (hl.frm.block b hb (fun x => x))]; exact hcb
      go_wp2_with fail
      have hk1 : (0 : Int) ≤ (k : Int) := by omega
      have hk2 : (k : Int) < (len : Int) := by omega
      have hw1 : IntKind.i64.wrap ((k : Int) + 1 - 1) = (k : Int) := by rw [IntKind.wrap_i64]; omega
      have hw2 : IntKind.i64.wrap ((k : Int)) = (k : Int) := by rw [IntKind.wrap_i64]; omega
      have hbc : ¬ b = w.heap.size := by omega
      clear hr hb hcb
      have hk3 : (k : Int) < (k : Int) + 1 := by omega
      go_region_held3 (fun w' => w'.cell? ⟨w.heap.size, k, none⟩ = some (ptrs (tb w.heap.size) k) ∧ w'.cell? ⟨b, off + k, none⟩ = some (.bool (ks k))) 
        (first
          | (go_keep; done)
          | exact ⟨cell3d hc1 _ _ _, cell3d hc2 _ _ _⟩
          | exact ⟨(r4.cell (by omega)).trans (by simp [setf]), (World.cell?_of_block (f4.block b (by have := World.block_lt_of_cell? _ _ hc2; simp at this ⊢; omega) hbc)).trans (cell3d hc2 _ _ _)⟩)
        (first
          | (go_at_call 29; refine (fork_any _ _ _).mono ?_; rintro e w' ⟨rfl, rfl⟩)
          | ((refine step_append1 rfl _ _ 28 rfl 31 i0 Eetg.underlying28 hi hz1 w.heap.size (k + 1) (len + 1) _ (ptrs (tb w.heap.size)) _ (by rfl) (by rfl) (by exact (hl.row.keep (by exact (heap_three wr _ _ _).2.2.1 _ hl.row.lt))) (by exact cell_new (by simp)) rfl (by omega) ?_; intro w4 r4 f4 s4)))
      rename_i hS
      have h5 : Laid w w4 ks (len + 1) (k + 1) := laid_step hl (by rfl) (by rfl) (by rfl) (by rfl) r4 f4 s4
      clear r4 f4 s4 hl hc1 hc2 hw1 hw2 hS
      go_wp2_with fail
      go_roundw
      case rel => exact ⟨k + 1, by omega, by go_num, rfl, h5⟩
      case measure => simp [intOf]; omega
    · have hkl : k = len := by omega
      subst hkl
      go_wp2_with fail
      go_ret
      exact ⟨rfl, hl⟩
end Go.Proofs.Yoeetw
