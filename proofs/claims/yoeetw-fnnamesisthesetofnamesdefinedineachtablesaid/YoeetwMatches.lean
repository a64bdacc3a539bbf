import Derived.Test.YoeetwModel
import Derived.Test.YoeetwSlots
namespace Go.Proofs.Yoeetw
open Go.RowKit

theorem matches_long (a0 : Option Addr) (l0 c0 : Nat) (w : World) (h0 : l0 ≤ maxLen) (h : 4096 < l0) :
    Calls Eetg.prog 7 #[.slice a0 l0 c0] w fun e w' => e = .returned (.bool true) ∧ Below w.heap.size w w' := by
  have HB := bytes28_any a0 l0 c0 w h0
  unfold maxLen at h0
  go_enter Eetg.func7, Eetg.ntmps7
  go_wp2_with fail
  refine HB.mono ?_
  rintro e w' ⟨b, rfl, rfl⟩
  clear HB
  have g0 : (4096 : Int) < l0 := by omega
  cases b
  all_goals (go_wp2_with fail; go_ret; exact ⟨rfl, Below.refl _ _⟩)

theorem tabs_one {w : World} {base p m : Nat} (hp : w.heap[p]? = some (tobj none (newTab false m))) (hm : w.heap[m]? = some (.map #[] 0)) (gp : base ≤ p) (gm : base ≤ m) :
    Tabs w base 1 (fun _ => p) (fun _ => newTab false m) (fun _ _ => none) [] := by
  refine ⟨⟨fun j hj => ?_, rfl, fun i j _ _ _ => by omega⟩, fun j _ => MapIs.empty hm, fun i j _ _ _ => by omega, fun j _ => ⟨gp, gm⟩, fun i j _ _ => by omega, World.ownsRow_nil _ _ _ _⟩
  obtain rfl : j = 0 := by omega
  exact hp

/-- The three stacks behind k operations. -/
structure MS (w wr : World) (len k d : Nat) (T : Nat → Nat) (S : Nat → Tab) (F : Nat → ByteArray → Option Nat) : Prop where
  ns : NS w wr len k d T S F
  kr : Row wr (w.heap.size + 1) 3 (d + 1) (len + 1) (kindV S)
  nr : Row wr (w.heap.size + 1 + 1) 3 (d + 1) (len + 1) (cntV S)
  gz : GZ S (d + 1)

theorem NS.grow {w wr w' : World} {len k d : Nat} {T : Nat → Nat} {S : Nat → Tab} {F : Nat → ByteArray → Option Nat} (h : NS w wr len k d T S F) (hf : Frm (fun _ => False) wr w') : NS w w' len k d T S F :=
  ⟨h.row.frm hf (fun x => x), h.tabs.grow hf, h.small, h.below.trans (hf.below h.below.size (fun _ x => x.elim))⟩

theorem NS.but {w wr w' : World} {len k d B : Nat} {T : Nat → Nat} {S : Nat → Tab} {F : Nat → ByteArray → Option Nat} (h : NS w wr len k d T S F) (hf : Frm (fun b => b = B) wr w') {n cap : Nat} {f : Nat → Value} (hr : Row wr B 3 n cap f) (hB : w.heap.size < B) : NS w w' len k d T S F := by
  obtain ⟨cur, hc, _⟩ := hr.ex
  exact ⟨h.row.frm hf (by omega), h.tabs.but hf hc (by decide) (by decide), h.small, h.below.trans (hf.below h.below.size (fun _ x => by omega))⟩

theorem GZ.pop {S : Nat → Tab} {d : Nat} (h : GZ S (d + 1 + 1)) : GZ S (d + 1) := fun j hj hg => h j (by omega) hg

theorem isGlob_congr {S S' : Nat → Tab} : ∀ k, (∀ j, j ≤ k → (S' j).blk = (S j).blk) → isGlob S' k = isGlob S k := by
  intro k
  induction k with
  | zero => intro _; rfl
  | succ k ih => intro h; simp only [isGlob, h (k + 1) (Nat.le_refl _), ih (fun j hj => h j (by omega))]

theorem GZ.push {S : Nat → Tab} {d : Nat} (h : GZ S (d + 1)) (b : Bool) (m : Nat) : GZ (put S (d + 1) (newTab b m)) (d + 1 + 1) := by
  intro j hj hg
  by_cases e : j + 1 = d + 1
  · rw [e, put_same]; rfl
  · rw [put_other _ _ e]
    refine h j (by omega) ?_
    rw [← isGlob_congr (S := S) (S' := put S (d + 1) (newTab b m)) (j + 1) (fun i hi => by rw [put_other _ _ (by omega)])]
    exact hg

theorem kindV_push (S : Nat → Tab) (d m : Nat) (b : Bool) (v : Int) (hv : v = if b = true then 2 else 1) (j : Nat) (hj : j < d + 1 + 1) :
    setf (kindV S) (d + 1) (.int .i64 v) j = kindV (put S (d + 1) (newTab b m)) j := by
  unfold setf kindV
  by_cases e : j = d + 1
  · subst e; rw [if_pos rfl, if_neg (by omega), put_same, hv]; rfl
  · rw [if_neg e, put_other _ _ e]

theorem cntV_push (S : Nat → Tab) (d m : Nat) (b : Bool) (j : Nat) (hj : j < d + 1 + 1) :
    setf (cntV S) (d + 1) (.int .i64 0) j = cntV (put S (d + 1) (newTab b m)) j := by
  unfold setf cntV
  by_cases e : j = d + 1
  · subst e; rw [if_pos rfl, put_same]; rfl
  · rw [if_neg e, put_other _ _ e]

theorem start_tabs {w w3 w5 : World} {cap n1 n2 n3 : Nat} {f1v f2v f3v : Nat → Value} {o : Obj} (r1 : Row w3 w.heap.size 31 n1 cap f1v) (r2 : Row w3 (w.heap.size + 1) 3 n2 cap f2v) (r3 : Row w3 (w.heap.size + 1 + 1) 3 n3 cap f3v)
    (f1 : Frm (fun _ => False) w w3) (s3 : w3.heap.size = w.heap.size + 1 + 1 + 1)
    (f5 : Frm (fun b => b = w.heap.size) (((w3.alloc (.map #[] 0)).alloc (tobj none (newTab false (w.heap.size + 1 + 1 + 1)))).alloc o) w5)
    (s5 : w5.heap.size = (((w3.alloc (.map #[] 0)).alloc (tobj none (newTab false (w.heap.size + 1 + 1 + 1)))).alloc o).heap.size) :
    Tabs w5 w.heap.size 1 (fun _ => w.heap.size + 1 + 1 + 1 + 1) (fun _ => newTab false (w.heap.size + 1 + 1 + 1)) (fun _ _ => none) [] ∧ Row w5 (w.heap.size + 1) 3 n2 cap f2v ∧ Row w5 (w.heap.size + 1 + 1) 3 n3 cap f3v ∧
      w5.heap.size = w.heap.size + 6 ∧ Below w.heap.size w w5 := by
  obtain ⟨h1, h2, h3, h4⟩ := heap_three w3 (.map #[] 0) (tobj none (newTab false (w.heap.size + 1 + 1 + 1))) o
  rw [s3] at h1 h2
  obtain ⟨cur, hc, _⟩ := r1.ex
  refine ⟨(tabs_one h2 h1 (by omega) (by omega)).but f5 ((h3 _ r1.lt).trans hc) (by decide) (by decide), (r2.keep (h3 _ r2.lt)).frm f5 (by omega), (r3.keep (h3 _ r3.lt)).frm f5 (by omega), by rw [s5, h4, s3], ?_⟩
  exact ((f1.below (Nat.le_refl _) (fun _ x => x.elim)).trans ((((Frm.refl (fun _ => False) w3).alloc _).alloc _).alloc _ |>.below (by omega) (fun _ x => x.elim))).trans (f5.below (by omega) (fun _ x => by omega))

theorem ms_two {w w4 w6 w7 : World} {len k d n0 m0 n1 m1 cap : Nat} {T : Nat → Nat} {S : Nat → Tab} {F : Nat → ByteArray → Option Nat} {fK fN fK' fN' : Nat → Value} {o1 o2 : Obj} (h : NS w w4 len k d T S F)
    (k4 : Row w4 (w.heap.size + 1) 3 n0 cap fK) (n4 : Row w4 (w.heap.size + 1 + 1) 3 m0 cap fN)
    (r6 : Row w6 (w.heap.size + 1) 3 n1 cap fK') (f6 : Frm (fun b => b = w.heap.size + 1) (w4.alloc o1) w6)
    (r7 : Row w7 (w.heap.size + 1 + 1) 3 m1 cap fN') (f7 : Frm (fun b => b = w.heap.size + 1 + 1) (w6.alloc o2) w7) :
    NS w w7 len k d T S F ∧ Row w7 (w.heap.size + 1) 3 n1 cap fK' ∧ Row w7 (w.heap.size + 1 + 1) 3 m1 cap fN' := by
  have a1 : Frm (fun _ => False) w4 (w4.alloc o1) := (Frm.refl _ _).alloc _
  have a2 : Frm (fun _ => False) w6 (w6.alloc o2) := (Frm.refl _ _).alloc _
  have n5 := (n4.frm a1 (fun x => x)).frm f6 (by omega)
  refine ⟨((((h.grow a1).but f6 (k4.frm a1 (fun x => x)) (by omega)).grow a2).but f7 (n5.frm a2 (fun x => x)) (by omega)), (r6.frm a2 (fun x => x)).frm f7 (by omega), r7⟩

theorem defS_blk (S : Nat → Tab) (k j : Nat) : (defS S k j).blk = (S j).blk := by
  unfold defS
  rw [(raise_keeps _ _ _ j).2.2.2]
  generalize (if isGlob S k = true then 0 else k) = c
  exact put_blk S c { S c with num := (S c).num + 1 } rfl j

theorem defS_num (S : Nat → Tab) (k j : Nat) : (defS S k j).num = if j = (if isGlob S k = true then 0 else k) then (S j).num + 1 else (S j).num := by
  unfold defS
  rw [(raise_keeps _ _ _ j).2.2.1]
  generalize (if isGlob S k = true then 0 else k) = c
  by_cases e : j = c
  · subst e; rw [put_same, if_pos rfl]
  · rw [put_other _ _ e, if_neg e]

theorem kindV_def (S : Nat → Tab) (k j : Nat) : kindV S j = kindV (defS S k) j := by
  unfold kindV; rw [defS_blk]

theorem cntV_def (S : Nat → Tab) (k c : Nat) (hc : (if isGlob S k = true then 0 else k) = c) (j : Nat) : setf (cntV S) c (.int .i64 ((S c).num + 1)) j = cntV (defS S k) j := by
  unfold setf cntV
  rw [defS_num, hc]
  by_cases e : j = c
  · subst e; rw [if_pos rfl, if_pos rfl]
  · rw [if_neg e, if_neg e]

theorem GZ.defS {S : Nat → Tab} {n k : Nat} (h : GZ S n) : GZ (defS S k) n := by
  intro j hj hg
  rw [isGlob_congr (S := S) (j + 1) (fun i _ => defS_blk S k i)] at hg
  have h0 := h j hj hg
  rw [defS_num]
  cases hk : isGlob S k
  · by_cases e : j + 1 = k
    · rw [e] at hg; rw [hg] at hk; cases hk
    · simp [e, h0]
  · simp [h0]

theorem MS.drewN {w wr : World} {len k d : Nat} {T : Nat → Nat} {S : Nat → Tab} {F : Nat → ByteArray → Option Nat} (h : MS w wr len k d T S F) (q : Nat) : MS w (wr.drewN q) len k d T S F :=
  ⟨h.ns.drewN q, h.kr.keep rfl, h.nr.keep rfl, h.gz⟩

/-- The count at place c is raised. -/
theorem MS.count {w wr w' : World} {len k d c : Nat} {T : Nat → Nat} {S : Nat → Tab} {F : Nat → ByteArray → Option Nat} (h : NS w wr len (k + 1) d T (defS S d) F) (kr : Row wr (w.heap.size + 1) 3 (d + 1) (len + 1) (kindV S)) (nr : Row wr (w.heap.size + 1 + 1) 3 (d + 1) (len + 1) (cntV S)) (gz : GZ S (d + 1))
    (hc : (if isGlob S d = true then 0 else d) = c) (hcd : c < d + 1) (hw : w' = wr.setCell ⟨w.heap.size + 1 + 1, c, none⟩ (.int .i64 ((S c).num + 1))) : MS w w' len (k + 1) d T (defS S d) F := by
  subst hw
  have f : Frm (fun b => b = w.heap.size + 1 + 1) wr (wr.setCell ⟨w.heap.size + 1 + 1, c, none⟩ (.int .i64 ((S c).num + 1))) := (Frm.refl (fun b => b = w.heap.size + 1 + 1) wr).setCell (p := ⟨w.heap.size + 1 + 1, c, none⟩) rfl _
  exact ⟨h.but f nr (by omega), (kr.frm f (by omega)).congr (fun j _ => kindV_def S d j), (nr.store hcd _).congr (fun j _ => cntV_def S d c hc j), gz.defS⟩

set_option maxRecDepth 100000 in
set_option maxHeartbeats 2000000 in
theorem matches_any (a0 : Option Addr) (len cap : Nat) (ov : Nat → Nat) (w : World) (hlen : len ≤ 4096) (hov : ∀ i, ov i < 256) (r0 : Reads w w.heap.size a0 len (fun i => .int .u8 ((ov i : Nat) : Int))) :
    Calls Eetg.prog 7 #[.slice a0 len cap] w fun e w' => e = .returned (.bool true) ∧ Below w.heap.size w w' := by
  have HB := bytes28_any a0 len cap w (by unfold maxLen; omega)
  have d0 : decide ((4096 : Int) < len) = false := by simp; omega
  obtain ⟨i31, hi31, hz31, hs31, hb31⟩ := info_parts info31
  obtain ⟨i3, hi3, hz3, hs3, hb3⟩ := info_parts info3
  go_enter Eetg.func7, Eetg.ntmps7
  go_wp2_with fail
  refine HB.mono ?_
  rintro e w ⟨b, rfl, rfl⟩
  clear HB
  cases b
  · go_wp2_with fail
    go_ret
    exact ⟨rfl, Below.refl _ _⟩
  go_wp2_with (first
    | (at_make; refine wpList_make1 (w := w) rfl _ _ 28 rfl 31 i31 _ 8 Eetg.underlying28 hi31 hz31 hs31 hb31 rfl .i64 .i64 _ _ 0 (len + 1) rfl rfl rfl (by simp) (by omega) (by omega) (by unfold maxLen; omega) ?_; intro w1 r1 f1 s1)
    | (at_make; refine wpList_make1 (w := w1) rfl _ _ 24 rfl 3 i3 _ 8 Eetg.underlying24 hi3 hz3 hs3 hb3 rfl .i64 .i64 _ _ 0 (len + 1) rfl rfl rfl (by simp) (by omega) (by omega) (by unfold maxLen; omega) ?_
       intro w2 r2 f2 s2'
       have s2 : w2.heap.size = w.heap.size + 1 + 1 := by rw [s2', s1]
       rw [s1] at r2
       replace r1 := r1.frm f2 (fun x => x)
       replace f1 := f1.trans f2
       clear s2' f2)
    | (at_make; refine wpList_make1 (w := w2) rfl _ _ 24 rfl 3 i3 _ 8 Eetg.underlying24 hi3 hz3 hs3 hb3 rfl .i64 .i64 _ _ 0 (len + 1) rfl rfl rfl (by simp) (by omega) (by omega) (by unfold maxLen; omega) ?_
       intro w3 r3 f3 s3'
       have s3 : w3.heap.size = w.heap.size + 1 + 1 + 1 := by rw [s3', s2]
       rw [s2] at r3
       replace r1 := r1.frm f3 (fun x => x)
       replace r2 := r2.frm f3 (fun x => x)
       replace f1 := f1.trans f3
       clear s3' f3)
    | (go_at_call 26; refine (new_any _).mono ?_; rintro e w4 ⟨rfl, rfl⟩)
    | (at_builtin
       refine wpList_append1 rfl _ _ 28 rfl 31 i31 Eetg.underlying28 hi31 hs31 w.heap.size 0 (len + 1) _ _ _ rfl rfl ((r1.less (Nat.zero_le _)).keep ((heap_three w3 _ _ _).2.2.1 _ r1.lt)) (cell_new (by simp [s3])) rfl (by omega) ?_
       intro w5 r5 f5 s5'
       obtain ⟨t5, r2', r3', s5, g5⟩ := start_tabs r1 r2 r3 f1 s3 f5 s5'
       clear s5')
    | (at_builtin
       refine wpList_append1 rfl _ _ 24 rfl 3 i3 Eetg.underlying24 hi3 hs3 (w.heap.size + 1) 0 (len + 1) _ _ _ rfl rfl ((r2'.less (Nat.zero_le _)).keep (Below.heap_alloc _ _ _ r2'.lt)) (cell_new (by simp [s5])) rfl (by omega) ?_
       intro w6 r6 f6 s6'
       have s6 : w6.heap.size = w.heap.size + 7 := by rw [s6']; simp [s5])
    | (at_builtin
       refine wpList_append1 rfl _ _ 24 rfl 3 i3 Eetg.underlying24 hi3 hs3 (w.heap.size + 1 + 1) 0 (len + 1) _ _ _ rfl rfl (((r3'.less (Nat.zero_le _)).keep (Below.heap_alloc _ _ _ r3'.lt)).frm f6 (by omega) |>.keep (Below.heap_alloc _ _ _ (by have := r3'.lt; omega))) (cell_new (by simp [s6])) rfl (by omega) ?_
       intro w7 r7 f7 s7'))
  have n5 : NS w w5 len 0 0 (fun _ => w.heap.size + 1 + 1 + 1 + 1) (fun _ => newTab false (w.heap.size + 1 + 1 + 1)) (fun _ _ => none) :=
    ⟨r5.congr (fun j hj => by obtain rfl : j = 0 := by omega
                              simp [setf, ptrs]), t5, fun j _ => by simp [newTab], g5⟩
  obtain ⟨n7, k7, c7⟩ := ms_two n5 r2' r3' r6 f6 r7 f7
  have q0 : MS w w7 len 0 0 (fun _ => w.heap.size + 1 + 1 + 1 + 1) (fun _ => newTab false (w.heap.size + 1 + 1 + 1)) (fun _ _ => none) :=
    ⟨n7, k7.congr (fun j hj => by obtain rfl : j = 0 := by omega
                                  simp [setf, kindV]), c7.congr (fun j hj => by obtain rfl : j = 0 := by omega
                                                                                simp [setf, cntV, newTab]), fun j hj _ => by omega⟩
  clear n5 n7 k7 c7 r1 r2 r3 f1 r5 f5 t5 r2' r3' g5 r6 f6 s6' r7 f7 s7' s3 s5 s6
  go_loopw [3, 4, 5, 6] (fun v kv nv i wr => ∃ (k d : Nat) (T : Nat → Nat) (S : Nat → Tab) (F : Nat → ByteArray → Option Nat), k ≤ len ∧ d ≤ k ∧ i = .int .i64 k ∧ v = .slice (some ⟨w.heap.size, 0, none⟩) (d + 1) (len + 1) ∧
      kv = .slice (some ⟨w.heap.size + 1, 0, none⟩) (d + 1) (len + 1) ∧ nv = .slice (some ⟨w.heap.size + 1 + 1, 0, none⟩) (d + 1) (len + 1) ∧ MS w wr len k d T S F)
    (fun _ _ _ i _ => len - (intOf i).toNat)
  case atStart => exact ⟨0, 0, _, _, _, Nat.zero_le _, Nat.zero_le _, rfl, rfl, rfl, rfl, q0⟩
  case round =>
    obtain ⟨k, d, T, S, F, hk, hdk, rfl, rfl, rfl, rfl, hl⟩ := hrel
    clear q0 s1 s2
    by_cases hlt : k < len
    · obtain ⟨b, off, rfl, hb, hcb⟩ := r0 k hlt
      have g0 : wr.cell? ⟨b, off + k, none⟩ = some (.int .u8 ((ov k : Nat) : Int)) := (hl.ns.below.cell (p := ⟨b, off + k, none⟩) hb).trans hcb
      have hok := hov k
      obtain ⟨r, hr4, hrem⟩ : ∃ r : Nat, r < 4 ∧ (((ov k : Nat) : Int)).tmod 4 = (r : Int) :=
        ⟨ov k % 4, Nat.mod_lt _ (by omega), by rw [Int.tmod_eq_emod_of_nonneg (by omega)]; rfl⟩
      have i0 : (0 : Int) ≤ k := by omega
      have i1 : (k : Int) < len := by omega
      clear r0 hcb
      obtain rfl | rfl | rfl | rfl : r = 0 ∨ r = 1 ∨ r = 2 ∨ r = 3 := by omega
      · have gd := hl.ns.row.cell (j := d) (by omega)
        have hkr := hl.kr
        have hnr := hl.nr
        go_wp2_with (first
          | (go_at_call 29; refine (fork_any _ _ _).mono ?_; rintro e w2 ⟨rfl, rfl⟩)
          | (at_builtin
             refine wpList_append1 rfl _ _ 28 rfl 31 i31 Eetg.underlying28 hi31 hs31 w.heap.size (d + 1) (len + 1) _ (ptrs T) _ rfl rfl (by exact (hl.ns.row.keep ((heap_three wr _ _ _).2.2.1 _ hl.ns.row.lt))) (by exact cell_new (by simp)) rfl (by omega) ?_
             intro w4 r4 f4 s4
             have n4 := hl.ns.push (b := true) (by rfl) (by rfl) (by rfl) (by rfl) r4 f4
             have k4 : Row w4 (w.heap.size + 1) 3 (d + 1) (len + 1) (kindV S) := (hl.kr.keep ((heap_three wr _ _ _).2.2.1 _ hl.kr.lt)).frm f4 (by omega)
             have c4 : Row w4 (w.heap.size + 1 + 1) 3 (d + 1) (len + 1) (cntV S) := (hl.nr.keep ((heap_three wr _ _ _).2.2.1 _ hl.nr.lt)).frm f4 (by omega)
             clear r4 f4 s4)
          | (at_builtin
             refine wpList_append1 rfl _ _ 24 rfl 3 i3 Eetg.underlying24 hi3 hs3 (w.heap.size + 1) (d + 1) (len + 1) _ (kindV S) _ rfl rfl (k4.keep (Below.heap_alloc _ _ _ k4.lt)) (by exact cell_new (by simp)) rfl (by omega) ?_
             intro w6 r6 f6 s6
             clear s6)
          | (at_builtin
             refine wpList_append1 rfl _ _ 24 rfl 3 i3 Eetg.underlying24 hi3 hs3 (w.heap.size + 1 + 1) (d + 1) (len + 1) _ (cntV S) _ rfl rfl (((c4.keep (Below.heap_alloc _ _ _ c4.lt)).frm f6 (by omega)).keep (Below.heap_alloc _ _ _ (by have h1 := c4.lt; have h2 := f6.size; simp at h2; omega))) (by exact cell_new (by simp)) rfl (by omega) ?_
             intro w7 r7 f7 s7
             obtain ⟨n7, k7, c7⟩ := ms_two n4 k4 c4 r6 f6 r7 f7
             have ms : MS w w7 len (k + 1) (d + 1) _ _ _ := ⟨n7, k7.congr (fun j hj => kindV_push S d _ true 2 rfl j hj), c7.congr (fun j hj => cntV_push S d _ true j hj), hl.gz.push true _⟩
             have cz := ms.ns.row.cell (j := d + 1) (by omega)
             clear n4 k4 c4 r6 f6 n7 k7 c7 r7 f7 s7))
        clear hl hkr hnr gd
        have hsz := ms.ns.small.mono (Nat.le_refl _) (show ((k + 1 : Nat) : Int) ≤ 100000 by omega)
        refine (zzNext_any (d + 1 + 1) _ _ 100000 (by omega) (by omega) hsz (d + 1) _ (by omega) ms.ns.tabs.chain).mono ?_
        rintro e w8 ⟨rfl, q, rfl⟩
        have mq := ms.drewN q
        clear ms cz
        go_wp2_with fail
        refine (model_any _ _ _ _ (d + 1) _ _ (by omega) mq.kr mq.nr hsz mq.gz).mono ?_
        rintro e w9 ⟨rfl, rfl⟩
        clear hsz
        go_wp2_with fail
        go_roundw
        case rel => exact ⟨k + 1, d + 1, _, _, _, by omega, by omega, by go_num, rfl, rfl, rfl, mq⟩
        case measure => simp [intOf]; omega
      · have gd := hl.ns.row.cell (j := d) (by omega)
        have hkr := hl.kr
        have hnr := hl.nr
        go_wp2_with (first
          | (go_at_call 29; refine (fork_any _ _ _).mono ?_; rintro e w2 ⟨rfl, rfl⟩)
          | (at_builtin
             refine wpList_append1 rfl _ _ 28 rfl 31 i31 Eetg.underlying28 hi31 hs31 w.heap.size (d + 1) (len + 1) _ (ptrs T) _ rfl rfl (by exact (hl.ns.row.keep ((heap_three wr _ _ _).2.2.1 _ hl.ns.row.lt))) (by exact cell_new (by simp)) rfl (by omega) ?_
             intro w4 r4 f4 s4
             have n4 := hl.ns.push (b := false) (by rfl) (by rfl) (by rfl) (by rfl) r4 f4
             have k4 : Row w4 (w.heap.size + 1) 3 (d + 1) (len + 1) (kindV S) := (hl.kr.keep ((heap_three wr _ _ _).2.2.1 _ hl.kr.lt)).frm f4 (by omega)
             have c4 : Row w4 (w.heap.size + 1 + 1) 3 (d + 1) (len + 1) (cntV S) := (hl.nr.keep ((heap_three wr _ _ _).2.2.1 _ hl.nr.lt)).frm f4 (by omega)
             clear r4 f4 s4)
          | (at_builtin
             refine wpList_append1 rfl _ _ 24 rfl 3 i3 Eetg.underlying24 hi3 hs3 (w.heap.size + 1) (d + 1) (len + 1) _ (kindV S) _ rfl rfl (k4.keep (Below.heap_alloc _ _ _ k4.lt)) (by exact cell_new (by simp)) rfl (by omega) ?_
             intro w6 r6 f6 s6
             clear s6)
          | (at_builtin
             refine wpList_append1 rfl _ _ 24 rfl 3 i3 Eetg.underlying24 hi3 hs3 (w.heap.size + 1 + 1) (d + 1) (len + 1) _ (cntV S) _ rfl rfl (((c4.keep (Below.heap_alloc _ _ _ c4.lt)).frm f6 (by omega)).keep (Below.heap_alloc _ _ _ (by have h1 := c4.lt; have h2 := f6.size; simp at h2; omega))) (by exact cell_new (by simp)) rfl (by omega) ?_
             intro w7 r7 f7 s7
             obtain ⟨n7, k7, c7⟩ := ms_two n4 k4 c4 r6 f6 r7 f7
             have ms : MS w w7 len (k + 1) (d + 1) _ _ _ := ⟨n7, k7.congr (fun j hj => kindV_push S d _ false 1 rfl j hj), c7.congr (fun j hj => cntV_push S d _ false j hj), hl.gz.push false _⟩
             have cz := ms.ns.row.cell (j := d + 1) (by omega)
             clear n4 k4 c4 r6 f6 n7 k7 c7 r7 f7 s7))
        clear hl hkr hnr gd
        have hsz := ms.ns.small.mono (Nat.le_refl _) (show ((k + 1 : Nat) : Int) ≤ 100000 by omega)
        refine (zzNext_any (d + 1 + 1) _ _ 100000 (by omega) (by omega) hsz (d + 1) _ (by omega) ms.ns.tabs.chain).mono ?_
        rintro e w8 ⟨rfl, q, rfl⟩
        have mq := ms.drewN q
        clear ms cz
        go_wp2_with fail
        refine (model_any _ _ _ _ (d + 1) _ _ (by omega) mq.kr mq.nr hsz mq.gz).mono ?_
        rintro e w9 ⟨rfl, rfl⟩
        clear hsz
        go_wp2_with fail
        go_roundw
        case rel => exact ⟨k + 1, d + 1, _, _, _, by omega, by omega, by go_num, rfl, rfl, rfl, mq⟩
        case measure => simp [intOf]; omega
      · by_cases hd0 : d = 0
        · subst hd0
          have ms : MS w wr len (k + 1) 0 T S F := ⟨hl.ns.stay, hl.kr, hl.nr, hl.gz⟩
          have cz := ms.ns.row.cell (j := 0) (by omega)
          clear hl
          go_wp2_with fail
          have hsz := ms.ns.small.mono (Nat.le_refl _) (show ((k + 1 : Nat) : Int) ≤ 100000 by omega)
          refine (zzNext_any (0 + 1) _ _ 100000 (by omega) (by omega) hsz (0) _ (by omega) ms.ns.tabs.chain).mono ?_
          rintro e w8 ⟨rfl, q, rfl⟩
          have mq := ms.drewN q
          clear ms cz
          go_wp2_with fail
          refine (model_any _ _ _ _ (0) _ _ (by omega) mq.kr mq.nr hsz mq.gz).mono ?_
          rintro e w9 ⟨rfl, rfl⟩
          clear hsz
          go_wp2_with fail
          go_roundw
          case rel => exact ⟨k + 1, 0, _, _, _, by omega, by omega, by go_num, rfl, rfl, rfl, mq⟩
          case measure => simp [intOf]; omega
        · obtain ⟨d', rfl⟩ : ∃ d', d = d' + 1 := ⟨d - 1, by omega⟩
          have ms : MS w wr len (k + 1) d' T S F := ⟨hl.ns.pop, hl.kr.less (by omega), hl.nr.less (by omega), hl.gz.pop⟩
          have cz := ms.ns.row.cell (j := d') (by omega)
          clear hl hd0
          go_wp2_with fail
          have hsz := ms.ns.small.mono (Nat.le_refl _) (show ((k + 1 : Nat) : Int) ≤ 100000 by omega)
          refine (zzNext_any (d' + 1) _ _ 100000 (by omega) (by omega) hsz (d') _ (by omega) ms.ns.tabs.chain).mono ?_
          rintro e w8 ⟨rfl, q, rfl⟩
          have mq := ms.drewN q
          clear ms cz
          go_wp2_with fail
          refine (model_any _ _ _ _ (d') _ _ (by omega) mq.kr mq.nr hsz mq.gz).mono ?_
          rintro e w9 ⟨rfl, rfl⟩
          clear hsz
          go_wp2_with fail
          go_roundw
          case rel => exact ⟨k + 1, d', _, _, _, by omega, by omega, by go_num, rfl, rfl, rfl, mq⟩
          case measure => simp [intOf]; omega
      · have gd := hl.ns.row.cell (j := d) (by omega)
        have hsm := hl.ns.small.mono (Nat.le_refl _) (show (k : Int) ≤ 100000 by omega)
        go_wp2_with fail
        refine (model_any _ _ _ _ d _ _ (by omega) hl.kr hl.nr hsm hl.gz).mono ?_
        rintro e w1 ⟨rfl, rfl⟩
        obtain ⟨x, HX⟩ : ∃ x, Hid (nextIdx S d = x) := ⟨_, rfl⟩
        rw [HX.out]
        go_wp2_with fail
        refine (define_any _ _ hl.ns.tabs d (by omega) (by omega) hsm).mono ?_
        rintro e w2 ⟨rfl, hdf⟩
        obtain ⟨n2, hy2⟩ := hl.ns.defd hdf
        rw [HX.out] at hy2
        have cy := hy2.cells.2.2.1
        have k2 := hdf.2.2.row hl.kr (by decide) (by decide)
        have c2 := hdf.2.2.row hl.nr (by decide) (by decide)
        have hgz := hl.gz
        clear hy2 hdf hl gd
        go_wp2_with fail
        refine (inner_any _ _ d _ _ (by omega) k2).mono ?_
        rintro e w3 ⟨rfl, rfl⟩
        clear cy
        cases hg : isGlob S d
        · have hin : innerOf S d = (fIdx S d : Int) := by unfold innerOf; rw [hg]; rfl
          have HC : Hid ((if isGlob S d = true then 0 else d) = d) := by show _ = _; rw [hg]; rfl
          rw [hin]
          clear hin hg
          generalize fIdx S d = f
          have cc := c2.cell (j := d) (by omega)
          have hnu := hsm d (by omega)
          obtain ⟨nu, HNU⟩ : ∃ nu, Hid ((S d).num = nu) := ⟨_, rfl⟩
          have cc' : w3.cell? ⟨w.heap.size + 1 + 1, d, none⟩ = some (.int .i64 nu) := by rw [cc, ← HNU.out]; rfl
          rw [HNU.out] at hnu
          have ccf := c2.frozen (d)
          clear cc hsm
          go_wp2_with (first
            | (refine wpList_store1 rfl _ _ 3 rfl i3 hi3 hs3 ⟨w.heap.size + 1 + 1, d, none⟩ (.int .i64 (nu + 1)) _ rfl rfl rfl rfl cc' ccf ?_
               intro w4 e4
               have ms := MS.count n2 k2 c2 hgz HC.out (by omega) (w' := w4) (by rw [HNU.out]; exact e4.out)
               have cz := ms.ns.row.cell (j := d) (by omega)
               clear cc' ccf e4 n2 k2 c2))
          have hsz := ms.ns.small.mono (Nat.le_refl _) (show ((k + 1 : Nat) : Int) ≤ 100000 by omega)
          refine (zzNext_any (d + 1) _ _ 100000 (by omega) (by omega) hsz (d) _ (by omega) ms.ns.tabs.chain).mono ?_
          rintro e w8 ⟨rfl, q, rfl⟩
          have mq := ms.drewN q
          clear ms cz
          go_wp2_with fail
          refine (model_any _ _ _ _ (d) _ _ (by omega) mq.kr mq.nr hsz mq.gz).mono ?_
          rintro e w9 ⟨rfl, rfl⟩
          clear hsz
          go_wp2_with fail
          go_roundw
          case rel => exact ⟨k + 1, d, _, _, _, by omega, by omega, by go_num, rfl, rfl, rfl, mq⟩
          case measure => simp [intOf]; omega
        · have hin : innerOf S d = -1 := by unfold innerOf; rw [hg]; rfl
          have HC : Hid ((if isGlob S d = true then 0 else d) = 0) := by show _ = _; rw [hg]; rfl
          rw [hin]
          clear hin hg
          have id0 : (0 : Int) < (d : Int) + 1 := by omega
          have cc := c2.cell (j := 0) (by omega)
          have hnu := hsm 0 (by omega)
          obtain ⟨nu, HNU⟩ : ∃ nu, Hid ((S 0).num = nu) := ⟨_, rfl⟩
          have cc' : w3.cell? ⟨w.heap.size + 1 + 1, 0, none⟩ = some (.int .i64 nu) := by rw [cc, ← HNU.out]; rfl
          rw [HNU.out] at hnu
          have ccf := c2.frozen (0)
          clear cc hsm
          go_wp2_with (first
            | (refine wpList_store1 rfl _ _ 3 rfl i3 hi3 hs3 ⟨w.heap.size + 1 + 1, 0, none⟩ (.int .i64 (nu + 1)) _ rfl rfl rfl rfl cc' ccf ?_
               intro w4 e4
               have ms := MS.count n2 k2 c2 hgz HC.out (by omega) (w' := w4) (by rw [HNU.out]; exact e4.out)
               have cz := ms.ns.row.cell (j := d) (by omega)
               clear cc' ccf e4 n2 k2 c2))
          have hsz := ms.ns.small.mono (Nat.le_refl _) (show ((k + 1 : Nat) : Int) ≤ 100000 by omega)
          refine (zzNext_any (d + 1) _ _ 100000 (by omega) (by omega) hsz (d) _ (by omega) ms.ns.tabs.chain).mono ?_
          rintro e w8 ⟨rfl, q, rfl⟩
          have mq := ms.drewN q
          clear ms cz
          go_wp2_with fail
          refine (model_any _ _ _ _ (d) _ _ (by omega) mq.kr mq.nr hsz mq.gz).mono ?_
          rintro e w9 ⟨rfl, rfl⟩
          clear hsz
          go_wp2_with fail
          go_roundw
          case rel => exact ⟨k + 1, d, _, _, _, by omega, by omega, by go_num, rfl, rfl, rfl, mq⟩
          case measure => simp [intOf]; omega
    · have hbl := hl.ns.below
      go_wp2_with fail
      go_ret
      exact ⟨rfl, hbl⟩
end Go.Proofs.Yoeetw
