import Derived.Test.YoeetwStack
import Derived.Test.YoeetwRaises
namespace Go.Proofs.Yoeetw
open Go.RowKit

theorem bytes33_any (a0 : Option Addr) (l0 c0 : Nat) (w : World) (h0 : l0 ≤ maxLen) :
    Calls Eetg.prog 33 #[.slice a0 l0 c0] w fun e w' => ∃ b, e = .returned (.bool b) ∧ w' = w := by
  unfold maxLen at h0
  go_enter Eetg.func33, Eetg.ntmps33
  go_wp2
  all_goals (go_ret; exact ⟨_, rfl, rfl⟩)

theorem bytes28_any (a0 : Option Addr) (l0 c0 : Nat) (w : World) (h0 : l0 ≤ maxLen) :
    Calls Eetg.prog 28 #[.slice a0 l0 c0] w fun e w' => ∃ b, e = .returned (.bool b) ∧ w' = w := by
  unfold maxLen at h0
  go_enter Eetg.func28, Eetg.ntmps28
  go_wp2
  all_goals (go_ret; exact ⟨_, rfl, rfl⟩)

theorem slots_long (a0 : Option Addr) (l0 c0 : Nat) (w : World) (h0 : l0 ≤ maxLen) (h : 4096 < l0) :
    Calls Eetg.prog 8 #[.slice a0 l0 c0] w fun e w' => e = .returned (.bool true) ∧ Below w.heap.size w w' := by
  have HB := bytes33_any a0 l0 c0 w h0
  unfold maxLen at h0
  go_enter Eetg.func8, Eetg.ntmps8
  go_wp2_with fail
  refine HB.mono ?_
  rintro e w' ⟨b, rfl, rfl⟩
  clear HB
  have g0 : (4096 : Int) < l0 := by omega
  cases b
  all_goals (go_wp2_with fail; go_ret; exact ⟨rfl, Below.refl _ _⟩)

theorem tabs_of_laid {w w1 : World} {ks : Nat → Bool} {cap k : Nat} (h : Laid w w1 ks cap k) :
    Tabs w1 w.heap.size (k + 1) (tb w.heap.size) (initS ks w.heap.size) (fun _ _ => none) [] := by
  refine ⟨h.chain, fun j hj => MapIs.empty (h.maps j (by omega)), fun i j _ _ e => ?_, fun j _ => ⟨?_, ?_⟩, fun i j hij _ => ?_, World.ownsRow_nil _ _ _ _⟩
  · simp only [initS, newTab] at e; omega
  · simp only [tb]; omega
  · simp only [initS, newTab]; omega
  · simp only [tb]; omega

/-- A block that is no table, map or row of symbols is written. -/
theorem Tabs.but {w w' : World} {base n C : Nat} {T : Nat → Nat} {S : Nat → Tab} {F : Nat → ByteArray → Option Nat} {xs : List Nat} (h : Tabs w base n T S F xs) (hf : Frm (fun b => b = C) w w')
    {c : Array Value} {e : TypeId} {f : Nat × Nat} (hc : w.heap[C]? = some (.cells c e f)) (h1 : e ≠ 62) (h2 : e ≠ 33) : Tabs w' base n T S F xs := by
  refine ⟨h.chain.keep (fun j hj => hf.block _ (h.chain.lt hj) (fun x => ?_)), fun j hj => (h.maps j hj).frm hf (fun x => ?_), h.inj, h.ge, h.mono, ownsRow_keep h.bi (fun g hg ⟨c', f', hgg⟩ => hf.block g hg (fun x => ?_))⟩
  · have := h.chain.obj j hj
    rw [x, hc] at this; cases this; exact h1 rfl
  · obtain ⟨es, cl, h3, _⟩ := (h.maps j hj).ex
    rw [x, hc] at h3; cases h3
  · rw [x, hc] at hgg; cases hgg; exact h2 rfl

/-- The stack of d + 1 tables behind k operations. -/
structure NS (w wr : World) (len k d : Nat) (T : Nat → Nat) (S : Nat → Tab) (F : Nat → ByteArray → Option Nat) : Prop where
  row : Row wr w.heap.size 31 (d + 1) (len + 1) (ptrs T)
  tabs : Tabs wr w.heap.size (d + 1) T S F []
  small : Small S (d + 1) k
  below : Below w.heap.size w wr

theorem NS.push {w wr w3 w4 : World} {len k d : Nat} {T : Nat → Nat} {S : Nat → Tab} {F : Nat → ByteArray → Option Nat} {b : Bool} {o : Obj} (h : NS w wr len k d T S F)
    (e3 : w3.heap = (((wr.alloc (.map #[] 0)).alloc (tobj (some ⟨T d, 0, none⟩) (newTab b wr.heap.size))).alloc o).heap) (e3o : w3.os = wr.os) (e3t : w3.tape = wr.tape) (e3p : w3.output = wr.output)
    (r4 : Row w4 w.heap.size 31 (d + 1 + 1) (len + 1) (setf (ptrs T) (d + 1) (.pointer (some ⟨wr.heap.size + 1, 0, none⟩)))) (f4 : Frm (fun b => b = w.heap.size) w3 w4) :
    NS w w4 len (k + 1) (d + 1) (setn T (d + 1) (wr.heap.size + 1)) (put S (d + 1) (newTab b wr.heap.size)) (setF F (d + 1)) := by
  obtain ⟨h1, h2, h3, h4⟩ := heap_three wr (.map #[] 0) (tobj (some ⟨T d, 0, none⟩) (newTab b wr.heap.size)) o
  rw [← e3] at h1 h2 h3 h4
  have f3 : Frm (fun _ => False) wr w3 := ⟨e3o, e3t, e3p, by omega, fun k hk _ => h3 k hk⟩
  have t3 := h.tabs.push f3 h.below.size h2 h1 (by omega) (Nat.le_refl _)
  obtain ⟨cur, hc, _⟩ := h.row.ex
  have hc3 : w3.heap[w.heap.size]? = some (.cells cur 31) := (h3 _ h.row.lt).trans hc
  refine ⟨r4.congr (fun j _ => ?_), t3.but f4 hc3 (by decide) (by decide), (h.small.push (by omega) b _).mono (Nat.le_refl _) (by omega), ?_⟩
  · unfold setf ptrs setn
    split
    · rfl
    · rfl
  · exact (h.below.trans (f3.below h.below.size (fun _ x => x.elim))).trans (f4.below (by have := h.below.size; omega) (fun _ x => by omega))

theorem NS.drewN {w wr : World} {len k d : Nat} {T : Nat → Nat} {S : Nat → Tab} {F : Nat → ByteArray → Option Nat} (h : NS w wr len k d T S F) (q : Nat) : NS w (wr.drewN q) len k d T S F :=
  ⟨h.row.keep rfl, h.tabs.drewN q, h.small, ⟨h.below.os, h.below.tape, h.below.output, h.below.size, h.below.block⟩⟩

theorem NS.pop {w wr : World} {len k d : Nat} {T : Nat → Nat} {S : Nat → Tab} {F : Nat → ByteArray → Option Nat} (h : NS w wr len k (d + 1) T S F) : NS w wr len (k + 1) d T S F :=
  ⟨h.row.less (by omega), h.tabs.pop (by omega), h.small.mono (by omega) (by omega), h.below⟩

theorem NS.defd {w wr w2 : World} {len k d : Nat} {T : Nat → Nat} {S : Nat → Tab} {F : Nat → ByteArray → Option Nat} {name : ByteArray} (h : NS w wr len k d T S F) (hd : Defd wr w.heap.size (d + 1) T S F [] name d w2) :
    NS w w2 len (k + 1) d T (defS S d) (updF F d name wr.heap.size) ∧ Sym w2 wr.heap.size name (if isGlob S d = true then scG else scL) (nextIdx S d) := by
  obtain ⟨h1, h2, h3⟩ := hd
  exact ⟨⟨h3.row h.row (by decide) (by decide), h2, by have := defS_small h.small d; exact this.mono (Nat.le_refl _) (by omega), h.below.trans (FK.below h3 h.below.size)⟩, h1⟩

theorem NS.stay {w wr : World} {len k d : Nat} {T : Nat → Nat} {S : Nat → Tab} {F : Nat → ByteArray → Option Nat} (h : NS w wr len k d T S F) : NS w wr len (k + 1) d T S F :=
  ⟨h.row, h.tabs, h.small.mono (Nat.le_refl _) (by omega), h.below⟩

set_option maxRecDepth 100000 in
set_option maxHeartbeats 2000000 in
theorem slots_any (a0 : Option Addr) (len cap : Nat) (ov : Nat → Nat) (w : World) (hlen : len ≤ 4096) (hov : ∀ i, ov i < 256) (r0 : Reads w w.heap.size a0 len (fun i => .int .u8 ((ov i : Nat) : Int))) :
    Calls Eetg.prog 8 #[.slice a0 len cap] w fun e w' => e = .returned (.bool true) ∧ Below w.heap.size w w' := by
  have HB := bytes33_any a0 len cap w (by unfold maxLen; omega)
  have d0 : decide ((4096 : Int) < len) = false := by simp; omega
  obtain ⟨i31, hi31, hz31, hs31, hb31⟩ := info_parts info31
  go_enter Eetg.func8, Eetg.ntmps8
  go_wp2_with fail
  refine HB.mono ?_
  rintro e w ⟨b, rfl, rfl⟩
  clear HB
  cases b
  · go_wp2_with fail
    go_ret
    exact ⟨rfl, Below.refl _ _⟩
  go_wp2_with (first
    | (at_make; go_must (refine wpList_make1 rfl _ _ 28 rfl 31 i31 _ 8 Eetg.underlying28 hi31 hz31 hs31 hb31 rfl .i64 .i64 _ _ 0 (len + 1) rfl rfl rfl (by simp) (by omega) (by omega) (by unfold maxLen; omega) ?_; intro w1 r1 f1 s1))
    | (go_at_call 26; refine (new_any _).mono ?_; rintro e w2 ⟨rfl, rfl⟩)
    | (at_builtin; go_must (refine wpList_append1 rfl _ _ 28 rfl 31 i31 Eetg.underlying28 hi31 hs31 w.heap.size 0 (len + 1) _ _ _ rfl rfl (((((r1.less (Nat.zero_le _)).keep (Below.heap_alloc _ _ _ r1.lt)).keep (Below.heap_alloc _ _ _ (by simp; have := r1.lt; omega))).keep (Below.heap_alloc _ _ _ (by simp; have := r1.lt; omega)))) (cell_new (by simp [s1])) rfl (by omega) ?_; intro w4 r4 f4 s4)))
  have l0 : Laid w w4 (fun _ => false) (len + 1) 0 := laid_zero f1 s1 r4 f4 s4
  have q0 : NS w w4 len 0 0 (tb w.heap.size) (initS (fun _ => false) w.heap.size) (fun _ _ => none) :=
    ⟨l0.row, tabs_of_laid l0, fun j _ => by simp [initS, newTab], l0.frm.below (Nat.le_refl _) (fun _ h => h.elim)⟩
  clear r4 f4 s4 r1 f1 s1 l0
  go_loopw [3, 4] (fun v i wr => ∃ (k d : Nat) (T : Nat → Nat) (S : Nat → Tab) (F : Nat → ByteArray → Option Nat), k ≤ len ∧ d ≤ k ∧ i = .int .i64 k ∧ v = .slice (some ⟨w.heap.size, 0, none⟩) (d + 1) (len + 1) ∧ NS w wr len k d T S F)
    (fun _ i _ => len - (intOf i).toNat)
  case atStart => exact ⟨0, 0, _, _, _, Nat.zero_le _, Nat.zero_le _, rfl, rfl, q0⟩
  case round =>
    obtain ⟨k, d, T, S, F, hk, hdk, rfl, rfl, hl⟩ := hrel
    clear q0
    by_cases hlt : k < len
    · obtain ⟨b, off, rfl, hb, hcb⟩ := r0 k hlt
      have g0 : wr.cell? ⟨b, off + k, none⟩ = some (.int .u8 ((ov k : Nat) : Int)) := (hl.below.cell (p := ⟨b, off + k, none⟩) hb).trans hcb
      have hok := hov k
      obtain ⟨r, hr4, hrem⟩ : ∃ r : Nat, r < 4 ∧ (((ov k : Nat) : Int)).tmod 4 = (r : Int) :=
        ⟨ov k % 4, Nat.mod_lt _ (by omega), by rw [Int.tmod_eq_emod_of_nonneg (by omega)]; rfl⟩
      have i0 : (0 : Int) ≤ k := by omega
      have i1 : (k : Int) < len := by omega
      clear r0 hcb
      obtain rfl | rfl | rfl | rfl : r = 0 ∨ r = 1 ∨ r = 2 ∨ r = 3 := by omega
      · have gd := hl.row.cell (j := d) (by omega)
        have hsm := hl.small.mono (Nat.le_refl _) (show (k : Int) ≤ 100000 by omega)
        go_wp2_with fail
        refine (zzNext_any (d + 1) T S 100000 (by omega) (by omega) hsm d wr (by omega) hl.tabs.chain).mono ?_
        rintro e w1 ⟨rfl, q, rfl⟩
        obtain ⟨x, HX⟩ : ∃ x, Hid (nextIdx S d = x) := ⟨_, rfl⟩
        rw [HX.out]
        have hlq := hl.drewN q
        clear hl
        go_wp2_with (first
          | (go_at_call 29; refine (fork_any _ _ _).mono ?_; rintro e w2 ⟨rfl, rfl⟩)
          | (at_builtin
             go_must (refine wpList_append1 rfl _ _ 28 rfl 31 i31 Eetg.underlying28 hi31 hs31 w.heap.size (d + 1) (len + 1) _ (ptrs T) _ rfl rfl (by exact (hlq.row.keep ((heap_three (wr.drewN q) _ _ _).2.2.1 _ hlq.row.lt))) (by exact cell_new (by simp)) rfl (by omega) ?_)
             intro w4 r4 f4 s4
             have n4 := hlq.push (b := true) (by rfl) (by rfl) (by rfl) (by rfl) r4 f4
             have c4 := n4.row.cell (j := d + 1) (by omega)))
        have hs4 := n4.small.mono (Nat.le_refl _) (show ((k + 1 : Nat) : Int) ≤ 100000 by omega)
        refine (zzNext_any (d + 1 + 1) _ _ 100000 (by omega) (by omega) hs4 (d + 1) w4 (by omega) n4.tabs.chain).mono ?_
        rintro e w5 ⟨rfl, q2, rfl⟩
        rw [nextIdx_block, HX.out]
        have n5 := n4.drewN q2
        clear n4 c4 r4 f4 s4 hs4 hsm hlq gd
        go_wp2_with fail
        go_roundw
        case rel => exact ⟨k + 1, d + 1, _, _, _, by omega, by omega, by go_num, rfl, n5⟩
        case measure => simp [intOf]; omega
      · have gd := hl.row.cell (j := d) (by omega)
        go_wp2_with (first
          | (go_at_call 29; refine (fork_any _ _ _).mono ?_; rintro e w2 ⟨rfl, rfl⟩)
          | (at_builtin
             go_must (refine wpList_append1 rfl _ _ 28 rfl 31 i31 Eetg.underlying28 hi31 hs31 w.heap.size (d + 1) (len + 1) _ (ptrs T) _ rfl rfl (by exact (hl.row.keep ((heap_three wr _ _ _).2.2.1 _ hl.row.lt))) (by exact cell_new (by simp)) rfl (by omega) ?_)
             intro w4 r4 f4 s4
             have n4 := hl.push (b := false) (by rfl) (by rfl) (by rfl) (by rfl) r4 f4
             have c4 := n4.row.cell (j := d + 1) (by omega)))
        have hs4 := n4.small.mono (Nat.le_refl _) (show ((k + 1 : Nat) : Int) ≤ 100000 by omega)
        refine (zzNext_any (d + 1 + 1) _ _ 100000 (by omega) (by omega) hs4 (d + 1) w4 (by omega) n4.tabs.chain).mono ?_
        rintro e w5 ⟨rfl, q2, rfl⟩
        rw [nextIdx_func]
        have n5 := n4.drewN q2
        clear n4 c4 r4 f4 s4 hs4 hl gd
        go_wp2_with fail
        go_roundw
        case rel => exact ⟨k + 1, d + 1, _, _, _, by omega, by omega, by go_num, rfl, n5⟩
        case measure => simp [intOf]; omega
      · by_cases hd0 : d = 0
        · subst hd0
          have n5 := hl.stay
          clear hl
          go_wp2_with fail
          go_roundw
          case rel => exact ⟨k + 1, 0, _, _, _, by omega, by omega, by go_num, rfl, n5⟩
          case measure => simp [intOf]; omega
        · obtain ⟨d', rfl⟩ : ∃ d', d = d' + 1 := ⟨d - 1, by omega⟩
          have n5 := hl.pop
          clear hl hd0
          go_wp2_with fail
          go_roundw
          case rel => exact ⟨k + 1, d', _, _, _, by omega, by omega, by go_num, rfl, n5⟩
          case measure => simp [intOf]; omega
      · have gd := hl.row.cell (j := d) (by omega)
        have hsm := hl.small.mono (Nat.le_refl _) (show (k : Int) ≤ 100000 by omega)
        have hxb := nextIdx_le hsm d (by omega)
        go_wp2_with fail
        refine (zzNext_any (d + 1) T S 100000 (by omega) (by omega) hsm d wr (by omega) hl.tabs.chain).mono ?_
        rintro e w1 ⟨rfl, q, rfl⟩
        obtain ⟨x, HX⟩ : ∃ x, Hid (nextIdx S d = x) := ⟨_, rfl⟩
        rw [HX.out] at hxb ⊢
        have hx2 : x ≤ 1000000000 := by
          have : (100000 : Int) * ((d : Int) + 1) ≤ 1000000000 := by omega
          omega
        replace hxb := hxb.1
        have hlq := hl.drewN q
        clear hl
        go_wp2_with fail
        refine (define_any _ (wr.drewN q) hlq.tabs d (by omega) (by omega) hsm).mono ?_
        rintro e w2 ⟨rfl, hdf⟩
        obtain ⟨n2, hy2⟩ := hlq.defd hdf
        rw [HX.out] at hy2
        have hnx : nextIdx (defS S d) d = x + 1 := by rw [defS_next, HX.out]
        have hmx : x + 1 ≤ (defS S d d).mx := by
          have := raise_top (nextIdx S d + 1) d (put S (if isGlob S d = true then 0 else d) { S (if isGlob S d = true then 0 else d) with num := (S (if isGlob S d = true then 0 else d)).num + 1 })
          rw [HX.out] at this
          unfold defS; rw [HX.out]; exact this
        have HNX : Hid (nextIdx (defS S d) d = x + 1) := hnx
        have cy : w2.cell? ⟨wr.heap.size, 2, none⟩ = some (.int .i64 x) := hy2.cells.2.2.1
        have g2 := n2.row.cell (j := d) (by omega)
        have hs2 := n2.small.mono (Nat.le_refl _) (show ((k + 1 : Nat) : Int) ≤ 100000 by omega)
        have cm := (n2.tabs.chain.cells (k := d) (by omega)).2.2.2.2.1
        clear hnx hdf hlq gd hsm hy2
        generalize (defS S d d).mx = mx at cm hmx
        go_wp2_with fail
        refine (zzNext_any (d + 1) T _ 100000 (by omega) (by omega) hs2 d w2 (by omega) n2.tabs.chain).mono ?_
        rintro e w5 ⟨rfl, q2, rfl⟩
        rw [HNX.out]
        go_wp2_with fail
        refine (maxSym_any (w2.drewN q2) cm).mono ?_
        rintro e w6 ⟨rfl, rfl⟩
        have n5 := n2.drewN q2
        clear n2 cy g2 hs2 cm
        go_wp2_with fail
        go_roundw
        case rel => exact ⟨k + 1, d, _, _, _, by omega, by omega, by go_num, rfl, n5⟩
        case measure => simp [intOf]; omega
    · have hbl := hl.below
      go_wp2_with fail
      go_ret
      exact ⟨rfl, hbl⟩
end Go.Proofs.Yoeetw
