import Derived.Test.YoeetwResolve
import Derived.Test.YoeetwListing
import Derived.LaidEqlPtr
namespace Go.Proofs.Yoeetw
open Go.RowKit

/-! FnBuiltinSymbolsSharedAndLastWins. -/

theorem info39 : (Eetg.prog.info? 39).map (fun i => i.size) = some 4 := by kernel_rfl

/-- 'p != p' for a pointer to a symbol. -/
theorem neq33 (a : Addr) (w : World) : (binOp .neq 33 (.pointer (some a)) (.pointer (some a))).run Eetg.prog w = .ok (.bool false) w := by
  obtain ⟨j, hj, _⟩ := Option.map_eq_some_iff.1 info39
  have h : ∀ d : Nat, (Op.equalIn (d + 1) 33 (.pointer (some a)) (.pointer (some a))).run Eetg.prog w = .ok true w := fun d => by
    simp [Op.equalIn, run_underlying Eetg.underlying33, sizeOf, typeInfo, hj, run_sameAddr_same]
  simp only [binOp]
  simp [Op.equal, Op.maxDepth, h 9999]

theorem toList_ne {a b : ByteArray} (h : a ≠ b) : (a.toList == b.toList) = false := by
  rw [Bool.eq_false_iff]
  intro e
  apply h
  have e' : a.toList = b.toList := by simpa using e
  rw [ByteArray.toList_eq, ByteArray.toList_eq] at e'
  cases a; cases b
  simp at e'
  rw [e']

/-- What the root's map holds behind k calls of DefineBuiltin. -/
def fAt (ss : Nat → ByteArray) (xs : List Nat) : Nat → ByteArray → Option Nat
  | 0 => fun _ => none
  | k + 1 => fset (fAt ss xs k) (ss k) (xs.getD k 0)

theorem getD_append_left (xs : List Nat) (p j : Nat) (h : j < xs.length) : (xs ++ [p]).getD j 0 = xs.getD j 0 := by
  rw [List.getD_eq_getElem?_getD, List.getD_eq_getElem?_getD, List.getElem?_append_left h]

theorem getD_append_last (xs : List Nat) (p : Nat) : (xs ++ [p]).getD xs.length 0 = p := by
  rw [List.getD_eq_getElem?_getD, List.getElem?_append_right (Nat.le_refl _), Nat.sub_self]; rfl

theorem fAt_append (ss : Nat → ByteArray) (xs : List Nat) (p : Nat) : ∀ k, k ≤ xs.length → fAt ss (xs ++ [p]) k = fAt ss xs k := by
  intro k
  induction k with
  | zero => intro _; rfl
  | succ k ih => intro h; simp only [fAt]; rw [ih (by omega), getD_append_left _ _ _ (by omega)]

theorem fAt_last (ss : Nat → ByteArray) (xs : List Nat) (s : ByteArray) (j : Nat) (hj : ss j = s) : ∀ k, j < k → (∀ i, j < i → i < k → ss i ≠ s) → fAt ss xs k s = some (xs.getD j 0) := by
  intro k
  induction k with
  | zero => intro h; omega
  | succ k ih =>
    intro h hn
    simp only [fAt]
    unfold fset
    by_cases e : j = k
    · subst e; rw [if_pos hj.symm]
    · rw [if_neg (fun x => hn k (by omega) (by omega) x.symm)]
      exact ih (by omega) (fun i h1 h2 => hn i h1 (by omega))

/-- A row of symbols that is not the root's own is written. -/
theorem Tabs.but33 {w w' : World} {base n R : Nat} {T : Nat → Nat} {S : Nat → Tab} {F : Nat → ByteArray → Option Nat} {xs : List Nat} (h : Tabs w base n T S F xs) (hf : Frm (fun b => b = R) w w')
    {c : Array Value} {f : Nat × Nat} (hc : w.heap[R]? = some (.cells c 33 f)) (hne : some R ≠ (S 0).bs.ownBlock) : Tabs w' base n T S F xs := by
  refine ⟨h.chain.keep (fun j hj => hf.block _ (h.chain.lt hj) (fun x => ?_)), fun j hj => (h.maps j hj).frm hf (fun x => ?_), h.inj, h.ge, h.mono, ?_⟩
  · have := h.chain.obj j hj
    rw [x, hc] at this; cases this
  · obtain ⟨es, cl, h3, _⟩ := (h.maps j hj).ex
    rw [x, hc] at h3; cases h3
  · refine ⟨h.bi.1, ?_⟩
    rcases h.bi.2 with h0 | ⟨g, cap, cur, hv, hbg, hg, r⟩
    · exact Or.inl h0
    · refine Or.inr ⟨g, cap, cur, hv, hbg, (hf.block g (Array.getElem?_eq_some_iff.1 hg).1 (fun x => hne ?_)).trans hg, r⟩
      rw [hv, ← x]; rfl

theorem Sym.but {w w' : World} {R p : Nat} {nm sc : ByteArray} {ix : Int} (h : Sym w p nm sc ix) (hf : Frm (fun b => b = R) w w') {c : Array Value} {e : TypeId} {f : Nat × Nat} (hc : w.heap[R]? = some (.cells c e f)) (he : e ≠ 39) : Sym w' p nm sc ix := by
  unfold Sym at h ⊢
  rw [hf.block p (Array.getElem?_eq_some_iff.1 h).1 (fun x => ?_)]; exact h
  rw [x, hc] at h; cases h; exact he rfl

/-- The state behind k calls of DefineBuiltin, with the row 'rets' in block R. -/
structure B2 (w wr : World) (l0 m R : Nat) (ix : Nat → Int) (ss : Nat → ByteArray) (k : Nat) (S : Nat → Tab) (F : Nat → ByteArray → Option Nat) (xs : List Nat) : Prop where
  tabs : Tabs wr w.heap.size (l0 + 1) (tb w.heap.size) S F xs
  len : xs.length = k
  sym : ∀ j, j < k → Sym wr (xs.getD j 0) (ss j) scB (ix j)
  row : Row wr w.heap.size 31 (l0 + 1) (l0 + 1) (ptrs (tb w.heap.size))
  below : Below w.heap.size w wr
  rets : Row wr R 33 k m (fun j => ptr (xs.getD j 0))
  ne : some R ≠ (S 0).bs.ownBlock
  f0 : F 0 = fAt ss xs k

theorem B2.step {w wr w2 w3 w4 : World} {l0 m R : Nat} {ix : Nat → Int} {ss : Nat → ByteArray} {k : Nat} {S : Nat → Tab} {F : Nat → ByteArray → Option Nat} {xs : List Nat} (h : B2 w wr l0 m R ix ss k S F xs) (hR : w.heap.size < R) {v : Value}
    (hsy2 : Sym w2 wr.heap.size (ss k) scB (ix k)) (ht2 : Tabs w2 w.heap.size (l0 + 1) (tb w.heap.size) (put S 0 { S 0 with bs := v }) (updF F 0 (ss k) wr.heap.size) (xs ++ [wr.heap.size])) (hfk : FK w.heap.size (wr.drewN 1) w2)
    (hbf : BsFr (wr.drewN 1) w2 (S 0).bs v) (f3 : Frm (fun _ => False) w2 w3)
    (r4 : Row w4 R 33 (k + 1) m (setf (fun j => ptr (xs.getD j 0)) k (ptr wr.heap.size))) (f4 : Frm (fun b => b = R) w3 w4) :
    B2 w w4 l0 m R ix ss (k + 1) (put S 0 { S 0 with bs := v }) (updF F 0 (ss k) wr.heap.size) (xs ++ [wr.heap.size]) := by
  obtain ⟨cur, hc, _⟩ := h.rets.ex
  have hc2 : w2.heap[R]? = some (.cells cur 33) := (hbf.2 R cur _ hc h.ne).trans hc
  have hRl : R < wr.heap.size := h.rets.lt
  have hRl2 : R < w2.heap.size := (Array.getElem?_eq_some_iff.1 hc2).1
  have hc3 : w3.heap[R]? = some (.cells cur 33) := (f3.block R hRl2 (fun x => x)).trans hc2
  have hne2 : some R ≠ v.ownBlock := fun x => h.ne (hbf.1 R hRl x)
  have hb0 : Below w.heap.size w (wr.drewN 1) := ⟨h.below.os, h.below.tape, h.below.output, h.below.size, h.below.block⟩
  have hb2 : Below w.heap.size w w2 := hb0.trans (FK.below hfk h.below.size)
  have hb3 : Below w.heap.size w w3 := hb2.trans (f3.below hb2.size (fun _ x => x.elim))
  have sy3 : ∀ {p : Nat} {nm sc : ByteArray} {i : Int}, Sym w2 p nm sc i → Sym w4 p nm sc i := fun hs =>
    Sym.but (w := w3) (by unfold Sym at hs ⊢; rw [f3.block _ (Array.getElem?_eq_some_iff.1 hs).1 (fun x => x)]; exact hs) f4 hc3 (by decide)
  refine ⟨(ht2.grow f3).but33 f4 hc3 (by rw [put_same]; exact hne2), by simp [h.len], fun j hj => ?_, ((hfk.row (h.row.keep rfl) (by decide) (by decide)).frm f3 (fun x => x)).frm f4 (by omega), hb3.trans (f4.below hb3.size (fun _ x => by omega)), r4.congr (fun j hj => ?_), by rw [put_same]; exact hne2, ?_⟩
  · by_cases e : j = k
    · subst e; rw [← h.len, getD_append_last]; rw [h.len]; exact sy3 hsy2
    · rw [getD_append_left _ _ _ (by rw [h.len]; omega)]
      exact sy3 (hfk.sym (h.sym j (by omega)))
  · unfold setf
    by_cases e : j = k
    · subst e; rw [if_pos rfl, ← h.len, getD_append_last]
    · rw [if_neg e, getD_append_left _ _ _ (by rw [h.len]; omega)]
  · have e1 : updF F 0 (ss k) wr.heap.size 0 = fset (F 0) (ss k) wr.heap.size := by simp [updF]
    rw [e1, h.f0]
    simp only [fAt]
    rw [fAt_append _ _ _ _ (by rw [h.len]; exact Nat.le_refl _)]
    rw [show (xs ++ [wr.heap.size]).getD k 0 = wr.heap.size by rw [← h.len]; exact getD_append_last _ _]

set_option maxRecDepth 100000 in
theorem shared_long (a0 a1 a2 a3 : Option Addr) (l0 c0 l1 c1 l2 c2 l3 c3 : Nat) (ss : Nat → ByteArray) (w : World) (h0 : l0 ≤ maxLen) (h1 : l1 ≤ maxLen) (h2 : l2 ≤ maxLen) (h3 : l3 ≤ maxLen)
    (hs : ∀ i, (ss i).size ≤ maxLen) (hr : Reads w w.heap.size a3 l3 (fun i => .string (ss i))) (h : 4096 < l0 ∨ 4096 < l1 ∨ 4096 < l2 ∨ 4096 < l3) :
    Calls Eetg.prog 4 #[.slice a0 l0 c0, .slice a1 l1 c1, .slice a2 l2 c2, .slice a3 l3 c3] w fun e w' => e = .returned (.bool true) ∧ Below w.heap.size w w' := by
  have HB := bytes17_any a0 a1 a2 a3 l0 c0 l1 c1 l2 c2 l3 c3 ss w h0 h1 h2 h3 hs hr
  unfold maxLen at h0 h1 h2 h3
  go_enter Eetg.func4, Eetg.ntmps4
  go_wp2_with fail
  refine HB.mono ?_
  rintro e w' ⟨⟨b, rfl, _⟩, rfl⟩
  clear HB hs hr
  by_cases g0 : (4096 : Int) < l0
  · cases b
    all_goals (go_wp2_with fail; go_ret; exact ⟨rfl, Below.refl _ _⟩)
  · by_cases g1 : (4096 : Int) < l1
    · cases b
      all_goals (go_wp2_with fail; go_ret; exact ⟨rfl, Below.refl _ _⟩)
    · by_cases g2 : (4096 : Int) < l2
      · cases b
        all_goals (go_wp2_with fail; go_ret; exact ⟨rfl, Below.refl _ _⟩)
      · have g3 : (4096 : Int) < l3 := by omega
        cases b
        all_goals (go_wp2_with fail; go_ret; exact ⟨rfl, Below.refl _ _⟩)

theorem sh_keep {C R : Nat} {wr w2 w4 : World} {o : Obj} (hfk : FK C (wr.drewN 1) w2) (hC : C ≤ wr.heap.size) (f4 : Frm (fun b => b = R) (w2.alloc o) w4) (hR : C < R) {p : Addr} {v : Value} (h : wr.cell? p = some v) (hp : p.block < C) : w4.cell? p = some v := by
  have h2 := fk_keep hfk hC h hp
  have h3 := cell1 h2 o
  have hlt := World.block_lt_of_cell? _ _ h3
  exact (World.cell?_of_block (w := w2.alloc o) (f4.block p.block hlt (by omega))).trans h3

theorem B2.retsKeep {w wr w2 : World} {l0 m R : Nat} {ix : Nat → Int} {ss : Nat → ByteArray} {k : Nat} {S : Nat → Tab} {F : Nat → ByteArray → Option Nat} {xs : List Nat} (h : B2 w wr l0 m R ix ss k S F xs) {v : Value} (hbf : BsFr (wr.drewN 1) w2 (S 0).bs v) : w2.heap[R]? = wr.heap[R]? := by
  obtain ⟨cur, hc, _⟩ := h.rets.ex
  exact hbf.2 R cur _ hc h.ne

theorem B2.retsLt {w wr w2 : World} {l0 m R : Nat} {ix : Nat → Int} {ss : Nat → ByteArray} {k : Nat} {S : Nat → Tab} {F : Nat → ByteArray → Option Nat} {xs : List Nat} (h : B2 w wr l0 m R ix ss k S F xs) {v : Value} (hbf : BsFr (wr.drewN 1) w2 (S 0).bs v) : R < w2.heap.size := by
  obtain ⟨cur, hc, _⟩ := h.rets.ex
  have := (h.retsKeep hbf).trans hc
  exact (Array.getElem?_eq_some_iff.1 this).1

set_option maxRecDepth 100000 in
set_option maxHeartbeats 4000000 in
theorem shared_any (a0 a1 a2 a3 : Option Addr) (l0 c0 l1 c1 l2 c2 l3 c3 : Nat) (ks : Nat → Bool) (lv : Nat → Nat) (ix : Nat → Int) (ss : Nat → ByteArray) (w : World) (h0 : l0 ≤ 4096) (h1 : l1 ≤ 4096) (h2 : l2 ≤ 4096) (h3 : l3 ≤ 4096)
    (hs : ∀ i, (ss i).size ≤ maxLen) (hlv : ∀ i, lv i < 65536)
    (r0 : Reads w w.heap.size a0 l0 (fun i => .bool (ks i))) (r1 : Reads w w.heap.size a1 l1 (fun i => .int .u16 (lv i))) (r2 : Reads w w.heap.size a2 l2 (fun i => .int .i64 (ix i))) (r3 : Reads w w.heap.size a3 l3 (fun i => .string (ss i))) :
    Calls Eetg.prog 4 #[.slice a0 l0 c0, .slice a1 l1 c1, .slice a2 l2 c2, .slice a3 l3 c3] w fun e w' => e = .returned (.bool true) ∧ Below w.heap.size w w' := by
  have HB := bytes17_any a0 a1 a2 a3 l0 c0 l1 c1 l2 c2 l3 c3 ss w (by unfold maxLen; omega) (by unfold maxLen; omega) (by unfold maxLen; omega) (by unfold maxLen; omega) hs r3
  have d0 : decide ((4096 : Int) < l0) = false := by simp; omega
  have d1 : decide ((4096 : Int) < l1) = false := by simp; omega
  have d2 : decide ((4096 : Int) < l2) = false := by simp; omega
  have d3 : decide ((4096 : Int) < l3) = false := by simp; omega
  obtain ⟨i33, hi33, hz33, hs33, hb33⟩ := info_parts info33
  have hnq := neq33
  go_enter Eetg.func4, Eetg.ntmps4
  go_wp2_with fail
  refine HB.mono ?_
  rintro e w ⟨⟨b, rfl, hbt⟩, rfl⟩
  clear HB hs
  cases b
  · go_wp2_with fail
    go_ret
    exact ⟨rfl, Below.refl _ _⟩
  replace hbt := hbt rfl
  go_wp2_with fail
  refine (sbytes_any a3 l3 c3 ss w h3 hbt r3).mono ?_
  rintro e w ⟨⟨z, rfl, hz⟩, rfl⟩
  clear hbt
  by_cases hsum : (1048576 : Int) < (l0 : Int) + 2 * l1 + 8 * l2 + z
  · go_wp2_with fail
    go_ret
    exact ⟨rfl, Below.refl _ _⟩
  have d4 : decide ((1048576 : Int) < (l0 : Int) + 2 * l1 + 8 * l2 + z) = false := by simp; omega
  clear hsum
  go_wp2_with fail
  refine (chain_any a0 l0 c0 ks w h0 r0).mono ?_
  rintro e w1 ⟨rfl, hl⟩
  go_wp2_with fail
  refine (min3_nat _ _ _ _).mono ?_
  rintro e w1 ⟨⟨m, rfl, hm⟩, rfl⟩
  have hm1 : m ≤ l1 := by omega
  have hm2 : m ≤ l2 := by omega
  have hm3 : m ≤ l3 := by omega
  clear hm r0
  have hR : w.heap.size < w1.heap.size := by rw [hl.size]; omega
  go_wp2_with (first
    | (at_make; refine wpList_make1 (w := w1) rfl _ _ 35 rfl 33 i33 _ 8 Eetg.underlying35 hi33 hz33 hs33 hb33 rfl .i64 .i64 _ _ 0 m rfl rfl rfl (by simp) (by omega) (by omega) (by unfold maxLen; omega) ?_; intro w2 rr fr sr))
  have q0 : B2 w w2 l0 m w1.heap.size ix ss 0 (initS ks w.heap.size) (fun _ _ => none) [] :=
    ⟨(tabs_start hl).grow fr, rfl, fun j hj => by omega, hl.row.frm fr (fun x => x), (hl.frm.below (Nat.le_refl _) (fun _ h => h.elim)).trans (fr.below (Nat.le_of_lt hR) (fun _ h => h.elim)),
      (rr.less (Nat.zero_le _)).congr (fun j hj => by omega), by simp [initS, newTab, Value.ownBlock], rfl⟩
  clear hl rr fr sr
  obtain ⟨R, HR⟩ : ∃ R, Hid (R = w1.heap.size) := ⟨_, rfl⟩
  rw [← HR.out] at q0 hR ⊢
  clear HR
  go_loopw [11, 12] (fun v i wr => ∃ (k : Nat) (S : Nat → Tab) (F : Nat → ByteArray → Option Nat) (xs : List Nat), k ≤ m ∧ i = .int .i64 k ∧ v = .slice (some ⟨R, 0, none⟩) k m ∧ B2 w wr l0 m R ix ss k S F xs) (fun _ i _ => m - (intOf i).toNat)
  case atStart => exact ⟨0, _, _, _, Nat.zero_le _, rfl, rfl, q0⟩
  case round =>
    obtain ⟨k, S, F, xs, hk, rfl, rfl, hl⟩ := hrel
    clear q0
    by_cases hlt : k < m
    · obtain ⟨b1, o1, rfl, hb1, hc1⟩ := r1 k (by omega)
      obtain ⟨b2, o2, rfl, hb2, hc2⟩ := r2 k (by omega)
      obtain ⟨b3, o3, rfl, hb3, hc3⟩ := r3 k (by omega)
      have g1 : wr.cell? ⟨b1, o1 + k, none⟩ = some (.int .u16 ((lv k : Nat) : Int)) := (hl.below.cell (p := ⟨b1, o1 + k, none⟩) hb1).trans hc1
      have g2 : wr.cell? ⟨b2, o2 + k, none⟩ = some (.int .i64 (ix k)) := (hl.below.cell (p := ⟨b2, o2 + k, none⟩) hb2).trans hc2
      have g3 : wr.cell? ⟨b3, o3 + k, none⟩ = some (.string (ss k)) := (hl.below.cell (p := ⟨b3, o3 + k, none⟩) hb3).trans hc3
      obtain ⟨t, htl, hrem⟩ : ∃ t : Nat, t < l0 + 1 ∧ (((lv k : Nat) : Int)).tmod ((l0 : Int) + 1) = (t : Int) :=
        ⟨lv k % (l0 + 1), Nat.mod_lt _ (by omega), by rw [Int.tmod_eq_emod_of_nonneg (by omega)]; rfl⟩
      have g4 := hl.row.cell htl
      have hlk := hlv k
      have i0 : (0 : Int) ≤ k := by omega
      have i1 : (k : Int) < l1 := by omega
      have i2 : (k : Int) < l2 := by omega
      have i5 : (k : Int) < l3 := by omega
      have i3 : (0 : Int) ≤ t := by omega
      have i4 : (t : Int) < (l0 : Int) + 1 := by omega
      have hcs : w.heap.size ≤ wr.heap.size := hl.below.size
      have hxl : xs.length ≤ 5000 := by rw [hl.len]; omega
      clear r1 r2 r3 hc1 hc2 hc3
      go_wp2_with fail
      go_region_held3 (fun w' => w'.cell? ⟨b2, o2 + k, none⟩ = some (.int .i64 (ix k)) ∧ w'.cell? ⟨b3, o3 + k, none⟩ = some (.string (ss k)))
        (first
          | (go_keep; done)
          | exact ⟨fk_keep hfk hcs g2 hb2, fk_keep hfk hcs g3 hb3⟩
          | exact ⟨cell1 (fk_keep hfk hcs g2 hb2) _, cell1 (fk_keep hfk hcs g3 hb3) _⟩
          | exact ⟨sh_keep hfk hcs f4 hR g2 hb2, sh_keep hfk hcs f4 hR g3 hb3⟩)
        (first
          | (go_at_call 15; refine (defB_any2 (ix k) (ss k) _ (hl.tabs.drewN 1) hxl hcs t htl).mono ?_; rintro e w2 ⟨v, rfl, hsy2, ht2, hfk, hbf⟩)
          | ((refine step_append1 rfl _ _ 35 rfl 33 i33 Eetg.underlying35 hi33 hs33 R k m _ (fun j => ptr (xs.getD j 0)) (ptr wr.heap.size) (by rfl) (by rfl) (by exact ((hl.rets.keep (w' := w2) (B2.retsKeep hl hbf)).keep (Below.heap_alloc _ _ _ (B2.retsLt hl hbf)))) (by exact cell_new (by simp)) rfl (by omega) ?_; intro w4 r4 f4 s4)))
      rename_i hS
      have h5 := hl.step hR hsy2 ht2 hfk hbf ((Frm.refl _ _).alloc _) r4 f4
      clear hl hsy2 ht2 hfk hbf r4 f4 s4 hS g1 g2 g3 g4 hrem hxl
      go_wp2_with fail
      go_roundw
      case rel => exact ⟨k + 1, _, _, _, by omega, by go_num, rfl, h5⟩
      case measure => simp [intOf]; omega
    · obtain rfl : k = m := by omega
      obtain ⟨w3, rfl⟩ : ∃ x, x = wr := ⟨wr, rfl⟩
      obtain ⟨a, cap, hbs, hre⟩ := hl.tabs.bsForm
      rw [hl.len] at hbs hre
      have HBS : Hid ((S 0).bs = .slice a k cap) := hbs
      have hbel := hl.below
      clear hbs r1 r2 hk hlt
      go_wp2_with fail
      go_loopw [14] (fun i wr => ∃ j : Nat, j ≤ l0 + 1 ∧ i = .int .i64 j ∧ ∃ q, wr = w3.drewN q) (fun i _ => l0 + 1 - (intOf i).toNat)
      case atStart => exact ⟨0, by omega, rfl, 0, rfl⟩
      case round =>
        obtain ⟨j, hj, rfl, q, rfl⟩ := hrel
        by_cases hjl : j < l0 + 1
        · have g4 := hl.row.cell hjl
          have i3 : (0 : Int) ≤ j := by omega
          have i4 : (j : Int) < (l0 : Int) + 1 := by omega
          go_wp2_with fail
          refine (bsyms_any _ (hl.tabs.chain.drewN q) j hjl).mono ?_
          rintro e w4 ⟨rfl, rfl⟩
          rw [HBS.out]
          go_wp2_with fail
          go_loopw [16] (fun i wr => ∃ x : Nat, x ≤ k ∧ i = .int .i64 x ∧ ∃ q, wr = w3.drewN q) (fun i _ => k - (intOf i).toNat)
          case atStart => exact ⟨0, by omega, rfl, q, rfl⟩
          case round =>
            obtain ⟨x, hx, rfl, q2, rfl⟩ := hrel
            by_cases hxm : x < k
            · obtain ⟨g, rfl, hg⟩ := hre x hxm
              have cr : w3.cell? ⟨R, x, none⟩ = some (.pointer (some ⟨xs.getD x 0, 0, none⟩)) := hl.rets.cell hxm
              generalize xs.getD x 0 = p at *
              have i0 : (0 : Int) ≤ x := by omega
              have i1 : (x : Int) < k := by omega
              go_wp2_with fail
              go_quiet (fail)
              go_wp2_with fail
              go_roundw
              case rel => exact ⟨x + 1, by omega, by go_num, _, rfl⟩
              case measure => simp [intOf]; omega
            · go_wp2_with fail
              go_roundw
              case rel => exact ⟨j + 1, by omega, by go_num, q2, rfl⟩
              case measure => simp [intOf]; omega
        · clear hre
          have g0 : w3.cell? ⟨w.heap.size, 0, none⟩ = some (.pointer (some ⟨tb w.heap.size 0, 0, none⟩)) := hl.row.cell (by omega)
          go_wp2_with fail
          go_loopw [17] (fun i wr => ∃ x : Nat, x ≤ k ∧ i = .int .i64 x ∧ ∃ q, wr = w3.drewN q) (fun i _ => k - (intOf i).toNat)
          case atStart => exact ⟨0, by omega, rfl, q, rfl⟩
          case round =>
            obtain ⟨i, hi, rfl, q3, rfl⟩ := hrel
            by_cases hik : i < k
            · obtain ⟨b3, o3, rfl, hb3, hc3⟩ := r3 i (by omega)
              have g3 : w3.cell? ⟨b3, o3 + i, none⟩ = some (.string (ss i)) := (hbel.cell (p := ⟨b3, o3 + i, none⟩) hb3).trans hc3
              have i0 : (0 : Int) ≤ i := by omega
              have i1 : (i : Int) < k := by omega
              have i2 : (i : Int) < l3 := by omega
              have i6 : (0 : Int) < (l0 : Int) + 1 := by omega
              clear hc3
              go_wp2_with fail
              go_loopw [18, 19] (fun la kk wr => ∃ r : Nat, i + 1 ≤ r ∧ r ≤ k ∧ la = .int .i64 i ∧ kk = .int .i64 ((r : Int) - 1) ∧ (∀ j, r ≤ j → j < k → ss j ≠ ss i) ∧ ∃ q, wr = w3.drewN q) (fun _ kk _ => (intOf kk + 1).toNat)
              case atStart => exact ⟨k, by omega, Nat.le_refl _, rfl, rfl, fun j h1 h2 => by omega, q3, rfl⟩
              case round =>
                obtain ⟨r, hr1, hr2, rfl, rfl, hno, q4, rfl⟩ := hrel
                have HNO : Hid (∀ j, r ≤ j → j < k → ss j ≠ ss i) := hno
                clear hno
                by_cases hri : r = i + 1
                · have HE : Hid (ss i = ss i) := rfl
                  have HN : Hid (∀ j, i < j → j < k → ss j ≠ ss i) := fun j h1 h2 => HNO.out j (by omega) h2
                  clear HNO
                  have hF : F 0 (ss i) = some (xs.getD (i) 0) := by rw [hl.f0]; exact fAt_last ss xs (ss i) (i) HE.out k (by omega) HN.out
                  have hsy := hl.sym (i) (by omega)
                  have cr := hl.rets.cell (j := i) (by omega)
                  have cr' : w3.cell? ⟨R, i, none⟩ = some (.pointer (some ⟨xs.getD (i) 0, 0, none⟩)) := cr
                  have HRS : Hid (∀ W : World, W.heap = w3.heap → Calls Eetg.prog 18 #[.pointer (some ⟨tb w.heap.size 0, 0, none⟩), .string (ss i), .bool false] W fun e w' => e = .returned (.tuple #[.pointer (some ⟨xs.getD (i) 0, 0, none⟩), .int .i64 0, .bool true]) ∧ w' = W) :=
                    fun W hW => resolve_root W (hl.tabs.chain.keep (fun _ _ => by rw [hW])) (by omega) (F 0) ((hl.tabs.maps 0 (by omega)).keep (by rw [hW])) (ss i) _ hF (ss (i)) scB (ix (i)) (by unfold Sym; rw [hW]; exact hsy) (by decide +kernel)
                  generalize xs.getD (i) 0 = pL at cr' HRS
                  have iL : (0 : Int) ≤ (i : Nat) := by omega
                  have iL2 : ((i : Nat) : Int) < k := by omega
                  clear hF hsy cr HE HN
                  go_wp2_with fail
                  generalize hw5 : w3.drewN q4 = w5
                  have HW5 : Hid (w5.heap = w3.heap) := by rw [← hw5]; rfl
                  have HW6 : Hid (∃ q, w5 = w3.drewN q) := by rw [← hw5]; exact ⟨_, rfl⟩
                  have v0 : w5.cell? ⟨w.heap.size, 0, none⟩ = some (.pointer (some ⟨tb w.heap.size 0, 0, none⟩)) := by rw [← hw5]; exact g0
                  have v3 : w5.cell? ⟨b3, o3 + i, none⟩ = some (.string (ss i)) := by rw [← hw5]; exact g3
                  have vr : w5.cell? ⟨R, i, none⟩ = some (.pointer (some ⟨pL, 0, none⟩)) := by rw [← hw5]; exact cr'
                  clear hw5
                  go_quiet ((go_at_call 18; exact Calls.quiet_of_same (HRS.out _ HW5.out)))
                  go_wp2_with fail
                  go_roundw
                  case rel => exact ⟨i + 1, by omega, by go_num, by obtain ⟨q, hq⟩ := HW6.out; exact ⟨q + nq, by rw [hq, World.drewN_drewN]⟩⟩
                  case measure => simp [intOf]; omega
                · obtain ⟨q', rfl⟩ : ∃ q', r = q' + 1 := ⟨r - 1, by omega⟩
                  obtain ⟨b3', o3', e3, hb3', hc3'⟩ := r3 q' (by omega)
                  simp only [Option.some.injEq, Addr.mk.injEq, and_true] at e3
                  obtain ⟨rfl, rfl⟩ := e3
                  have g3' : w3.cell? ⟨b3, o3 + q', none⟩ = some (.string (ss q')) := (hbel.cell (p := ⟨b3, o3 + q', none⟩) hb3').trans hc3'
                  have j0 : (0 : Int) ≤ q' := by omega
                  have j1 : (q' : Int) < l3 := by omega
                  have j2 : (i : Int) < q' := by omega
                  clear hc3'
                  by_cases heq : ss q' = ss i
                  · rw [heq] at g3'
                    have HE : Hid (ss q' = ss i) := heq
                    have HN : Hid (∀ j, q' < j → j < k → ss j ≠ ss i) := fun j h1 h2 => HNO.out j (by omega) h2
                    clear HNO heq hri
                    have hF : F 0 (ss i) = some (xs.getD q' 0) := by rw [hl.f0]; exact fAt_last ss xs (ss i) q' HE.out k (by omega) HN.out
                    have hsy := hl.sym q' (by omega)
                    have cr := hl.rets.cell (j := q') (by omega)
                    have cr' : w3.cell? ⟨R, q', none⟩ = some (.pointer (some ⟨xs.getD q' 0, 0, none⟩)) := cr
                    have HRS : Hid (∀ W : World, W.heap = w3.heap → Calls Eetg.prog 18 #[.pointer (some ⟨tb w.heap.size 0, 0, none⟩), .string (ss i), .bool false] W fun e w' => e = .returned (.tuple #[.pointer (some ⟨xs.getD q' 0, 0, none⟩), .int .i64 0, .bool true]) ∧ w' = W) :=
                      fun W hW => resolve_root W (hl.tabs.chain.keep (fun _ _ => by rw [hW])) (by omega) (F 0) ((hl.tabs.maps 0 (by omega)).keep (by rw [hW])) (ss i) _ hF (ss q') scB (ix q') (by unfold Sym; rw [hW]; exact hsy) (by decide +kernel)
                    generalize xs.getD q' 0 = pL at cr' HRS
                    have iL2 : (q' : Int) < k := by omega
                    clear hF hsy cr HE HN
                    go_wp2_with fail
                    go_quiet (fail)
                    go_wp2_with fail
                    generalize hw5 : (w3.drewN q4).drewN nq = w5
                    have HW5 : Hid (w5.heap = w3.heap) := by rw [← hw5]; rfl
                    have HW6 : Hid (∃ q, w5 = w3.drewN q) := by rw [← hw5, World.drewN_drewN]; exact ⟨_, rfl⟩
                    have v0 : w5.cell? ⟨w.heap.size, 0, none⟩ = some (.pointer (some ⟨tb w.heap.size 0, 0, none⟩)) := by rw [← hw5]; exact g0
                    have v3 : w5.cell? ⟨b3, o3 + i, none⟩ = some (.string (ss i)) := by rw [← hw5]; exact g3
                    have vr : w5.cell? ⟨R, q', none⟩ = some (.pointer (some ⟨pL, 0, none⟩)) := by rw [← hw5]; exact cr'
                    clear hw5
                    go_quiet ((go_at_call 18; exact Calls.quiet_of_same (HRS.out _ HW5.out)))
                    go_wp2_with fail
                    go_roundw
                    case rel => exact ⟨i + 1, by omega, by go_num, by obtain ⟨q, hq⟩ := HW6.out; exact ⟨q + _, by rw [hq, World.drewN_drewN]⟩⟩
                    case measure => simp [intOf]; omega
                  · have HN : Hid (∀ j, q' ≤ j → j < k → ss j ≠ ss i) := fun j h1 h2 => by
                      by_cases e : j = q'
                      · subst e; exact heq
                      · exact HNO.out j (by omega) h2
                    have x1 : ((ss q').toList == (ss i).toList) = false := toList_ne heq
                    clear HNO heq
                    go_wp2_with fail
                    go_quiet (fail)
                    go_wp2_with fail
                    go_roundw
                    case rel => exact ⟨q', by omega, by omega, rfl, rfl, HN.out, _, rfl⟩
                    case measure => simp [intOf]
            · have hb' : Below w.heap.size w (w3.drewN q3) := ⟨hbel.os, hbel.tape, hbel.output, hbel.size, hbel.block⟩
              go_wp2_with fail
              go_ret
              exact ⟨rfl, hb'⟩

end Go.Proofs.Yoeetw
