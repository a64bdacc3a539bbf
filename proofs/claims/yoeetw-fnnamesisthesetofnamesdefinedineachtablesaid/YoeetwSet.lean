import Derived.Test.YoeetwDedup
namespace Go.Proofs.Yoeetw
open Go.RowKit

/-! FnNamesIsTheSetOfNamesDefinedInEachTable. -/

/-- The table that takes definition j. -/
def tgt (bl : Nat → Bool) (lv : Nat → Nat) (l0 j : Nat) : Nat := if bl j = true then 0 else lv j % (l0 + 1)

/-- The row 'target' behind k definitions. -/
def tgV (tg : Nat → Nat) (k : Nat) : Nat → Value := fun j => .int .i64 (if j < k then ((tg j : Nat) : Int) else 0)

theorem tgV_step (tg : Nat → Nat) (k j : Nat) : setf (tgV tg k) k (.int .i64 ((tg k : Nat) : Int)) j = tgV tg (k + 1) j := by
  unfold setf tgV
  by_cases e : j = k
  · rw [if_pos e, if_pos (by omega), e]
  · rw [if_neg e]
    by_cases e' : j < k
    · rw [if_pos e', if_pos (by omega)]
    · rw [if_neg e', if_neg (by omega)]

theorem upd_dom (F : Nat → ByteArray → Option Nat) (t : Nat) (nm : ByteArray) (p : Nat) (u : Nat) (s : ByteArray) : (updF F t nm p u s).isSome ↔ (F u s).isSome ∨ (u = t ∧ s = nm) := by
  unfold updF
  by_cases e : u = t
  · rw [if_pos e, e]
    unfold fset
    by_cases e' : s = nm
    · rw [if_pos e']; simp [e']
    · rw [if_neg e']; simp [e']
  · rw [if_neg e]; simp [e]

/-- The state behind k definitions. -/
structure NT (w wr : World) (l0 m Rt : Nat) (tg : Nat → Nat) (ss : Nat → ByteArray) (k : Nat) (S : Nat → Tab) (F : Nat → ByteArray → Option Nat) (xs : List Nat) : Prop where
  tabs : Tabs wr w.heap.size (l0 + 1) (tb w.heap.size) S F xs
  xl : xs.length ≤ k
  small : Small S (l0 + 1) (k : Int)
  row : Row wr w.heap.size 31 (l0 + 1) (l0 + 1) (ptrs (tb w.heap.size))
  below : Below w.heap.size w wr
  trow : Row wr Rt 3 m m (tgV tg k)
  dom : ∀ t, t < l0 + 1 → ∀ s, (F t s).isSome ↔ ∃ j, j < k ∧ tg j = t ∧ ss j = s

section
variable {w wr w2 w3 : World} {l0 m Rt : Nat} {tg : Nat → Nat} {ss : Nat → ByteArray} {k : Nat} {S S2 : Nat → Tab} {F : Nat → ByteArray → Option Nat} {xs xs2 : List Nat}

theorem NT.next (h : NT w wr l0 m Rt tg ss k S F xs) (hR : w.heap.size < Rt) (hkm : k < m) {t p : Nat} (ht : t = tg k) (htabs : Tabs w2 w.heap.size (l0 + 1) (tb w.heap.size) S2 (updF F t (ss k) p) xs2) (hxl : xs2.length ≤ k + 1) (hsm : Small S2 (l0 + 1) ((k + 1 : Nat) : Int))
    (hfk : FK w.heap.size (wr.drewN 1) w2) (e3 : w3 = w2.setCell ⟨Rt, k, none⟩ (.int .i64 ((tg k : Nat) : Int))) : NT w w3 l0 m Rt tg ss (k + 1) S2 (updF F t (ss k) p) xs2 := by
  have hb0 : Below w.heap.size w (wr.drewN 1) := ⟨h.below.os, h.below.tape, h.below.output, h.below.size, h.below.block⟩
  have hb2 : Below w.heap.size w w2 := hb0.trans (FK.below hfk h.below.size)
  have tr2 : Row w2 Rt 3 m m (tgV tg k) := hfk.row (h.trow.keep rfl) (by decide) (by decide)
  have f3 : Frm (fun b => b = Rt) w2 w3 := by rw [e3]; exact (Frm.refl (fun b => b = Rt) w2).setCell rfl _
  obtain ⟨cur, hc, _⟩ := tr2.ex
  refine ⟨htabs.but f3 hc (by decide) (by decide), hxl, hsm, (hfk.row (h.row.keep rfl) (by decide) (by decide)).frm f3 (by omega), hb2.trans (f3.below hb2.size (fun _ x => by omega)), ?_, fun u hu s => ?_⟩
  · rw [e3]; exact (tr2.store hkm _).congr (fun j _ => tgV_step tg k j)
  · rw [upd_dom, h.dom u hu s]
    constructor
    · rintro (⟨j, hj, e1, e2⟩ | ⟨e1, e2⟩)
      · exact ⟨j, by omega, e1, e2⟩
      · exact ⟨k, by omega, by rw [← ht, e1], e2.symm⟩
    · rintro ⟨j, hj, e1, e2⟩
      by_cases e : j = k
      · right; subst e; exact ⟨by rw [ht, e1], e2.symm⟩
      · left; exact ⟨j, by omega, e1, e2⟩

theorem NT.builtin (h : NT w wr l0 m Rt tg ss k S F xs) (hR : w.heap.size < Rt) (hkm : k < m) {v : Value} (ht : tg k = 0) (htabs : Tabs w2 w.heap.size (l0 + 1) (tb w.heap.size) (put S 0 { S 0 with bs := v }) (updF F 0 (ss k) wr.heap.size) (xs ++ [wr.heap.size]))
    (hfk : FK w.heap.size (wr.drewN 1) w2) (e3 : w3 = w2.setCell ⟨Rt, k, none⟩ (.int .i64 ((tg k : Nat) : Int))) : NT w w3 l0 m Rt tg ss (k + 1) (put S 0 { S 0 with bs := v }) (updF F 0 (ss k) wr.heap.size) (xs ++ [wr.heap.size]) := by
  refine h.next hR hkm ht.symm htabs (by have := h.xl; simp; omega) (fun j hj => ?_) hfk e3
  have h1 := h.small j hj
  by_cases e : j = 0
  · subst e; rw [put_same]; exact ⟨h1.1, by show (S 0).num ≤ _; omega⟩
  · rw [put_other _ _ e]; exact ⟨h1.1, by omega⟩

theorem NT.defd (h : NT w wr l0 m Rt tg ss k S F xs) (hR : w.heap.size < Rt) (hkm : k < m) {t : Nat} (ht : t = tg k) (hd : Defd (wr.drewN 1) w.heap.size (l0 + 1) (tb w.heap.size) S F xs (ss k) t w2)
    (e3 : w3 = w2.setCell ⟨Rt, k, none⟩ (.int .i64 ((tg k : Nat) : Int))) : NT w w3 l0 m Rt tg ss (k + 1) (defS S t) (updF F t (ss k) wr.heap.size) xs := by
  obtain ⟨h1, h2, h3⟩ := hd
  refine h.next hR hkm ht h2 (by have := h.xl; omega) ?_ h3 e3
  have := defS_small h.small t
  rw [Int.natCast_add]; exact this

theorem NT.grow (h : NT w wr l0 m Rt tg ss k S F xs) (hf : Frm (fun _ => False) wr w2) : NT w w2 l0 m Rt tg ss k S F xs :=
  ⟨h.tabs.grow hf, h.xl, h.small, h.row.frm hf (fun x => x), h.below.trans (hf.below h.below.size (fun _ x => x.elim)), h.trow.frm hf (fun x => x), h.dom⟩

end

/-- o's first p are the names of table t among the first i. -/
def Want (tg : Nat → Nat) (ss o : Nat → ByteArray) (t i p : Nat) : Prop := p ≤ i ∧ ∀ s, (∃ x, x < p ∧ o x = s) ↔ ∃ x, x < i ∧ tg x = t ∧ ss x = s

theorem Want.start (tg : Nat → Nat) (ss o : Nat → ByteArray) (t : Nat) : Want tg ss o t 0 0 :=
  ⟨Nat.le_refl _, fun s => ⟨fun ⟨x, h, _⟩ => by omega, fun ⟨x, h, _⟩ => by omega⟩⟩

theorem Want.skip {tg : Nat → Nat} {ss o : Nat → ByteArray} {t i p : Nat} (h : Want tg ss o t i p) (hi : tg i ≠ t) : Want tg ss o t (i + 1) p := by
  refine ⟨by have := h.1; omega, fun s => ?_⟩
  rw [h.2 s]
  constructor
  · rintro ⟨x, hx, e⟩; exact ⟨x, by omega, e⟩
  · rintro ⟨x, hx, e⟩
    refine ⟨x, ?_, e⟩
    have : x ≠ i := fun ex => hi (by rw [← ex]; exact e.1)
    omega

theorem Want.take {tg : Nat → Nat} {ss o : Nat → ByteArray} {t i p : Nat} (h : Want tg ss o t i p) (hi : tg i = t) : Want tg ss (seth o p (ss i)) t (i + 1) (p + 1) := by
  have e1 : ∀ q, q ≠ p → seth o p (ss i) q = o q := fun q hq => by unfold seth; rw [if_neg hq]
  have e2 : seth o p (ss i) p = ss i := by unfold seth; rw [if_pos rfl]
  refine ⟨by have := h.1; omega, fun s => ?_⟩
  constructor
  · rintro ⟨x, hx, e⟩
    by_cases ex : x = p
    · rw [ex, e2] at e; exact ⟨i, by omega, hi, e⟩
    · rw [e1 x ex] at e
      obtain ⟨y, hy, e'⟩ := (h.2 s).1 ⟨x, by omega, e⟩
      exact ⟨y, by omega, e'⟩
  · rintro ⟨x, hx, e⟩
    by_cases ex : x = i
    · exact ⟨p, by omega, by rw [e2, ← ex]; exact e.2⟩
    · obtain ⟨y, hy, e'⟩ := (h.2 s).2 ⟨x, by omega, e⟩
      exact ⟨y, by omega, by rw [e1 y (by omega)]; exact e'⟩

set_option maxRecDepth 100000 in
theorem set_long (a0 a1 a2 a3 : Option Addr) (l0 c0 l1 c1 l2 c2 l3 c3 : Nat) (ss : Nat → ByteArray) (w : World) (h0 : l0 ≤ maxLen) (h1 : l1 ≤ maxLen) (h2 : l2 ≤ maxLen) (h3 : l3 ≤ maxLen)
    (hs : ∀ i, (ss i).size ≤ maxLen) (hr : Reads w w.heap.size a3 l3 (fun i => .string (ss i))) (h : 4096 < l0 ∨ 4096 < l1 ∨ 4096 < l2 ∨ 4096 < l3) :
    Calls Eetg.prog 5 #[.slice a0 l0 c0, .slice a1 l1 c1, .slice a2 l2 c2, .slice a3 l3 c3] w fun e w' => e = .returned (.bool true) ∧ Below w.heap.size w w' := by
  have HB := bytes19_any a0 a1 a2 a3 l0 c0 l1 c1 l2 c2 l3 c3 ss w h0 h1 h2 h3 hs hr
  unfold maxLen at h0 h1 h2 h3
  go_enter Eetg.func5, Eetg.ntmps5
  go_wp2_with fail
  refine HB.mono ?_
  rintro e w' ⟨⟨b, rfl, _⟩, rfl⟩
  clear HB hs hr
  by_cases g0 : (4096 : Int) < l0
  · cases b
    all_goals (go_wp2_with fail; go_ret; exact ⟨rfl, Below.refl _ _⟩)
  · by_cases g1 : (4096 : Int) < l1
    · cases b
      all_goals (go_wp2_with fail; go_ret; exact ⟨rfl, Below.refl _ _⟩)
    · by_cases g2 : (4096 : Int) < l2
      · cases b
        all_goals (go_wp2_with fail; go_ret; exact ⟨rfl, Below.refl _ _⟩)
      · have g3 : (4096 : Int) < l3 := by omega
        cases b
        all_goals (go_wp2_with fail; go_ret; exact ⟨rfl, Below.refl _ _⟩)

set_option maxRecDepth 100000 in
set_option maxHeartbeats 4000000 in
theorem set_any (a0 a1 a2 a3 : Option Addr) (l0 c0 l1 c1 l2 c2 l3 c3 : Nat) (ks : Nat → Bool) (lv : Nat → Nat) (bl : Nat → Bool) (ss : Nat → ByteArray) (w : World) (h0 : l0 ≤ 4096) (h1 : l1 ≤ 4096) (h2 : l2 ≤ 4096) (h3 : l3 ≤ 4096)
    (hs : ∀ i, (ss i).size ≤ maxLen) (hlv : ∀ i, lv i < 65536)
    (r0 : Reads w w.heap.size a0 l0 (fun i => .bool (ks i))) (r1 : Reads w w.heap.size a1 l1 (fun i => .int .u16 (lv i))) (r2 : Reads w w.heap.size a2 l2 (fun i => .bool (bl i))) (r3 : Reads w w.heap.size a3 l3 (fun i => .string (ss i))) :
    Calls Eetg.prog 5 #[.slice a0 l0 c0, .slice a1 l1 c1, .slice a2 l2 c2, .slice a3 l3 c3] w fun e w' => e = .returned (.bool true) ∧ Below w.heap.size w w' := by
  have HB := bytes19_any a0 a1 a2 a3 l0 c0 l1 c1 l2 c2 l3 c3 ss w (by unfold maxLen; omega) (by unfold maxLen; omega) (by unfold maxLen; omega) (by unfold maxLen; omega) hs r3
  have d0 : decide ((4096 : Int) < l0) = false := by simp; omega
  have d1 : decide ((4096 : Int) < l1) = false := by simp; omega
  have d2 : decide ((4096 : Int) < l2) = false := by simp; omega
  have d3 : decide ((4096 : Int) < l3) = false := by simp; omega
  obtain ⟨i9, hi9, hz9, hs9, hb9⟩ := info_parts info9
  obtain ⟨i3, hi3, hz3, hs3, hb3⟩ := info_parts info3'
  go_enter Eetg.func5, Eetg.ntmps5
  go_wp2_with fail
  refine HB.mono ?_
  rintro e w ⟨⟨b, rfl, hbt⟩, rfl⟩
  clear HB hs
  cases b
  · go_wp2_with fail
    go_ret
    exact ⟨rfl, Below.refl _ _⟩
  replace hbt := hbt rfl
  go_wp2_with fail
  refine (sbytes_any a3 l3 c3 ss w h3 hbt r3).mono ?_
  rintro e w ⟨⟨z, rfl, hz⟩, rfl⟩
  clear hbt
  by_cases hsum : (1048576 : Int) < (l0 : Int) + 2 * l1 + l2 + z
  · go_wp2_with fail
    go_ret
    exact ⟨rfl, Below.refl _ _⟩
  have d4 : decide ((1048576 : Int) < (l0 : Int) + 2 * l1 + l2 + z) = false := by simp; omega
  clear hsum
  go_wp2_with fail
  refine (chain_any a0 l0 c0 ks w h0 r0).mono ?_
  rintro e w1 ⟨rfl, hl⟩
  go_wp2_with fail
  refine (min3_nat _ _ _ _).mono ?_
  rintro e w1 ⟨⟨m, rfl, hm⟩, rfl⟩
  have hm1 : m ≤ l1 := by omega
  have hm2 : m ≤ l2 := by omega
  have hm3 : m ≤ l3 := by omega
  clear hm r0
  have hR : w.heap.size < w1.heap.size := by rw [hl.size]; omega
  go_wp2_with (first
    | (at_make; refine wpList_make1 (w := w1) rfl _ _ 24 rfl 3 i3 _ 8 Eetg.underlying24 hi3 hz3 hs3 hb3 rfl .i64 .i64 _ _ m m rfl rfl rfl rfl (by omega) (by omega) (by unfold maxLen; omega) ?_; intro w2 rr fr sr))
  obtain ⟨tg, HTG⟩ : ∃ tg, Hid (tg = tgt bl lv l0) := ⟨_, rfl⟩
  have q0 : NT w w2 l0 m w1.heap.size tg ss 0 (initS ks w.heap.size) (fun _ _ => none) [] :=
    ⟨(tabs_start hl).grow fr, Nat.le_refl _, fun j hj => by simp [initS, newTab], hl.row.frm fr (fun x => x), (hl.frm.below (Nat.le_refl _) (fun _ h => h.elim)).trans (fr.below (Nat.le_of_lt hR) (fun _ h => h.elim)),
      rr.congr (fun j _ => rfl), fun t _ s => ⟨fun h => by simp at h, fun ⟨j, hj, _⟩ => by omega⟩⟩
  clear hl rr fr sr
  obtain ⟨R, HR⟩ : ∃ R, Hid (R = w1.heap.size) := ⟨_, rfl⟩
  rw [← HR.out] at q0 hR ⊢
  clear HR
  go_loopw [12] (fun i wr => ∃ (k : Nat) (S : Nat → Tab) (F : Nat → ByteArray → Option Nat) (xs : List Nat), k ≤ m ∧ i = .int .i64 k ∧ NT w wr l0 m R tg ss k S F xs) (fun i _ => m - (intOf i).toNat)
  case atStart => exact ⟨0, _, _, _, Nat.zero_le _, rfl, q0⟩
  case round =>
    obtain ⟨k, S, F, xs, hk, rfl, hl⟩ := hrel
    clear q0
    by_cases hlt : k < m
    · obtain ⟨b1, o1, rfl, hb1, hc1⟩ := r1 k (by omega)
      obtain ⟨b2, o2, rfl, hb2, hc2⟩ := r2 k (by omega)
      obtain ⟨b3, o3, rfl, hb3, hc3⟩ := r3 k (by omega)
      have g1 : wr.cell? ⟨b1, o1 + k, none⟩ = some (.int .u16 ((lv k : Nat) : Int)) := (hl.below.cell (p := ⟨b1, o1 + k, none⟩) hb1).trans hc1
      have g2 : wr.cell? ⟨b2, o2 + k, none⟩ = some (.bool (bl k)) := (hl.below.cell (p := ⟨b2, o2 + k, none⟩) hb2).trans hc2
      have g3 : wr.cell? ⟨b3, o3 + k, none⟩ = some (.string (ss k)) := (hl.below.cell (p := ⟨b3, o3 + k, none⟩) hb3).trans hc3
      obtain ⟨t, htl, hrem, HTV⟩ : ∃ t : Nat, t < l0 + 1 ∧ (((lv k : Nat) : Int)).tmod ((l0 : Int) + 1) = (t : Int) ∧ Hid (t = lv k % (l0 + 1)) :=
        ⟨lv k % (l0 + 1), Nat.mod_lt _ (by omega), by rw [Int.tmod_eq_emod_of_nonneg (by omega)]; rfl, rfl⟩
      have g4 := hl.row.cell htl
      have hlk := hlv k
      have i0 : (0 : Int) ≤ k := by omega
      have i1 : (k : Int) < l1 := by omega
      have i2 : (k : Int) < l2 := by omega
      have i5 : (k : Int) < l3 := by omega
      have i6 : (k : Int) < m := by omega
      have i3' : (0 : Int) ≤ t := by omega
      have i4 : (t : Int) < (l0 : Int) + 1 := by omega
      have hcs : w.heap.size ≤ wr.heap.size := hl.below.size
      have hxl : xs.length ≤ 5000 := by have := hl.xl; omega
      clear r1 r2 r3 hc1 hc2 hc3
      cases hbk : bl k
      · rw [hbk] at g2
        have HTK : Hid (t = tg k) := by rw [HTG.out]; unfold tgt; rw [hbk, if_neg (by decide)]; exact HTV.out
        clear hbk HTV
        have hsm : Small S (l0 + 1) 100000 := hl.small.mono (Nat.le_refl _) (by omega)
        go_wp2_with fail
        go_region_held3 (fun w' => w'.cell? ⟨w.heap.size, t, none⟩ = some (ptrs (tb w.heap.size) t) ∧ w'.cell? ⟨b3, o3 + k, none⟩ = some (.string (ss k)))
          (first
            | (go_keep; done)
            | exact ⟨(hd.2.2.row (hl.row.keep (w' := wr.drewN 1) rfl) (by decide) (by decide)).cell htl, fk_keep hd.2.2 hcs g3 hb3⟩)
          (first
            | (go_at_call 20; refine (define_any (ss k) _ (hl.tabs.drewN 1) t htl (by omega) hsm).mono ?_; rintro e w2 ⟨rfl, hd⟩))
        rename_i hS
        have cr := (hd.2.2.row (hl.trow.keep (w' := wr.drewN 1) rfl) (by decide) (by decide)).cell hlt
        have cf := (hd.2.2.row (hl.trow.keep (w' := wr.drewN 1) rfl) (by decide) (by decide)).frozen k
        go_wp2_with (first
          | (refine wpList_store1 rfl _ _ 3 rfl i3 hi3 hs3 ⟨R, k, none⟩ (.int .i64 (t : Int)) _ rfl rfl rfl rfl cr cf ?_
             intro w5 e5
             have h5 := hl.defd hR hlt HTK.out hd (w3 := w5) (by rw [← HTK.out]; exact e5.out)
             clear e5 cr cf))
        clear hl hd hS g1 g2 g3 g4 hrem hxl HTK hsm
        go_roundw
        case rel => exact ⟨k + 1, _, _, _, by omega, by go_num, h5⟩
        case measure => simp [intOf]; omega
      · rw [hbk] at g2
        have HTK : Hid (tg k = 0) := by rw [HTG.out]; unfold tgt; rw [hbk, if_pos rfl]; exact rfl
        clear hbk HTV
        go_wp2_with fail
        go_region_held3 (fun w' => w'.cell? ⟨w.heap.size, t, none⟩ = some (ptrs (tb w.heap.size) t) ∧ w'.cell? ⟨b3, o3 + k, none⟩ = some (.string (ss k)))
          (first
            | (go_keep; done)
            | exact ⟨(hfk.row (hl.row.keep (w' := wr.drewN 1) rfl) (by decide) (by decide)).cell htl, fk_keep hfk hcs g3 hb3⟩)
          (first
            | (go_at_call 15; refine (defB_any (k : Int) (ss k) _ (hl.tabs.drewN 1) hxl hcs t htl).mono ?_; rintro e w2 ⟨v, rfl, hsy2, ht2, hfk⟩))
        rename_i hS
        have cr := (hfk.row (hl.trow.keep (w' := wr.drewN 1) rfl) (by decide) (by decide)).cell hlt
        have cf := (hfk.row (hl.trow.keep (w' := wr.drewN 1) rfl) (by decide) (by decide)).frozen k
        go_wp2_with (first
          | (refine wpList_store1 rfl _ _ 3 rfl i3 hi3 hs3 ⟨R, k, none⟩ (.int .i64 0) _ rfl rfl rfl rfl cr cf ?_
             intro w5 e5
             have h5 := hl.builtin hR hlt HTK.out ht2 hfk (w3 := w5) (by rw [HTK.out]; exact e5.out)
             clear e5 cr cf))
        clear hl hsy2 ht2 hfk hS g1 g2 g3 g4 hrem hxl HTK
        go_roundw
        case rel => exact ⟨k + 1, _, _, _, by omega, by go_num, h5⟩
        case measure => simp [intOf]; omega
    · obtain rfl : k = m := by omega
      obtain ⟨w3, rfl⟩ : ∃ x, x = wr := ⟨wr, rfl⟩
      clear hlt hk r1 r2 HTG
      go_wp2_with fail
      go_loopw [14] (fun i wr => ∃ j : Nat, j ≤ l0 + 1 ∧ i = .int .i64 j ∧ NT w wr l0 k R tg ss k S F xs) (fun i _ => l0 + 1 - (intOf i).toNat)
      case atStart => exact ⟨0, by omega, rfl, hl⟩
      case round =>
        obtain ⟨j, hj, rfl, hn⟩ := hrel
        clear hl
        by_cases hjl : j < l0 + 1
        · obtain ⟨w4, rfl⟩ : ∃ x, x = wr := ⟨wr, rfl⟩
          have i4 : (j : Int) < (l0 : Int) + 1 := by omega
          have i3' : (0 : Int) ≤ j := by omega
          go_wp2_with (first
            | (at_make; go_must (refine wpList_make1 rfl _ _ 25 rfl 9 i9 _ 16 Eetg.underlying25 hi9 hz9 hs9 hb9 rfl .i64 .i64 _ _ 0 k rfl rfl rfl rfl (by omega) (by omega) (by unfold maxLen; omega) ?_; intro w5 rr fr sr)))
          have rr0 : Row w5 w4.heap.size 9 0 k (strs ss) := (rr.less (Nat.zero_le _)).congr (fun x hx => by omega)
          clear rr sr
          obtain ⟨Rw, HRw⟩ : ∃ Rw, Hid (Rw = w4.heap.size) := ⟨_, rfl⟩
          rw [← HRw.out] at rr0 ⊢
          go_loopw [15, 16] (fun v i wr => ∃ (x p : Nat) (o : Nat → ByteArray), x ≤ k ∧ i = .int .i64 x ∧ v = .slice (some ⟨Rw, 0, none⟩) p k ∧ Row wr Rw 9 p k (strs o) ∧ Want tg ss o j x p ∧ Frm (fun _ => False) w4 wr) (fun _ i _ => k - (intOf i).toNat)
          case atStart => exact ⟨0, 0, ss, Nat.zero_le _, rfl, rfl, rr0, Want.start tg ss ss j, fr⟩
          case round =>
            obtain ⟨x, p, o, hx, rfl, rfl, ro, hw, fo⟩ := hrel
            clear rr0 fr
            by_cases hxk : x < k
            · have gt := (hn.trow.frm fo (fun x => x)).cell hxk
              have gt' : wr.cell? ⟨R, x, none⟩ = some (.int .i64 ((tg x : Nat) : Int)) := by rw [gt]; unfold tgV; rw [if_pos hxk]
              obtain ⟨b3, o3, rfl, hb3, hc3⟩ := r3 x (by omega)
              have g3 : wr.cell? ⟨b3, o3 + x, none⟩ = some (.string (ss x)) := fo.cell ((hn.below.cell (p := ⟨b3, o3 + x, none⟩) hb3).trans hc3) (fun x => x)
              have i0 : (0 : Int) ≤ x := by omega
              have i1 : (x : Int) < k := by omega
              have i5 : (x : Int) < l3 := by omega
              have hpx := hw.1
              clear gt hc3
              by_cases htx : tg x = j
              · have hw2 := hw.take htx
                rw [htx] at gt'
                clear hw htx
                go_wp2_with (first
                  | (at_builtin
                     refine wpList_append1 rfl _ _ 25 rfl 9 i9 Eetg.underlying25 hi9 hs9 Rw p k _ (strs o) (.string (ss x)) rfl rfl (by exact (ro.keep (Below.heap_alloc _ _ _ ro.lt))) (by exact cell_new (by simp)) rfl (by omega) ?_
                     intro w6 r6 f6 s6
                     clear s6))
                go_roundw
                case rel => exact ⟨x + 1, p + 1, _, by omega, by go_num, rfl, r6.congr (fun y _ => strs_seth o _ _ y), hw2, (fo.alloc _).fresh (by rw [HRw.out]; exact Nat.le_refl _) f6⟩
                case measure => simp [intOf]; omega
              · have hw2 := hw.skip htx
                have x1 : (((tg x : Nat) : Int) == (j : Int)) = false := by rw [beq_eq_false_iff_ne]; omega
                clear hw htx
                go_wp2_with fail
                go_roundw
                case rel => exact ⟨x + 1, p, o, by omega, by go_num, rfl, ro, hw2, fo⟩
                case measure => simp [intOf]; omega
            · obtain rfl : x = k := by omega
              obtain ⟨w6, rfl⟩ : ∃ x, x = wr := ⟨wr, rfl⟩
              have hpx := hw.1
              have HW : Hid (Want tg ss o j x p) := hw
              clear hw hxk
              go_wp2_with fail
              refine (sort_any Rw p x o w6 (by omega) ro).mono ?_
              rintro e w7 ⟨rfl, o1, r7, hso1, hp1, f7, _⟩
              have hn7 := hn.grow (fo.fresh (by rw [HRw.out]; exact Nat.le_refl _) f7)
              clear ro fo f7 hn HRw
              go_wp2_with fail
              refine (dedup_any Rw p x o1 w7 (by omega) r7 hso1).mono ?_
              rintro e w8 ⟨p2, o2, rfl, r8, hd8, f8⟩
              have HMW : Hid (∀ s, (∃ y, y < p2 ∧ o2 y = s) ↔ ∃ y, y < x ∧ tg y = j ∧ ss y = s) := fun s => ((hd8.mem s).trans (hp1.mem s)).trans (HW.out.2 s)
              have HOW : Hid (∀ y z, y < z → z < p2 → slt (o2 y) (o2 z)) := hd8.ord
              have hp2 := hd8.le
              have hn8 := hn7.grow f8
              clear hn7 f8 hd8 hp1 hso1 r7 HW
              obtain ⟨Rd, HRd⟩ : ∃ Rd, Hid (Rd = w7.heap.size) := ⟨_, rfl⟩
              rw [← HRd.out] at r8 ⊢
              clear HRd
              have g4 : w8.cell? ⟨w.heap.size, j, none⟩ = some (.pointer (some ⟨tb w.heap.size j, 0, none⟩)) := hn8.row.cell hjl
              have c2 := (hn8.tabs.chain.cells hjl).2.2.1
              have hD : ∀ s, (F j s).isSome → s ∈ namesOf ss x := fun s hs => by
                obtain ⟨y, hy, _, e⟩ := (hn8.dom j hjl s).1 hs
                exact (namesOf_mem ss x s).2 ⟨y, hy, e⟩
              have HNA : Hid (Calls Eetg.prog 23 #[.pointer (some ⟨tb w.heap.size j, 0, none⟩)] w8 fun e w' => ∃ (v : Value) (L : List ByteArray), e = .returned v ∧ w'.ownsRow w8.heap.size 9 1 v L.length (L.map .string) ∧ L.Nodup ∧ (∀ s, s ∈ L ↔ (F j s).isSome) ∧ Frm (fun _ => False) w8 w') :=
                names_any w8 (tb w.heap.size j) _ (F j) (namesOf ss x) c2 (hn8.tabs.maps j hjl) hD (by rw [namesOf_len]; omega)
              have HD : Hid (∀ s, (F j s).isSome → s ∈ namesOf ss x) := hD
              clear hD c2
              go_wp2_with fail
              refine HNA.out.mono ?_
              rintro e w9 ⟨v, L, rfl, hown, hnd, hmem, hf9⟩
              clear HNA
              obtain ⟨a, cap, rfl, hcell⟩ := owns_form hown
              have hLn : L.length ≤ 4096 := by
                refine Nat.le_trans (len_le_sub L (namesOf ss x) hnd fun s hs => HD.out s ((hmem s).1 hs)) ?_
                rw [namesOf_len]; omega
              have HML : Hid (∀ s, (∃ y, y < L.length ∧ nth L y = s) ↔ ∃ y, y < x ∧ tg y = j ∧ ss y = s) := fun s => ((nth_mem L s).trans (hmem s)).trans (hn8.dom j hjl s)
              have HINJ : Hid (∀ y z, y < L.length → z < L.length → nth L y = nth L z → y = z) := nth_inj hnd
              have hn9 := hn8.grow hf9
              have r9 := r8.frm hf9 (fun x => x)
              clear hown hmem hnd hn8 hf9 r8 HD g4
              generalize hln : L.length = n at *
              have HC : Hid (∀ y, y < n → ∃ g, a = some ⟨g, 0, none⟩ ∧ g < w9.heap.size ∧ w9.cell? ⟨g, y, none⟩ = some (.string (nth L y))) := hcell
              clear hcell hln
              generalize hal : nth L = al at *
              clear hal
              go_wp2_with (first
                | (at_make; go_must (refine wpList_make1 rfl _ _ 25 rfl 9 i9 _ 16 Eetg.underlying25 hi9 hz9 hs9 hb9 rfl .i64 .i64 _ _ n n rfl rfl rfl rfl (by omega) (by omega) (by unfold maxLen; omega) ?_; intro w10 rr fr sr)))
              have rr0 : Row w10 w9.heap.size 9 n n (strs (copyf al 0)) := rr.congr (fun j _ => rfl)
              have fr0 : Frm (fun _ => False) w9 w10 := fr
              clear rr fr sr
              obtain ⟨Rm, HRm⟩ : ∃ Rm, Hid (Rm = w9.heap.size) := ⟨_, rfl⟩
              rw [← HRm.out] at rr0 ⊢
              go_loopw [19] (fun i wr => ∃ y : Nat, y ≤ n ∧ i = .int .i64 y ∧ Row wr Rm 9 n n (strs (copyf al y)) ∧ Frm (fun _ => False) w9 wr) (fun i _ => n - (intOf i).toNat)
              case atStart => exact ⟨0, by omega, rfl, rr0, fr0⟩
              case round =>
                obtain ⟨y, hy, rfl, rj, fj⟩ := hrel
                clear rr0 fr0
                by_cases hyn : y < n
                · obtain ⟨g, rfl, hg, hgc⟩ := HC.out y hyn
                  have gc := fj.cell hgc (fun x => x)
                  have cr := rj.cell hyn
                  have cf := rj.frozen y
                  have i0 : (0 : Int) ≤ y := by omega
                  have i1 : (y : Int) < n := by omega
                  clear hgc
                  go_wp2_with (first
                    | (refine wpList_store1 rfl _ _ 9 rfl i9 hi9 hs9 ⟨Rm, y, none⟩ (.string (al y)) _ rfl rfl rfl rfl cr cf ?_
                       intro w11 e11
                       have F11 := strs_set rj hyn e11.out
                       clear e11 cr cf))
                  obtain ⟨q1, q2, q3⟩ := F11
                  go_roundw
                  case rel => exact ⟨y + 1, by omega, by go_num, q1.congr (fun x _ => by unfold strs; rw [copyf_step]), fj.fresh (by rw [HRm.out]; exact Nat.le_refl _) q2⟩
                  case measure => simp [intOf]; omega
                · obtain rfl : y = n := by omega
                  obtain ⟨w11, rfl⟩ : ∃ x, x = wr := ⟨wr, rfl⟩
                  have rj2 : Row w11 Rm 9 y y (strs al) := rj.congr (fun x hx => by unfold strs copyf; rw [if_pos hx])
                  clear rj HC
                  go_wp2_with fail
                  refine (sort_any Rm y y al w11 (by omega) rj2).mono ?_
                  rintro e w12 ⟨rfl, a', r12, hso, hperm, f12, _⟩
                  have f9 := fj.fresh (by rw [HRm.out]; exact Nat.le_refl _) f12
                  have hn12 := hn9.grow f9
                  have rd12 := r9.frm f9 (fun x => x)
                  obtain ⟨hpn, heq⟩ := same_rows HOW.out (strict_of hso (hperm.inj HINJ.out)) (fun s => ((HMW.out s).trans (HML.out s).symm).trans (hperm.mem s).symm)
                  have rd : Row w12 Rd 9 p2 p (strs a') := rd12.congr (fun x hx => by unfold strs; rw [heq x hx])
                  clear rj2 hperm f12 fj hn9 HINJ HML HMW HOW HRm hso f9 r9 rd12 heq
                  subst hpn
                  go_wp2_with fail
                  refine (equal_any Rd Rm p2 p p2 a' w12 (by omega) rd r12).mono ?_
                  rintro e w13 ⟨rfl, q, rfl⟩
                  have hn13 := hn12.grow ((Frm.refl _ w12).drewN q)
                  clear hn12 rd r12
                  go_wp2_with fail
                  go_roundw
                  case rel => exact ⟨j + 1, by omega, by go_num, hn13⟩
                  case measure => simp [intOf]; omega
        · have hbel := hn.below
          go_wp2_with fail
          go_ret
          exact ⟨rfl, hbel⟩
end Go.Proofs.Yoeetw
