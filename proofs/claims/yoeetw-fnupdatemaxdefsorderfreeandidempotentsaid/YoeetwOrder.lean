import Derived.Test.YoeetwRaises
import Derived.Test.YoeetwPlainOrd
namespace Go.Proofs.Yoeetw
open Go.RowKit

set_option maxRecDepth 100000 in
/-- Too long an argument: true at once. -/
theorem order_long (a0 a1 a2 : Option Addr) (l0 c0 l1 c1 l2 c2 : Nat) (w : World) (h0 : l0 ≤ maxLen) (h1 : l1 ≤ maxLen) (h2 : l2 ≤ maxLen) (h : 4096 < l0 ∨ 4096 < l1 ∨ 4096 < l2) :
    Calls Eetg.prog 10 #[.slice a0 l0 c0, .slice a1 l1 c1, .slice a2 l2 c2] w fun e w' => e = .returned (.bool true) ∧ Below w.heap.size w w' := by
  have HB := bytes37_any a0 a1 a2 l0 c0 l1 c1 l2 c2 w h0 h1 h2
  unfold maxLen at h0 h1 h2
  go_enter Eetg.func10, Eetg.ntmps10
  go_wp2_with fail
  refine HB.mono ?_
  rintro e w' ⟨b, rfl, rfl⟩
  clear HB
  by_cases g0 : (4096 : Int) < l0
  · cases b
    all_goals (go_wp2_with fail; go_ret; exact ⟨rfl, Below.refl _ _⟩)
  · by_cases g1 : (4096 : Int) < l1
    · cases b
      all_goals (go_wp2_with fail; go_ret; exact ⟨rfl, Below.refl _ _⟩)
    · have g2 : (4096 : Int) < l2 := by omega
      cases b
      all_goals (go_wp2_with fail; go_ret; exact ⟨rfl, Below.refl _ _⟩)

/-- Two chains of l0 + 1 tables each, one behind the other in memory: their slices lie in blocks A and B. -/
structure Two (w wr : World) (A B l0 : Nat) (SA SB : Nat → Tab) : Prop where
  ra : Row wr A 31 (l0 + 1) (l0 + 1) (ptrs (tb A))
  ca : Chain wr (l0 + 1) (tb A) SA
  rb : Row wr B 31 (l0 + 1) (l0 + 1) (ptrs (tb B))
  cb : Chain wr (l0 + 1) (tb B) SB
  below : Below w.heap.size w wr
  hA : w.heap.size ≤ A
  hAB : A + 4 + 3 * l0 ≤ B

section
variable {w wr w2 : World} {A B l0 : Nat} {SA SB SA' SB' : Nat → Tab}

theorem Two.updA (h : Two w wr A B l0 SA SB) (hch : Chain w2 (l0 + 1) (tb A) SA') (hfr : Frm (inChain (l0 + 1) (tb A)) wr.drew w2) : Two w w2 A B l0 SA' SB := by
  have e := h.hAB
  have ea := h.hA
  refine ⟨h.ra.keep (hfr.block _ h.ra.lt ?_), hch, h.rb.keep (hfr.block _ h.rb.lt ?_), h.cb.keep (fun j hj => hfr.block _ (h.cb.lt hj) ?_), h.below.drew.trans (hfr.below (B := w.heap.size) (by exact h.below.size) ?_), ea, e⟩
  · rintro ⟨j, _, e⟩; simp only [tb] at e; omega
  · rintro ⟨j, _, e⟩; simp only [tb] at e; omega
  · rintro ⟨i, _, e⟩; simp only [tb] at e; omega
  · rintro k ⟨j, _, rfl⟩; simp only [tb]; omega

theorem Two.updB (h : Two w wr A B l0 SA SB) (hch : Chain w2 (l0 + 1) (tb B) SB') (hfr : Frm (inChain (l0 + 1) (tb B)) wr.drew w2) : Two w w2 A B l0 SA SB' := by
  have e := h.hAB
  have ea := h.hA
  refine ⟨h.ra.keep (hfr.block _ h.ra.lt ?_), h.ca.keep (fun j hj => hfr.block _ (h.ca.lt hj) ?_), h.rb.keep (hfr.block _ h.rb.lt ?_), hch, h.below.drew.trans (hfr.below (B := w.heap.size) (by exact h.below.size) ?_), ea, e⟩
  · rintro ⟨j, _, e⟩; simp only [tb] at e; omega
  · rintro ⟨i, _, e⟩; simp only [tb] at e; omega
  · rintro ⟨j, _, e⟩; simp only [tb] at e; omega
  · rintro k ⟨j, _, rfl⟩; simp only [tb]; omega

theorem Two.frm {L : Nat} (h : Two w wr A B l0 SA SB) (hf : Frm (fun b => b = L) wr w2) (hL : wr.heap.size ≤ L) : Two w w2 A B l0 SA SB :=
  ⟨h.ra.frm hf (by have := h.ra.lt; omega), h.ca.keep (fun j hj => hf.block _ (h.ca.lt hj) (by have := h.ca.lt hj; omega)),
    h.rb.frm hf (by have := h.rb.lt; omega), h.cb.keep (fun j hj => hf.block _ (h.cb.lt hj) (by have := h.cb.lt hj; omega)),
    h.below.trans (hf.below h.below.size (by have := h.below.size; omega)), h.hA, h.hAB⟩

theorem Two.drewN (h : Two w wr A B l0 SA SB) (q : Nat) : Two w (wr.drewN q) A B l0 SA SB :=
  ⟨h.ra.keep rfl, h.ca.drewN q, h.rb.keep rfl, h.cb.drewN q, ⟨h.below.os, h.below.tape, h.below.output, h.below.size, h.below.block⟩, h.hA, h.hAB⟩

end

theorem two_start {w w1 w2 : World} {ks : Nat → Bool} {l0 : Nat} (h1 : Laid w w1 ks (l0 + 1) l0) (h2 : Laid w1 w2 ks (l0 + 1) l0) :
    Two w w2 w.heap.size w1.heap.size l0 (initS ks w.heap.size) (initS ks w1.heap.size) :=
  ⟨h1.row.frm h2.frm (fun x => x), h1.chain.keep (fun j hj => h2.frm.block _ (h1.chain.lt hj) (fun x => x)), h2.row, h2.chain,
    (h1.frm.below (Nat.le_refl _) (fun _ h => h.elim)).trans (h2.frm.below (by rw [h1.size]; omega) (fun _ h => h.elim)), Nat.le_refl _, by rw [h1.size]; omega⟩

theorem stDn_step (S : Nat → Tab) (n : Nat) (lv : Nat → Nat) (vs : Nat → Int) (m q t : Nat) (hq : q < m) (ht : lv q % n = t) :
    stDn S n lv vs m (m - q) = raise (vs q) t (stDn S n lv vs m (m - (q + 1))) := by
  have e : m - q = (m - (q + 1)) + 1 := by omega
  have e2 : m - 1 - (m - (q + 1)) = q := by omega
  rw [e, stDn, e2, ht]

/-- What the slice 'snap' holds when the first q places are written. -/
def snapV (M : Nat → Int) (q j : Nat) : Value := .int .i64 (if j < q then M j else 0)

theorem snapV_step (M : Nat → Int) (q : Nat) (j : Nat) : setf (snapV M q) q (.int .i64 (M q)) j = snapV M (q + 1) j := by
  unfold setf snapV
  split
  · subst_vars; rw [if_pos (by omega)]
  · congr 1
    by_cases h : j < q
    · rw [if_pos h, if_pos (by omega)]
    · rw [if_neg h, if_neg (by omega)]

set_option maxRecDepth 100000 in
set_option maxHeartbeats 4000000 in
theorem order_any (a0 a1 a2 : Option Addr) (l0 c0 l1 c1 l2 c2 : Nat) (ks : Nat → Bool) (lv : Nat → Nat) (vs : Nat → Int) (w : World) (h0 : l0 ≤ 4096) (h1 : l1 ≤ 4096) (h2 : l2 ≤ 4096)
    (r0 : Reads w w.heap.size a0 l0 (fun i => .bool (ks i))) (r1 : Reads w w.heap.size a1 l1 (fun i => .int .u16 (lv i))) (r2 : Reads w w.heap.size a2 l2 (fun i => .int .i64 (vs i)))
    (hlv : ∀ i, lv i < 65536) :
    Calls Eetg.prog 10 #[.slice a0 l0 c0, .slice a1 l1 c1, .slice a2 l2 c2] w fun e w' => e = .returned (.bool true) ∧ Below w.heap.size w w' := by
  have HB := bytes37_any a0 a1 a2 l0 c0 l1 c1 l2 c2 w (by unfold maxLen; omega) (by unfold maxLen; omega) (by unfold maxLen; omega)
  have d0 : decide ((4096 : Int) < l0) = false := by simp; omega
  have d1 : decide ((4096 : Int) < l1) = false := by simp; omega
  have d2 : decide ((4096 : Int) < l2) = false := by simp; omega
  have d3 : decide ((1048576 : Int) < l0 + 2 * l1 + 8 * l2) = false := by simp; omega
  go_enter Eetg.func10, Eetg.ntmps10
  go_wp2_with fail
  refine HB.mono ?_
  rintro e w ⟨b, rfl, rfl⟩
  clear HB
  cases b
  · go_wp2_with fail
    go_ret
    exact ⟨rfl, Below.refl _ _⟩
  go_wp2_with fail
  refine (chain_any a0 l0 c0 ks w h0 r0).mono ?_
  rintro e w1 ⟨rfl, hl1⟩
  have r0' : Reads w1 w1.heap.size a0 l0 (fun i => .bool (ks i)) := fun i hi => by
    obtain ⟨b, o, e1, e2, e3⟩ := r0 i hi
    exact ⟨b, o, e1, by rw [hl1.size]; omega, (World.cell?_of_block (w := w) (hl1.frm.block b e2 (fun x => x))).trans e3⟩
  go_wp2_with fail
  refine (chain_any a0 l0 c0 ks w1 h0 r0').mono ?_
  rintro e w2 ⟨rfl, hl2⟩
  have q0 := two_start hl1 hl2
  clear hl1 hl2 r0' r0
  generalize w1.heap.size = B at *
  go_wp2_with fail
  refine (min2_nat _ _ _).mono ?_
  rintro e w2 ⟨⟨m, rfl, hm⟩, rfl⟩
  have hm1 : m ≤ l1 := by omega
  have hm2 : m ≤ l2 := by omega
  clear hm
  obtain ⟨A, eA⟩ : ∃ A, A = w.heap.size := ⟨_, rfl⟩
  rw [← eA] at q0 ⊢
  have HA : Hid (A = w.heap.size) := eA
  clear eA
  obtain ⟨S0, HS0⟩ : ∃ S0, Hid (S0 = initS ks A) := ⟨_, rfl⟩
  obtain ⟨S1, HS1⟩ : ∃ S1, Hid (S1 = initS ks B) := ⟨_, rfl⟩
  rw [← HS0.out, ← HS1.out] at q0
  have K0 : Kinds ks S0 := by rw [HS0.out]; exact ⟨rfl, fun _ => rfl⟩
  have K1 : Kinds ks S1 := by rw [HS1.out]; exact ⟨rfl, fun _ => rfl⟩
  have Z0 : ∀ j, (S0 j).mx = 0 := by rw [HS0.out]; exact fun _ => rfl
  have Z1 : ∀ j, (S1 j).mx = 0 := by rw [HS1.out]; exact fun _ => rfl
  have HZ0 : Hid (∀ j, (S0 j).mx = 0) := Z0
  have HZ1 : Hid (∀ j, (S1 j).mx = 0) := Z1
  clear Z0 Z1 HS0 HS1
  go_wp2_with fail
  go_loopw [10] (fun i wr => ∃ k : Nat, k ≤ m ∧ i = .int .i64 k ∧ Two w wr A B l0 (stAt S0 (l0 + 1) lv vs k) S1) (fun i _ => m - (intOf i).toNat)
  case atStart => exact ⟨0, Nat.zero_le _, rfl, q0⟩
  case round =>
    obtain ⟨k, hk, rfl, hl⟩ := hrel
    clear q0
    by_cases hlt : k < m
    · obtain ⟨b1, o1, rfl, hb1, hc1⟩ := r1 k (by omega)
      obtain ⟨b2, o2, rfl, hb2, hc2⟩ := r2 k (by omega)
      have g1 : wr.cell? ⟨b1, o1 + k, none⟩ = some (.int .u16 ((lv k : Nat) : Int)) := (hl.below.cell (p := ⟨b1, o1 + k, none⟩) hb1).trans hc1
      have g2 : wr.cell? ⟨b2, o2 + k, none⟩ = some (.int .i64 (vs k)) := (hl.below.cell (p := ⟨b2, o2 + k, none⟩) hb2).trans hc2
      obtain ⟨t, HT, htl, hrem⟩ : ∃ t : Nat, Hid (lv k % (l0 + 1) = t) ∧ t < l0 + 1 ∧ (((lv k : Nat) : Int)).tmod ((l0 : Int) + 1) = (t : Int) :=
        ⟨lv k % (l0 + 1), rfl, Nat.mod_lt _ (by omega), by rw [Int.tmod_eq_emod_of_nonneg (by omega)]; rfl⟩
      have g3 := hl.ra.cell htl
      have hlk := hlv k
      have hw3 : IntKind.i64.wrap ((lv k : Nat) : Int) = ((lv k : Nat) : Int) := by rw [IntKind.wrap_i64]; omega
      have hne : ¬ ((l0 : Int) + 1 = 0) := by omega
      have i0 : (0 : Int) ≤ k := by omega
      have i1 : (k : Int) < l1 := by omega
      have i2 : (k : Int) < l2 := by omega
      have i3 : (0 : Int) ≤ t := by omega
      have i4 : (t : Int) < (l0 : Int) + 1 := by omega
      have hbA1 : b1 ≤ A := by have := hl.hA; omega
      have hbA2 : b2 ≤ A := by have := hl.hA; omega
      go_wp2_with fail
      clear r1 r2 hc1 hc2
      go_region_held3 (fun w' => w'.cell? ⟨b1, o1 + k, none⟩ = some (.int .u16 (lv k)) ∧ w'.cell? ⟨b2, o2 + k, none⟩ = some (.int .i64 (vs k)) ∧ w'.cell? ⟨A, t, none⟩ = some (ptrs (tb A) t))
        (first
          | (go_keep; done)
          | exact ⟨upd_keep hfr g1 hbA1, upd_keep hfr g2 hbA2, upd_keep hfr g3 (Nat.le_refl _)⟩)
        (first
          | (go_at_call 36; refine (zzUpd_any (l0 + 1) (tb A) _ t _ _ htl hl.ca.drew).mono ?_; rintro e w2 ⟨rfl, hch, hfr⟩))
      rename_i hS
      have h5 : Two w w2 A B l0 (stAt S0 (l0 + 1) lv vs (k + 1)) S1 := by
        have e : stAt S0 (l0 + 1) lv vs (k + 1) = raise (vs k) t (stAt S0 (l0 + 1) lv vs k) := by rw [stAt, HT.out]
        rw [e]; exact hl.updA hch hfr
      clear hch hfr hl g1 g2 g3 hw3 hrem hS HT hne
      go_wp2_with fail
      go_roundw
      case rel => exact ⟨k + 1, by omega, by go_num, h5⟩
      case measure => simp [intOf]; omega
    · have hkm : k = m := by omega
      rw [hkm] at hl
      obtain ⟨w3, rfl⟩ : ∃ x, x = wr := ⟨wr, rfl⟩
      clear hkm
      go_wp2_with fail
      go_loopw [11] (fun i wr => ∃ r : Nat, r ≤ m ∧ i = .int .i64 ((r : Int) - 1) ∧ Two w wr A B l0 (stAt S0 (l0 + 1) lv vs m) (stDn S1 (l0 + 1) lv vs m (m - r))) (fun i _ => (intOf i + 1).toNat)
      case atStart => exact ⟨m, Nat.le_refl _, rfl, by rw [Nat.sub_self]; exact hl⟩
      case round =>
        obtain ⟨r, hr, rfl, hl3⟩ := hrel
        clear hl
        by_cases hrp : 0 < r
        · obtain ⟨q, rfl⟩ : ∃ q, r = q + 1 := ⟨r - 1, by omega⟩
          obtain ⟨b1, o1, rfl, hb1, hc1⟩ := r1 q (by omega)
          obtain ⟨b2, o2, rfl, hb2, hc2⟩ := r2 q (by omega)
          have g1 : wr.cell? ⟨b1, o1 + q, none⟩ = some (.int .u16 ((lv q : Nat) : Int)) := (hl3.below.cell (p := ⟨b1, o1 + q, none⟩) hb1).trans hc1
          have g2 : wr.cell? ⟨b2, o2 + q, none⟩ = some (.int .i64 (vs q)) := (hl3.below.cell (p := ⟨b2, o2 + q, none⟩) hb2).trans hc2
          obtain ⟨t, HT, htl, hrem⟩ : ∃ t : Nat, Hid (lv q % (l0 + 1) = t) ∧ t < l0 + 1 ∧ (((lv q : Nat) : Int)).tmod ((l0 : Int) + 1) = (t : Int) :=
            ⟨lv q % (l0 + 1), rfl, Nat.mod_lt _ (by omega), by rw [Int.tmod_eq_emod_of_nonneg (by omega)]; rfl⟩
          have g3 := hl3.rb.cell htl
          have hlk := hlv q
          have hw3 : IntKind.i64.wrap ((lv q : Nat) : Int) = ((lv q : Nat) : Int) := by rw [IntKind.wrap_i64]; omega
          have hne : ¬ ((l0 : Int) + 1 = 0) := by omega
          have i0 : (0 : Int) ≤ q := by omega
          have i1 : (q : Int) < l1 := by omega
          have i2 : (q : Int) < l2 := by omega
          have i3 : (0 : Int) ≤ t := by omega
          have i4 : (t : Int) < (l0 : Int) + 1 := by omega
          have hbB1 : b1 ≤ B := by have := hl3.hA; have := hl3.hAB; omega
          have hbB2 : b2 ≤ B := by have := hl3.hA; have := hl3.hAB; omega
          go_wp2_with fail
          clear r1 r2 hc1 hc2
          go_region_held3 (fun w' => w'.cell? ⟨b1, o1 + q, none⟩ = some (.int .u16 (lv q)) ∧ w'.cell? ⟨b2, o2 + q, none⟩ = some (.int .i64 (vs q)) ∧ w'.cell? ⟨B, t, none⟩ = some (ptrs (tb B) t))
            (first
              | (go_keep; done)
              | exact ⟨upd_keep hfr g1 hbB1, upd_keep hfr g2 hbB2, upd_keep hfr g3 (Nat.le_refl _)⟩)
            (first
              | (go_at_call 36; refine (zzUpd_any (l0 + 1) (tb B) _ t _ _ htl hl3.cb.drew).mono ?_; rintro e w2 ⟨rfl, hch, hfr⟩))
          rename_i hS
          have h5 : Two w w2 A B l0 (stAt S0 (l0 + 1) lv vs m) (stDn S1 (l0 + 1) lv vs m (m - q)) := by
            rw [stDn_step S1 (l0 + 1) lv vs m q t (by omega) HT.out]; exact hl3.updB hch hfr
          clear hch hfr hl3 g1 g2 g3 hw3 hrem hS HT hne
          go_wp2_with fail
          go_roundw
          case rel => exact ⟨q, by omega, by go_num, h5⟩
          case measure => simp [intOf]
        · have er : r = 0 := by omega
          rw [er, Nat.sub_zero] at hl3
          obtain ⟨w4, rfl⟩ : ∃ x, x = wr := ⟨wr, rfl⟩
          clear er
          obtain ⟨M, HM⟩ : ∃ M : Nat → Int, Hid (∀ j, (stAt S0 (l0 + 1) lv vs m j).mx = M j ∧ (stDn S1 (l0 + 1) lv vs m m j).mx = M j ∧ 0 ≤ M j ∧ ∀ k, k ≤ m → (stAt (stAt S0 (l0 + 1) lv vs m) (l0 + 1) lv vs k j).mx = M j) :=
            ⟨fun j => (stAt S0 (l0 + 1) lv vs m j).mx, fun j => ⟨rfl, order_free K0 HZ0.out K1 HZ1.out m j, (up_isMx K0 HZ0.out m).nn, fun k hk => second_pass K0 HZ0.out m k hk j⟩⟩
          obtain ⟨i0, hi, hz0, hz1, hz2⟩ := info_parts info3
          go_wp2_with (first
            | (at_make; go_must (refine wpList_make1 rfl _ _ 24 rfl 3 i0 _ 8 Eetg.underlying24 hi hz0 hz1 hz2 rfl .i64 .i64 _ _ (l0 + 1) (l0 + 1) rfl rfl (by simp) (by simp) (by omega) (by omega) (by unfold maxLen; omega) ?_; intro w5 rL fL sL)))
          have rL0 : Row w5 w4.heap.size 3 (l0 + 1) (l0 + 1) (snapV M 0) := rL.congr (fun j _ => rfl)
          have fL0 : Frm (fun b => b = w4.heap.size) w4 w5 := fL.mono (fun _ h => h.elim)
          clear rL fL sL hi hz0 hz1 hz2
          go_loopw [13] (fun i wr => ∃ j : Nat, j ≤ l0 + 1 ∧ i = .int .i64 j ∧ Row wr w4.heap.size 3 (l0 + 1) (l0 + 1) (snapV M j) ∧ Frm (fun b => b = w4.heap.size) w4 wr) (fun i _ => l0 + 1 - (intOf i).toNat)
          case atStart => exact ⟨0, by omega, rfl, rL0, fL0⟩
          case round =>
            obtain ⟨j, hj, rfl, rL, fL⟩ := hrel
            clear rL0 fL0
            have hl5 := hl3.frm fL (Nat.le_refl _)
            by_cases hjl : j < l0 + 1
            · have ga := hl5.ra.cell hjl
              have gb := hl5.rb.cell hjl
              have ma := (hl5.ca.cells hjl).2.2.2.2.1
              have mb := (hl5.cb.cells hjl).2.2.2.2.1
              rw [(HM.out j).1] at ma
              rw [(HM.out j).2.1] at mb
              have mn := (HM.out j).2.2.1
              have dn : decide (M j < 0) = false := by simp; exact mn
              have gz := rL.cell hjl
              have gf := rL.frozen j
              have st := (rL.store hjl (.int .i64 (M j))).congr (fun x _ => snapV_step M j x)
              have sf := fL.setCell (p := ⟨w4.heap.size, j, none⟩) rfl (.int .i64 (M j))
              have i1 : (0 : Int) ≤ j := by omega
              have i2 : (j : Int) < (l0 : Int) + 1 := by omega
              clear rL fL hl5 r1 r2
              generalize M j = X at *
              go_wp2_with fail
              go_quiet (first
                | (go_at_call_of 34 (ptrs (tb A) j); exact Calls.quiet_of_same (maxSym_any _ ma))
                | (go_at_call_of 34 (ptrs (tb B) j); exact Calls.quiet_of_same (maxSym_any _ mb)))
              go_wp2_with fail
              refine (maxSym_any (wr.drewN nq) ma).mono ?_
              rintro e w6 ⟨rfl, rfl⟩
              go_wp2_with fail
              go_roundw
              case rel => exact ⟨j + 1, by omega, by go_num, st.keep rfl, ⟨sf.os, sf.tape, sf.output, sf.size, sf.block⟩⟩
              case measure => simp [intOf]; omega
            · have ej : j = l0 + 1 := by omega
              rw [ej] at rL
              obtain ⟨w5, rfl⟩ : ∃ x, x = wr := ⟨wr, rfl⟩
              have hL : w4.heap.size < w5.heap.size := rL.lt
              have hne : ¬ inChain (l0 + 1) (tb A) w4.heap.size := by
                rintro ⟨x, hx, e⟩; have := hl3.ca.lt hx; omega
              clear ej fL hl3
              go_wp2_with fail
              go_loopw [14] (fun i wr => ∃ k : Nat, k ≤ m ∧ i = .int .i64 k ∧ Two w wr A B l0 (stAt (stAt S0 (l0 + 1) lv vs m) (l0 + 1) lv vs k) (stDn S1 (l0 + 1) lv vs m m) ∧ Row wr w4.heap.size 3 (l0 + 1) (l0 + 1) (snapV M (l0 + 1))) (fun i _ => m - (intOf i).toNat)
              case atStart => exact ⟨0, Nat.zero_le _, rfl, hl5, rL⟩
              case round =>
                obtain ⟨q, hq, rfl, hl, rS⟩ := hrel
                clear hl5 rL
                by_cases hqm : q < m
                · obtain ⟨b1, o1, rfl, hb1, hc1⟩ := r1 q (by omega)
                  obtain ⟨b2, o2, rfl, hb2, hc2⟩ := r2 q (by omega)
                  have g1 : wr.cell? ⟨b1, o1 + q, none⟩ = some (.int .u16 ((lv q : Nat) : Int)) := (hl.below.cell (p := ⟨b1, o1 + q, none⟩) hb1).trans hc1
                  have g2 : wr.cell? ⟨b2, o2 + q, none⟩ = some (.int .i64 (vs q)) := (hl.below.cell (p := ⟨b2, o2 + q, none⟩) hb2).trans hc2
                  obtain ⟨t, HT, htl, hrem⟩ : ∃ t : Nat, Hid (lv q % (l0 + 1) = t) ∧ t < l0 + 1 ∧ (((lv q : Nat) : Int)).tmod ((l0 : Int) + 1) = (t : Int) :=
                    ⟨lv q % (l0 + 1), rfl, Nat.mod_lt _ (by omega), by rw [Int.tmod_eq_emod_of_nonneg (by omega)]; rfl⟩
                  have g3 := hl.ra.cell htl
                  have hlk := hlv q
                  have hw3 : IntKind.i64.wrap ((lv q : Nat) : Int) = ((lv q : Nat) : Int) := by rw [IntKind.wrap_i64]; omega
                  have hn0 : ¬ ((l0 : Int) + 1 = 0) := by omega
                  have i1 : (q : Int) < l1 := by omega
                  have i2 : (q : Int) < l2 := by omega
                  have i0' : (0 : Int) ≤ q := by omega
                  have i3 : (0 : Int) ≤ t := by omega
                  have i4 : (t : Int) < (l0 : Int) + 1 := by omega
                  have hbA1 : b1 ≤ A := by have := hl.hA; omega
                  have hbA2 : b2 ≤ A := by have := hl.hA; omega
                  go_wp2_with fail
                  clear r1 r2 hc1 hc2
                  go_region_held3 (fun w' => w'.cell? ⟨b1, o1 + q, none⟩ = some (.int .u16 (lv q)) ∧ w'.cell? ⟨b2, o2 + q, none⟩ = some (.int .i64 (vs q)) ∧ w'.cell? ⟨A, t, none⟩ = some (ptrs (tb A) t))
                    (first
                      | (go_keep; done)
                      | exact ⟨upd_keep hfr g1 hbA1, upd_keep hfr g2 hbA2, upd_keep hfr g3 (Nat.le_refl _)⟩)
                    (first
                      | (go_at_call 36; refine (zzUpd_any (l0 + 1) (tb A) _ t _ _ htl hl.ca.drew).mono ?_; rintro e w2 ⟨rfl, hch, hfr⟩))
                  rename_i hS
                  have h5 : Two w w2 A B l0 (stAt (stAt S0 (l0 + 1) lv vs m) (l0 + 1) lv vs (q + 1)) (stDn S1 (l0 + 1) lv vs m m) := by
                    have e : stAt (stAt S0 (l0 + 1) lv vs m) (l0 + 1) lv vs (q + 1) = raise (vs q) t (stAt (stAt S0 (l0 + 1) lv vs m) (l0 + 1) lv vs q) := by rw [stAt, HT.out]
                    rw [e]; exact hl.updA hch hfr
                  have rS' : Row w2 w4.heap.size 3 (l0 + 1) (l0 + 1) (snapV M (l0 + 1)) := rS.keep (hfr.block _ rS.lt hne)
                  clear hch hfr hl g1 g2 g3 hw3 hrem hS HT hn0 rS
                  go_wp2_with fail
                  go_roundw
                  case rel => exact ⟨q + 1, by omega, by go_num, h5, rS'⟩
                  case measure => simp [intOf]; omega
                · have eq : q = m := by omega
                  rw [eq] at hl
                  obtain ⟨w6, rfl⟩ : ∃ x, x = wr := ⟨wr, rfl⟩
                  clear eq r1 r2
                  go_wp2_with fail
                  go_loopw [15] (fun i wr => ∃ j : Nat, j ≤ l0 + 1 ∧ i = .int .i64 j ∧ Two w wr A B l0 (stAt (stAt S0 (l0 + 1) lv vs m) (l0 + 1) lv vs m) (stDn S1 (l0 + 1) lv vs m m) ∧ Row wr w4.heap.size 3 (l0 + 1) (l0 + 1) (snapV M (l0 + 1))) (fun i _ => l0 + 1 - (intOf i).toNat)
                  case atStart => exact ⟨0, by omega, rfl, hl, rS⟩
                  case round =>
                    obtain ⟨x, hx, rfl, hl7, rS7⟩ := hrel
                    clear hl rS
                    by_cases hxl : x < l0 + 1
                    · have ga := hl7.ra.cell hxl
                      have ma := (hl7.ca.cells hxl).2.2.2.2.1
                      rw [(HM.out x).2.2.2 m (Nat.le_refl _)] at ma
                      have gs : wr.cell? ⟨w4.heap.size, x, none⟩ = some (.int .i64 (M x)) := by rw [rS7.cell hxl]; unfold snapV; rw [if_pos hxl]
                      have i1 : (0 : Int) ≤ x := by omega
                      have i2 : (x : Int) < (l0 : Int) + 1 := by omega
                      generalize M x = X at *
                      go_wp2_with fail
                      go_quiet ((go_at_call 34; exact Calls.quiet_of_same (maxSym_any _ ma)))
                      go_wp2_with fail
                      go_roundw
                      case rel => exact ⟨x + 1, by omega, by go_num, hl7.drewN _, rS7.keep rfl⟩
                      case measure => simp [intOf]; omega
                    · have hbl := hl7.below
                      clear hl7 rS7
                      go_wp2_with fail
                      go_ret
                      exact ⟨rfl, hbl⟩

end Go.Proofs.Yoeetw
