import Derived.Test.YoeetwChain
import Derived.Test.YoeetwUpd
import Derived.Test.YoeetwPlainUpd
namespace Go.Proofs.Yoeetw
open Go.RowKit

theorem bytes35_any (a0 a1 a2 : Option Addr) (l0 c0 l1 c1 l2 c2 : Nat) (w : World) (h0 : l0 ≤ maxLen) (h1 : l1 ≤ maxLen) (h2 : l2 ≤ maxLen) :
    Calls Eetg.prog 35 #[.slice a0 l0 c0, .slice a1 l1 c1, .slice a2 l2 c2] w fun e w' => ∃ b, e = .returned (.bool b) ∧ w' = w := by
  unfold maxLen at h0 h1 h2
  go_enter Eetg.func35, Eetg.ntmps35
  go_wp2
  all_goals (go_ret; exact ⟨_, rfl, rfl⟩)

theorem bytes37_any (a0 a1 a2 : Option Addr) (l0 c0 l1 c1 l2 c2 : Nat) (w : World) (h0 : l0 ≤ maxLen) (h1 : l1 ≤ maxLen) (h2 : l2 ≤ maxLen) :
    Calls Eetg.prog 37 #[.slice a0 l0 c0, .slice a1 l1 c1, .slice a2 l2 c2] w fun e w' => ∃ b, e = .returned (.bool b) ∧ w' = w := by
  unfold maxLen at h0 h1 h2
  go_enter Eetg.func37, Eetg.ntmps37
  go_wp2
  all_goals (go_ret; exact ⟨_, rfl, rfl⟩)

theorem info3 : (Eetg.prog.info? 3).map (fun i => (i.zero, i.size, i.bytes)) = some (some (.int .i64 0), 1, 8) := by kernel_rfl

/-- Too long an argument: true at once. -/
theorem raises_long (a0 a1 a2 : Option Addr) (l0 c0 l1 c1 l2 c2 : Nat) (w : World) (h0 : l0 ≤ maxLen) (h1 : l1 ≤ maxLen) (h2 : l2 ≤ maxLen) (h : 4096 < l0 ∨ 4096 < l1 ∨ 4096 < l2) :
    Calls Eetg.prog 9 #[.slice a0 l0 c0, .slice a1 l1 c1, .slice a2 l2 c2] w fun e w' => e = .returned (.bool true) ∧ Below w.heap.size w w' := by
  have HB := bytes35_any a0 a1 a2 l0 c0 l1 c1 l2 c2 w h0 h1 h2
  unfold maxLen at h0 h1 h2
  go_enter Eetg.func9, Eetg.ntmps9
  go_wp2_with fail
  refine HB.mono ?_
  rintro e w' ⟨b, rfl, rfl⟩
  clear HB
  by_cases g0 : (4096 : Int) < l0
  · cases b
    all_goals (go_wp2_with fail; go_ret; exact ⟨rfl, Below.refl _ _⟩)
  · by_cases g1 : (4096 : Int) < l1
    · cases b
      all_goals (go_wp2_with fail; go_ret; exact ⟨rfl, Below.refl _ _⟩)
    · have g2 : (4096 : Int) < l2 := by omega
      cases b
      all_goals (go_wp2_with fail; go_ret; exact ⟨rfl, Below.refl _ _⟩)

theorem min2_nat (a b : Nat) (w : World) :
    Calls Eetg.prog 27 #[.int .i64 a, .int .i64 b] w fun e w' => (∃ m : Nat, e = .returned (.int .i64 m) ∧ m = min a b) ∧ w' = w := by
  refine (min2_any a b w).mono ?_
  rintro e w ⟨rfl, rfl⟩
  exact ⟨⟨min a b, by rw [show min (a : Int) (b : Int) = ((min a b : Nat) : Int) by omega], rfl⟩, rfl⟩

/-- Loop 1's relation on the world, behind k calls. -/
structure R1 (w wr : World) (ks : Nat → Bool) (l0 : Nat) (lv : Nat → Nat) (vs : Nat → Int) (k : Nat) : Prop where
  row : Row wr w.heap.size 31 (l0 + 1) (l0 + 1) (ptrs (tb w.heap.size))
  chain : Chain wr (l0 + 1) (tb w.heap.size) (stAt (initS ks w.heap.size) (l0 + 1) lv vs k)
  below : Below w.heap.size w wr

theorem upd_keep {C n : Nat} {wr w2 : World} (hfr : Frm (inChain n (tb C)) wr.drew w2) {p : Addr} {v : Value} (h : wr.cell? p = some v) (hp : p.block ≤ C) : w2.cell? p = some v := by
  have hlt := World.block_lt_of_cell? _ _ h
  rw [World.cell?_of_block (w := wr) (hfr.block p.block hlt (by rintro ⟨j, _, e⟩; simp only [tb] at e; omega))]
  exact h

theorem R1.step {w wr w2 : World} {ks : Nat → Bool} {l0 : Nat} {lv : Nat → Nat} {vs : Nat → Int} {k t : Nat} (hl : R1 w wr ks l0 lv vs k) (ht : lv k % (l0 + 1) = t)
    (hch : Chain w2 (l0 + 1) (tb w.heap.size) (raise (vs k) t (stAt (initS ks w.heap.size) (l0 + 1) lv vs k))) (hfr : Frm (inChain (l0 + 1) (tb w.heap.size)) wr.drew w2) : R1 w w2 ks l0 lv vs (k + 1) := by
  subst ht
  exact ⟨hl.row.keep (hfr.block _ hl.row.lt (by rintro ⟨j, _, e⟩; simp only [tb] at e; omega)), hch,
    hl.below.drew.trans ((hfr.below (B := w.heap.size) (by exact hl.below.size) (by rintro k ⟨j, _, rfl⟩; simp only [tb]; omega)))⟩

theorem R1.frm {w wr w3 : World} {ks : Nat → Bool} {l0 L : Nat} {lv : Nat → Nat} {vs : Nat → Int} {k : Nat} (hl : R1 w wr ks l0 lv vs k) (h : Frm (fun b => b = L) wr w3) (hL : wr.heap.size ≤ L) : R1 w w3 ks l0 lv vs k :=
  ⟨hl.row.frm h (by have := hl.row.lt; omega), hl.chain.keep (fun j hj => h.block _ (hl.chain.lt hj) (by have := hl.chain.lt hj; omega)),
    hl.below.trans (h.below hl.below.size (by have := hl.below.size; omega))⟩

/-- What the slice 'low' holds when the first q places are written. -/
def lowV (ks : Nat → Bool) (q j : Nat) : Value := .int .i64 (if j < q then ((lowN ks j : Nat) : Int) else 0)

theorem lowV_step (ks : Nat → Bool) (q : Nat) (u : Value) (hu : u = .int .i64 ((lowN ks q : Nat) : Int)) (j : Nat) : setf (lowV ks q) q u j = lowV ks (q + 1) j := by
  unfold setf lowV
  split
  · subst_vars; rw [if_pos (by omega)]
  · congr 1
    by_cases h : j < q
    · rw [if_pos h, if_pos (by omega)]
    · rw [if_neg h, if_neg (by omega)]

theorem lowV_one (ks : Nat → Bool) (j : Nat) : Value.int .i64 0 = lowV ks 1 j := by
  unfold lowV
  split
  · have : j = 0 := by omega
    subst this; rfl
  · rfl

set_option maxRecDepth 100000 in
set_option maxHeartbeats 1000000 in
theorem raises_any (a0 a1 a2 : Option Addr) (l0 c0 l1 c1 l2 c2 : Nat) (ks : Nat → Bool) (lv : Nat → Nat) (vs : Nat → Int) (w : World) (h0 : l0 ≤ 4096) (h1 : l1 ≤ 4096) (h2 : l2 ≤ 4096)
    (r0 : Reads w w.heap.size a0 l0 (fun i => .bool (ks i))) (r1 : Reads w w.heap.size a1 l1 (fun i => .int .u16 (lv i))) (r2 : Reads w w.heap.size a2 l2 (fun i => .int .i64 (vs i)))
    (hlv : ∀ i, lv i < 65536) :
    Calls Eetg.prog 9 #[.slice a0 l0 c0, .slice a1 l1 c1, .slice a2 l2 c2] w fun e w' => e = .returned (.bool true) ∧ Below w.heap.size w w' := by
  have HB := bytes35_any a0 a1 a2 l0 c0 l1 c1 l2 c2 w (by unfold maxLen; omega) (by unfold maxLen; omega) (by unfold maxLen; omega)
  have d0 : decide ((4096 : Int) < l0) = false := by simp; omega
  have d1 : decide ((4096 : Int) < l1) = false := by simp; omega
  have d2 : decide ((4096 : Int) < l2) = false := by simp; omega
  have d3 : decide ((1048576 : Int) < l0 + 2 * l1 + 8 * l2) = false := by simp; omega
  go_enter Eetg.func9, Eetg.ntmps9
  go_wp2_with fail
  refine HB.mono ?_
  rintro e w ⟨b, rfl, rfl⟩
  clear HB
  cases b
  · go_wp2_with fail
    go_ret
    exact ⟨rfl, Below.refl _ _⟩
  go_wp2_with fail
  refine (chain_any a0 l0 c0 ks w h0 r0).mono ?_
  rintro e w1 ⟨rfl, hl⟩
  go_wp2_with fail
  refine (min2_nat _ _ _).mono ?_
  rintro e w1 ⟨⟨m, rfl, hm⟩, rfl⟩
  have hm1 : m ≤ l1 := by omega
  have hm2 : m ≤ l2 := by omega
  clear hm
  have q0 : R1 w w1 ks l0 lv vs 0 := ⟨hl.row, hl.chain, hl.frm.below (Nat.le_refl _) (fun _ h => h.elim)⟩
  clear hl
  go_wp2_with fail
  go_loopw [9] (fun i wr => ∃ k : Nat, k ≤ m ∧ i = .int .i64 k ∧ R1 w wr ks l0 lv vs k) (fun i _ => m - (intOf i).toNat)
  case atStart => exact ⟨0, Nat.zero_le _, rfl, q0⟩
  case round =>
    obtain ⟨k, hk, rfl, hl⟩ := hrel
    clear q0
    by_cases hlt : k < m
    · obtain ⟨b1, o1, rfl, hb1, hc1⟩ := r1 k (by omega)
      obtain ⟨b2, o2, rfl, hb2, hc2⟩ := r2 k (by omega)
      have g1 := (hl.below.cell (p := ⟨b1, o1 + k, none⟩) hb1).trans hc1
      have g2 := (hl.below.cell (p := ⟨b2, o2 + k, none⟩) hb2).trans hc2
      obtain ⟨t, HT, htl, hrem⟩ : ∃ t : Nat, Hid (lv k % (l0 + 1) = t) ∧ t < l0 + 1 ∧ (((lv k : Nat) : Int)).tmod ((l0 : Int) + 1) = (t : Int) :=
        ⟨lv k % (l0 + 1), rfl, Nat.mod_lt _ (by omega), by rw [Int.tmod_eq_emod_of_nonneg (by omega)]; rfl⟩
      have g3 := hl.row.cell htl
      have hlk := hlv k
      have hw3 : IntKind.i64.wrap ((lv k : Nat) : Int) = ((lv k : Nat) : Int) := by rw [IntKind.wrap_i64]; omega
      have hne : ¬ ((l0 : Int) + 1 = 0) := by omega
      have i0 : (0 : Int) ≤ k := by omega
      have i1 : (k : Int) < l1 := by omega
      have i2 : (k : Int) < l2 := by omega
      have i3 : (0 : Int) ≤ t := by omega
      have i4 : (t : Int) < (l0 : Int) + 1 := by omega
      go_wp2_with fail
      clear r0 r1 r2 hc1 hc2
      go_region_held3 (fun w' => w'.cell? ⟨b1, o1 + k, none⟩ = some (.int .u16 (lv k)) ∧ w'.cell? ⟨b2, o2 + k, none⟩ = some (.int .i64 (vs k)) ∧ w'.cell? ⟨w.heap.size, t, none⟩ = some (ptrs (tb w.heap.size) t))
        (first
          | (go_keep; done)
          | exact ⟨upd_keep hfr g1 (Nat.le_of_lt hb1), upd_keep hfr g2 (Nat.le_of_lt hb2), upd_keep hfr g3 (Nat.le_refl _)⟩)
        (first
          | (go_at_call 36; refine (zzUpd_any (l0 + 1) (tb w.heap.size) _ t _ _ htl hl.chain.drew).mono ?_; rintro e w2 ⟨rfl, hch, hfr⟩))
      rename_i hS
      have h5 : R1 w w2 ks l0 lv vs (k + 1) := hl.step HT.out hch hfr
      clear hch hfr hl g1 g2 g3 hw3 hrem hS HT hne
      go_wp2_with fail
      go_roundw
      case rel => exact ⟨k + 1, by omega, by go_num, h5⟩
      case measure => simp [intOf]; omega
    · have hkm : k = m := by omega
      subst hkm
      obtain ⟨w2, rfl⟩ : ∃ x, x = wr := ⟨wr, rfl⟩
      obtain ⟨i0, hi, hz0, hz1, hz2⟩ := info_parts info3
      go_wp2_with (first
        | (at_make; go_must (refine wpList_make1 rfl _ _ 24 rfl 3 i0 _ 8 Eetg.underlying24 hi hz0 hz1 hz2 rfl .i64 .i64 _ _ (l0 + 1) (l0 + 1) rfl rfl (by simp) (by simp) (by omega) (by omega) (by unfold maxLen; omega) ?_; intro w3 rL fL sL)))
      have rL0 : Row w3 w2.heap.size 3 (l0 + 1) (l0 + 1) (lowV ks 1) := rL.congr (fun j _ => lowV_one ks j)
      have fL0 : Frm (fun b => b = w2.heap.size) w2 w3 := fL.mono (fun _ h => h.elim)
      clear rL fL sL hi hz0 hz1 hz2
      go_loopw [11] (fun i wl => ∃ q : Nat, 1 ≤ q ∧ q ≤ l0 + 1 ∧ i = .int .i64 q ∧ Row wl w2.heap.size 3 (l0 + 1) (l0 + 1) (lowV ks q) ∧ Frm (fun b => b = w2.heap.size) w2 wl) (fun i _ => l0 + 1 - (intOf i).toNat)
      case atStart => exact ⟨1, Nat.le_refl _, by omega, rfl, rL0, fL0⟩
      case round =>
        obtain ⟨q, hq1, hq2, rfl, rL, fL⟩ := hrel
        clear rL0 fL0
        by_cases hlt : q < l0 + 1
        · obtain ⟨p, rfl⟩ : ∃ p, q = p + 1 := ⟨q - 1, by omega⟩
          obtain ⟨b0, o0, rfl, hb0, hc0⟩ := r0 p (by omega)
          have g0 : wr.cell? ⟨b0, o0 + p, none⟩ = some (.bool (ks p)) :=
            ((hl.frm fL (Nat.le_refl _)).below.cell (p := ⟨b0, o0 + p, none⟩) hb0).trans hc0
          have gp := rL.cell (j := p) (by omega)
          have gz := rL.cell (j := p + 1) (by omega)
          have gf := rL.frozen (p + 1)
          have ep : lowV ks (p + 1) p = .int .i64 (lowN ks p) := by unfold lowV; rw [if_pos (by omega)]
          rw [ep] at gp
          have i0 : (0 : Int) ≤ p := by omega
          have i1 : (p : Int) < l0 := by omega
          clear r0 hc0 ep
          cases hkp : ks p
          · rw [hkp] at g0
            have st := (rL.store (k := p + 1) (by omega) (.int .i64 ((p : Int) + 1))).congr (fun j _ => lowV_step ks (p + 1) _ (by simp [lowN, hkp]) j)
            have sf := fL.setCell (p := ⟨w2.heap.size, p + 1, none⟩) rfl (.int .i64 ((p : Int) + 1))
            clear hkp rL fL
            go_wp2_with fail
            go_roundw
            case rel => exact ⟨p + 1 + 1, by omega, by omega, by go_num, st, sf⟩
            case measure => simp [intOf]; omega
          · rw [hkp] at g0
            have st := (rL.store (k := p + 1) (by omega) (.int .i64 ((lowN ks p : Nat) : Int))).congr (fun j _ => lowV_step ks (p + 1) _ (by simp [lowN, hkp]) j)
            have sf := fL.setCell (p := ⟨w2.heap.size, p + 1, none⟩) rfl (.int .i64 ((lowN ks p : Nat) : Int))
            clear hkp rL fL
            go_wp2_with fail
            go_roundw
            case rel => exact ⟨p + 1 + 1, by omega, by omega, by go_num, st, sf⟩
            case measure => simp [intOf]; omega
        · have eq : q = l0 + 1 := by omega
          rw [eq] at rL
          clear eq
          have hl3 := hl.frm fL (Nat.le_refl _)
          obtain ⟨w3, rfl⟩ : ∃ x, x = wr := ⟨wr, rfl⟩
          clear fL hl
          go_wp2_with fail
          go_loop [12] (fun i => ∃ j : Nat, j ≤ l0 + 1 ∧ i = .int .i64 j) (fun i => l0 + 1 - (intOf i).toNat)
          case atStart => exact ⟨0, by omega, rfl⟩
          case round =>
            obtain ⟨j, hj, rfl⟩ := hrel
            by_cases hjl : j < l0 + 1
            · have gj := hl3.row.cell hjl
              have gm := (hl3.chain.cells hjl).2.2.2.2.1
              rw [stAt_mx (ks := ks) ⟨rfl, fun _ => rfl⟩ (fun _ => rfl)] at gm
              go_wp2_with fail
              go_loop [13, 14] (fun v i => ∃ q : Nat, q ≤ k ∧ i = .int .i64 q ∧ v = .int .i64 (wantN ks (l0 + 1) lv vs j q)) (fun _ i => k - (intOf i).toNat)
              case atStart => exact ⟨0, by omega, rfl, rfl⟩
              case round =>
                obtain ⟨q, hq, rfl, rfl⟩ := hrel
                by_cases hql : q < k
                · obtain ⟨b1, o1, rfl, hb1, hc1⟩ := r1 q (by omega)
                  obtain ⟨b2, o2, rfl, hb2, hc2⟩ := r2 q (by omega)
                  have g1 : w3.cell? ⟨b1, o1 + q, none⟩ = some (.int .u16 ((lv q : Nat) : Int)) := (hl3.below.cell (p := ⟨b1, o1 + q, none⟩) hb1).trans hc1
                  have g2 : w3.cell? ⟨b2, o2 + q, none⟩ = some (.int .i64 (vs q)) := (hl3.below.cell (p := ⟨b2, o2 + q, none⟩) hb2).trans hc2
                  have hst : Hid (wantN ks (l0 + 1) lv vs j (q + 1) = if lowN ks (lv q % (l0 + 1)) ≤ j ∧ j ≤ lv q % (l0 + 1) ∧ wantN ks (l0 + 1) lv vs j q < vs q then vs q else wantN ks (l0 + 1) lv vs j q) := rfl
                  have htl : lv q % (l0 + 1) < l0 + 1 := Nat.mod_lt _ (by omega)
                  have hlk := hlv q
                  have gl : w3.cell? ⟨w2.heap.size, lv q % (l0 + 1), none⟩ = some (.int .i64 ((lowN ks (lv q % (l0 + 1)) : Nat) : Int)) := by
                    rw [rL.cell htl]; unfold lowV; rw [if_pos htl]
                  have hrem : Int.tmod ((lv q : Nat) : Int) ((l0 : Int) + 1) = ((lv q % (l0 + 1) : Nat) : Int) := by rw [Int.tmod_eq_emod_of_nonneg (by omega)]; rfl
                  generalize lv q % (l0 + 1) = t at *
                  generalize lowN ks t = L at *
                  generalize vs q = V at *
                  clear r0 r1 r2 hc1 hc2 gj gm
                  generalize wantN ks (l0 + 1) lv vs j q = W at *
                  have i0 : (0 : Int) ≤ t := by omega
                  have i4 : (t : Int) < (l0 : Int) + 1 := by omega
                  by_cases A : (L : Int) ≤ j
                  · by_cases B : (j : Int) ≤ t
                    · by_cases C : W < V
                      · go_wp2_with fail
                        go_round
                        case rel => exact ⟨q + 1, by omega, by go_num, by rw [hst.out, if_pos ⟨by omega, by omega, C⟩]⟩
                        case measure => simp [intOf]; omega
                      · go_wp2_with fail
                        go_round
                        case rel => exact ⟨q + 1, by omega, by go_num, by rw [hst.out, if_neg (by omega)]⟩
                        case measure => simp [intOf]; omega
                    · go_wp2_with fail
                      go_round
                      case rel => exact ⟨q + 1, by omega, by go_num, by rw [hst.out, if_neg (by omega)]⟩
                      case measure => simp [intOf]; omega
                  · go_wp2_with fail
                    go_round
                    case rel => exact ⟨q + 1, by omega, by go_num, by rw [hst.out, if_neg (by omega)]⟩
                    case measure => simp [intOf]; omega
                · obtain rfl : q = k := by omega
                  clear hk hq hql hlt r0 r1 r2 rL
                  go_wp2_with fail
                  refine (maxSym_any _ gm).mono ?_
                  rintro e w4 ⟨rfl, rfl⟩
                  go_wp2_with fail
                  go_round
                  case rel => exact ⟨j + 1, by omega, by go_num⟩
                  case measure => simp [intOf]; omega
            · obtain rfl : j = l0 + 1 := by omega
              go_wp2_with fail
              go_ret
              exact ⟨rfl, hl3.below⟩

end Go.Proofs.Yoeetw
