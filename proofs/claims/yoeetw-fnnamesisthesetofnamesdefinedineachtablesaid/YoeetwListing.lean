import Derived.Test.YoeetwBuiltin
import Derived.Test.YoeetwBytes
namespace Go.Proofs.Yoeetw
open Go.RowKit

theorem tabs_start {w w1 : World} {ks : Nat → Bool} {l0 : Nat} (h : Laid w w1 ks (l0 + 1) l0) :
    Tabs w1 w.heap.size (l0 + 1) (tb w.heap.size) (initS ks w.heap.size) (fun _ _ => none) [] := by
  refine ⟨h.chain, fun j hj => MapIs.empty (h.maps j (by omega)), fun i j _ _ e => ?_, fun j _ => ⟨?_, ?_⟩, fun i j hij _ => ?_, World.ownsRow_nil _ _ _ _⟩
  · simp only [initS, newTab] at e; omega
  · simp only [tb]; omega
  · simp only [initS, newTab]; omega
  · simp only [tb]; omega

/-- The row of builtin symbols, as a slice value and its cells. -/
theorem Tabs.bsForm {w : World} {base n : Nat} {T : Nat → Nat} {S : Nat → Tab} {F : Nat → ByteArray → Option Nat} {xs : List Nat} (h : Tabs w base n T S F xs) :
    ∃ a cap, (S 0).bs = .slice a xs.length cap ∧ ∀ k, k < xs.length → ∃ g, a = some ⟨g, 0, none⟩ ∧ w.cell? ⟨g, k, none⟩ = some (.pointer (some ⟨xs.getD k 0, 0, none⟩)) := by
  rcases h.bi.2 with ⟨e, e0⟩ | ⟨g, cap, cur, e, hb, hg, h1, h2, h3, h4⟩
  · refine ⟨none, 0, by rw [e, e0], fun k hk => by omega⟩
  · refine ⟨some ⟨g, 0, none⟩, cap, e, fun k hk => ⟨g, rfl, ?_⟩⟩
    rw [cell_of_obj hg]
    have : (cur.toList.take (xs.length * 1))[k]? = (xs.map ptr)[k]? := by rw [h4]
    rw [List.getElem?_take, if_pos (by omega), Array.getElem?_toList, List.getElem?_map] at this
    rw [this, List.getD_eq_getElem?_getD, List.getElem?_eq_getElem hk]
    rfl

set_option maxRecDepth 100000 in
theorem listing_long (a0 a1 a2 a3 : Option Addr) (l0 c0 l1 c1 l2 c2 l3 c3 : Nat) (ss : Nat → ByteArray) (w : World) (h0 : l0 ≤ maxLen) (h1 : l1 ≤ maxLen) (h2 : l2 ≤ maxLen) (h3 : l3 ≤ maxLen)
    (hs : ∀ i, (ss i).size ≤ maxLen) (hr : Reads w w.heap.size a3 l3 (fun i => .string (ss i))) (h : 4096 < l0 ∨ 4096 < l1 ∨ 4096 < l2 ∨ 4096 < l3) :
    Calls Eetg.prog 3 #[.slice a0 l0 c0, .slice a1 l1 c1, .slice a2 l2 c2, .slice a3 l3 c3] w fun e w' => e = .returned (.bool true) ∧ Below w.heap.size w w' := by
  have HB := bytes11_any a0 a1 a2 a3 l0 c0 l1 c1 l2 c2 l3 c3 ss w h0 h1 h2 h3 hs hr
  unfold maxLen at h0 h1 h2 h3
  go_enter Eetg.func3, Eetg.ntmps3
  go_wp2_with fail
  refine HB.mono ?_
  rintro e w' ⟨⟨b, rfl, _⟩, rfl⟩
  clear HB hs hr
  by_cases g0 : (4096 : Int) < l0
  · cases b
    all_goals (go_wp2_with fail; go_ret; exact ⟨rfl, Below.refl _ _⟩)
  · by_cases g1 : (4096 : Int) < l1
    · cases b
      all_goals (go_wp2_with fail; go_ret; exact ⟨rfl, Below.refl _ _⟩)
    · by_cases g2 : (4096 : Int) < l2
      · cases b
        all_goals (go_wp2_with fail; go_ret; exact ⟨rfl, Below.refl _ _⟩)
      · have g3 : (4096 : Int) < l3 := by omega
        cases b
        all_goals (go_wp2_with fail; go_ret; exact ⟨rfl, Below.refl _ _⟩)

/-- The state of the tables behind k calls of DefineBuiltin. -/
def B1 (w wr : World) (l0 : Nat) (ix : Nat → Int) (ss : Nat → ByteArray) (k : Nat) : Prop :=
  ∃ S F xs, Tabs wr w.heap.size (l0 + 1) (tb w.heap.size) S F xs ∧ xs.length = k ∧ (∀ j, j < k → Sym wr (xs.getD j 0) (ss j) scB (ix j)) ∧
    Row wr w.heap.size 31 (l0 + 1) (l0 + 1) (ptrs (tb w.heap.size)) ∧ Below w.heap.size w wr

theorem B1.step {w wr w2 : World} {l0 : Nat} {ix : Nat → Int} {ss : Nat → ByteArray} {k p : Nat} {xs : List Nat} {S2 : Nat → Tab} {F2 : Nat → ByteArray → Option Nat}
    (hxl : xs.length = k) (hsy : ∀ j, j < k → Sym wr (xs.getD j 0) (ss j) scB (ix j)) (hrow : Row wr w.heap.size 31 (l0 + 1) (l0 + 1) (ptrs (tb w.heap.size))) (hbel : Below w.heap.size w wr)
    (hsy2 : Sym w2 p (ss k) scB (ix k)) (ht2 : Tabs w2 w.heap.size (l0 + 1) (tb w.heap.size) S2 F2 (xs ++ [p])) (hfk : FK w.heap.size (wr.drewN 1) w2) : B1 w w2 l0 ix ss (k + 1) := by
  refine ⟨S2, F2, xs ++ [p], ht2, by simp [hxl], fun j hj => ?_, hfk.row (hrow.keep rfl) (by decide) (by decide), ?_⟩
  · rw [List.getD_eq_getElem?_getD]
    by_cases e : j = k
    · subst e; rw [List.getElem?_append_right (by omega), hxl, Nat.sub_self]; exact hsy2
    · rw [List.getElem?_append_left (by omega), ← List.getD_eq_getElem?_getD]
      exact hfk.sym (hsy j (by omega))
  · have hb2 : Below w.heap.size w (wr.drewN 1) := ⟨hbel.os, hbel.tape, hbel.output, hbel.size, hbel.block⟩
    exact hb2.trans (FK.below hfk hbel.size)

theorem fk_keep {C : Nat} {wr w2 : World} (hfk : FK C (wr.drewN 1) w2) (hC : C ≤ wr.heap.size) {p : Addr} {v : Value} (h : wr.cell? p = some v) (hp : p.block < C) : w2.cell? p = some v :=
  ((FK.below hfk hC).cell hp).trans h

set_option maxRecDepth 100000 in
set_option maxHeartbeats 2000000 in
theorem listing_any (a0 a1 a2 a3 : Option Addr) (l0 c0 l1 c1 l2 c2 l3 c3 : Nat) (ks : Nat → Bool) (lv : Nat → Nat) (ix : Nat → Int) (ss : Nat → ByteArray) (w : World) (h0 : l0 ≤ 4096) (h1 : l1 ≤ 4096) (h2 : l2 ≤ 4096) (h3 : l3 ≤ 4096)
    (hs : ∀ i, (ss i).size ≤ maxLen) (hlv : ∀ i, lv i < 65536)
    (r0 : Reads w w.heap.size a0 l0 (fun i => .bool (ks i))) (r1 : Reads w w.heap.size a1 l1 (fun i => .int .u16 (lv i))) (r2 : Reads w w.heap.size a2 l2 (fun i => .int .i64 (ix i))) (r3 : Reads w w.heap.size a3 l3 (fun i => .string (ss i))) :
    Calls Eetg.prog 3 #[.slice a0 l0 c0, .slice a1 l1 c1, .slice a2 l2 c2, .slice a3 l3 c3] w fun e w' => e = .returned (.bool true) ∧ Below w.heap.size w w' := by
  have HB := bytes11_any a0 a1 a2 a3 l0 c0 l1 c1 l2 c2 l3 c3 ss w (by unfold maxLen; omega) (by unfold maxLen; omega) (by unfold maxLen; omega) (by unfold maxLen; omega) hs r3
  have d0 : decide ((4096 : Int) < l0) = false := by simp; omega
  have d1 : decide ((4096 : Int) < l1) = false := by simp; omega
  have d2 : decide ((4096 : Int) < l2) = false := by simp; omega
  have d3 : decide ((4096 : Int) < l3) = false := by simp; omega
  go_enter Eetg.func3, Eetg.ntmps3
  go_wp2_with fail
  refine HB.mono ?_
  rintro e w ⟨⟨b, rfl, hbt⟩, rfl⟩
  clear HB hs
  cases b
  · go_wp2_with fail
    go_ret
    exact ⟨rfl, Below.refl _ _⟩
  replace hbt := hbt rfl
  go_wp2_with fail
  refine (sbytes_any a3 l3 c3 ss w h3 hbt r3).mono ?_
  rintro e w ⟨⟨z, rfl, hz⟩, rfl⟩
  clear hbt
  by_cases hsum : (1048576 : Int) < (l0 : Int) + 2 * l1 + 8 * l2 + z
  · go_wp2_with fail
    go_ret
    exact ⟨rfl, Below.refl _ _⟩
  have d4 : decide ((1048576 : Int) < (l0 : Int) + 2 * l1 + 8 * l2 + z) = false := by simp; omega
  clear hsum
  go_wp2_with fail
  refine (chain_any a0 l0 c0 ks w h0 r0).mono ?_
  rintro e w1 ⟨rfl, hl⟩
  go_wp2_with fail
  refine (min3_nat _ _ _ _).mono ?_
  rintro e w1 ⟨⟨m, rfl, hm⟩, rfl⟩
  have hm1 : m ≤ l1 := by omega
  have hm2 : m ≤ l2 := by omega
  have hm3 : m ≤ l3 := by omega
  clear hm r0
  have q0 : B1 w w1 l0 ix ss 0 := ⟨_, _, [], tabs_start hl, rfl, fun j hj => by omega, hl.row, hl.frm.below (Nat.le_refl _) (fun _ h => h.elim)⟩
  clear hl
  go_wp2_with fail
  go_loopw [11] (fun i wr => ∃ k : Nat, k ≤ m ∧ i = .int .i64 k ∧ B1 w wr l0 ix ss k) (fun i _ => m - (intOf i).toNat)
  case atStart => exact ⟨0, Nat.zero_le _, rfl, q0⟩
  case round =>
    obtain ⟨k, hk, rfl, hl⟩ := hrel
    clear q0
    by_cases hlt : k < m
    · obtain ⟨b1, o1, rfl, hb1, hc1⟩ := r1 k (by omega)
      obtain ⟨b2, o2, rfl, hb2, hc2⟩ := r2 k (by omega)
      obtain ⟨b3, o3, rfl, hb3, hc3⟩ := r3 k (by omega)
      obtain ⟨S, F, xs, ht, hxl, hsy, hrow, hbel⟩ := hl
      have g1 : wr.cell? ⟨b1, o1 + k, none⟩ = some (.int .u16 ((lv k : Nat) : Int)) := (hbel.cell (p := ⟨b1, o1 + k, none⟩) hb1).trans hc1
      have g2 : wr.cell? ⟨b2, o2 + k, none⟩ = some (.int .i64 (ix k)) := (hbel.cell (p := ⟨b2, o2 + k, none⟩) hb2).trans hc2
      have g3 : wr.cell? ⟨b3, o3 + k, none⟩ = some (.string (ss k)) := (hbel.cell (p := ⟨b3, o3 + k, none⟩) hb3).trans hc3
      obtain ⟨t, htl, hrem⟩ : ∃ t : Nat, t < l0 + 1 ∧ (((lv k : Nat) : Int)).tmod ((l0 : Int) + 1) = (t : Int) :=
        ⟨lv k % (l0 + 1), Nat.mod_lt _ (by omega), by rw [Int.tmod_eq_emod_of_nonneg (by omega)]; rfl⟩
      have g4 := hrow.cell htl
      have hlk := hlv k
      have i0 : (0 : Int) ≤ k := by omega
      have i1 : (k : Int) < l1 := by omega
      have i2 : (k : Int) < l2 := by omega
      have i5 : (k : Int) < l3 := by omega
      have i3 : (0 : Int) ≤ t := by omega
      have i4 : (t : Int) < (l0 : Int) + 1 := by omega
      have hcs : w.heap.size ≤ wr.heap.size := hbel.size
      clear r1 r2 r3 hc1 hc2 hc3
      go_wp2_with fail
      go_region_held3 (fun w' => w'.cell? ⟨b2, o2 + k, none⟩ = some (.int .i64 (ix k)) ∧ w'.cell? ⟨b3, o3 + k, none⟩ = some (.string (ss k)))
        (first
          | (go_keep; done)
          | exact ⟨fk_keep hfk hcs g2 hb2, fk_keep hfk hcs g3 hb3⟩)
        (first
          | (go_at_call 15; refine (defB_any (ix k) (ss k) _ (ht.drewN 1) (by omega) hcs t htl).mono ?_; rintro e w2 ⟨v, rfl, hsy2, ht2, hfk⟩))
      rename_i hS
      have h5 : B1 w w2 l0 ix ss (k + 1) := B1.step hxl hsy hrow hbel hsy2 ht2 hfk
      clear ht hsy hrow hbel hsy2 ht2 hfk hS g1 g2 g3 g4 hrem hxl
      go_wp2_with fail
      go_roundw
      case rel => exact ⟨k + 1, by omega, by go_num, h5⟩
      case measure => simp [intOf]; omega
    · have hkm : k = m := by omega
      rw [hkm] at hl
      clear hkm
      obtain ⟨w3, rfl⟩ : ∃ x, x = wr := ⟨wr, rfl⟩
      obtain ⟨S, F, xs, ht, hxl, hsy, hrow, hbel⟩ := hl
      obtain ⟨a, cap, hbs, hre⟩ := ht.bsForm
      rw [hxl] at hbs hre
      have HBS : Hid ((S 0).bs = .slice a m cap) := hbs
      clear hbs r1
      go_wp2_with fail
      go_loopw [13] (fun i wr => ∃ j : Nat, j ≤ l0 + 1 ∧ i = .int .i64 j ∧ ∃ q, wr = w3.drewN q) (fun i _ => l0 + 1 - (intOf i).toNat)
      case atStart => exact ⟨0, by omega, rfl, 0, rfl⟩
      case round =>
        obtain ⟨j, hj, rfl, q, rfl⟩ := hrel
        by_cases hjl : j < l0 + 1
        · have g4 := hrow.cell hjl
          have i3 : (0 : Int) ≤ j := by omega
          have i4 : (j : Int) < (l0 : Int) + 1 := by omega
          go_wp2_with fail
          refine (bsyms_any _ (ht.chain.drewN q) j hjl).mono ?_
          rintro e w4 ⟨rfl, rfl⟩
          rw [HBS.out]
          go_wp2_with fail
          go_loopw [15] (fun i wr => ∃ k : Nat, k ≤ m ∧ i = .int .i64 k ∧ ∃ q, wr = w3.drewN q) (fun i _ => m - (intOf i).toNat)
          case atStart => exact ⟨0, by omega, rfl, q, rfl⟩
          case round =>
            obtain ⟨x, hx, rfl, q2, rfl⟩ := hrel
            by_cases hxm : x < m
            · obtain ⟨b2, o2, rfl, hb2, hc2⟩ := r2 x (by omega)
              obtain ⟨b3, o3, rfl, hb3, hc3⟩ := r3 x (by omega)
              obtain ⟨g, rfl, hg⟩ := hre x hxm
              obtain ⟨y0, y1, y2, y3, yf⟩ := (hsy x hxm).cells
              have g2 : w3.cell? ⟨b2, o2 + x, none⟩ = some (.int .i64 (ix x)) := (hbel.cell (p := ⟨b2, o2 + x, none⟩) hb2).trans hc2
              have g3 : w3.cell? ⟨b3, o3 + x, none⟩ = some (.string (ss x)) := (hbel.cell (p := ⟨b3, o3 + x, none⟩) hb3).trans hc3
              generalize xs.getD x 0 = p at *
              have i0 : (0 : Int) ≤ x := by omega
              have i1 : (x : Int) < m := by omega
              have i2 : (x : Int) < l2 := by omega
              have i5 : (x : Int) < l3 := by omega
              have dB : (!scB.toList == [66, 85, 73, 76, 84, 73, 78]) = false := by decide +kernel
              generalize ss x = s at *
              generalize ix x = ii at *
              go_wp2_with fail
              go_quiet (fail)
              go_wp2_with fail
              go_roundw
              case rel => exact ⟨x + 1, by omega, by go_num, _, rfl⟩
              case measure => simp [intOf]; omega
            · go_wp2_with fail
              go_roundw
              case rel => exact ⟨j + 1, by omega, by go_num, q2, rfl⟩
              case measure => simp [intOf]; omega
        · go_wp2_with fail
          go_ret
          exact ⟨rfl, ⟨hbel.os, hbel.tape, hbel.output, hbel.size, hbel.block⟩⟩
end Go.Proofs.Yoeetw
