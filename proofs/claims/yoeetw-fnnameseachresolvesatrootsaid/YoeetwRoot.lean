import Derived.Test.YoeetwCopy
namespace Go.Proofs.Yoeetw
open Go.RowKit

/-! FnNamesEachResolvesAtRoot. -/

set_option maxRecDepth 100000 in
theorem root_long (a0 a3 : Option Addr) (l0 c0 l3 c3 : Nat) (ss : Nat → ByteArray) (w : World) (h0 : l0 ≤ maxLen) (h3 : l3 ≤ maxLen)
    (hs : ∀ i, (ss i).size ≤ maxLen) (hr : Reads w w.heap.size a3 l3 (fun i => .string (ss i))) (h : 4096 < l0 ∨ 4096 < l3) :
    Calls Eetg.prog 6 #[.slice a0 l0 c0, .slice a3 l3 c3] w fun e w' => e = .returned (.bool true) ∧ Below w.heap.size w w' := by
  have HB := bytes25_any a0 a3 l0 c0 l3 c3 ss w h0 h3 hs hr
  unfold maxLen at h0 h3
  go_enter Eetg.func6, Eetg.ntmps6
  go_wp2_with fail
  refine HB.mono ?_
  rintro e w' ⟨⟨b, rfl, _⟩, rfl⟩
  clear HB hs hr
  by_cases g0 : (4096 : Int) < l0
  · cases b
    all_goals (go_wp2_with fail; go_ret; exact ⟨rfl, Below.refl _ _⟩)
  · have g3 : (4096 : Int) < l3 := by omega
    cases b
    all_goals (go_wp2_with fail; go_ret; exact ⟨rfl, Below.refl _ _⟩)

set_option maxRecDepth 100000 in
set_option maxHeartbeats 4000000 in
theorem root_any (a0 a3 : Option Addr) (l0 c0 l3 c3 : Nat) (bs : Nat → Bool) (ss : Nat → ByteArray) (w : World) (h0 : l0 ≤ 4096) (h3 : l3 ≤ 4096)
    (hs : ∀ i, (ss i).size ≤ maxLen) (r0 : Reads w w.heap.size a0 l0 (fun i => .bool (bs i))) (r3 : Reads w w.heap.size a3 l3 (fun i => .string (ss i))) :
    Calls Eetg.prog 6 #[.slice a0 l0 c0, .slice a3 l3 c3] w fun e w' => e = .returned (.bool true) ∧ Below w.heap.size w w' := by
  have HB := bytes25_any a0 a3 l0 c0 l3 c3 ss w (by unfold maxLen; omega) (by unfold maxLen; omega) hs r3
  have d0 : decide ((4096 : Int) < l0) = false := by simp; omega
  have d3 : decide ((4096 : Int) < l3) = false := by simp; omega
  obtain ⟨i9, hi9, hz9, hs9, hb9⟩ := info_parts info9
  go_enter Eetg.func6, Eetg.ntmps6
  go_wp2_with fail
  refine HB.mono ?_
  rintro e w ⟨⟨b, rfl, hbt⟩, rfl⟩
  clear HB hs
  cases b
  · go_wp2_with fail
    go_ret
    exact ⟨rfl, Below.refl _ _⟩
  replace hbt := hbt rfl
  go_wp2_with fail
  refine (sbytes_any a3 l3 c3 ss w h3 hbt r3).mono ?_
  rintro e w ⟨⟨z, rfl, hz⟩, rfl⟩
  clear hbt
  by_cases hsum : (1048576 : Int) < (l0 : Int) + z
  · go_wp2_with fail
    go_ret
    exact ⟨rfl, Below.refl _ _⟩
  have d4 : decide ((1048576 : Int) < (l0 : Int) + z) = false := by simp; omega
  clear hsum
  go_wp2_with fail
  refine (new_any w).mono ?_
  rintro e w1 ⟨rfl, hw1⟩
  have q0 := RS.start w bs ss
  rw [← hw1] at q0
  clear hw1
  go_wp2_with fail
  refine (min2_nat _ _ _).mono ?_
  rintro e w1 ⟨⟨m, rfl, hm⟩, rfl⟩
  have hm0 : m ≤ l0 := by omega
  have hm3 : m ≤ l3 := by omega
  clear hm
  obtain ⟨T, HT⟩ : ∃ T : Nat → Nat, Hid (T = fun _ => w.heap.size + 1) := ⟨_, rfl⟩
  rw [← HT.out] at q0
  have ht : (⟨w.heap.size + 1, 0, none⟩ : Addr) = ⟨T 0, 0, none⟩ := by rw [HT.out]
  rw [ht]
  clear ht
  go_wp2_with fail
  go_loopw [7] (fun i wr => ∃ (k : Nat) (S : Nat → Tab) (F : Nat → ByteArray → Option Nat) (xs ps : List Nat), k ≤ m ∧ i = .int .i64 k ∧ RS w wr T bs ss k S F xs ps) (fun i _ => m - (intOf i).toNat)
  case atStart => exact ⟨0, _, _, _, _, Nat.zero_le _, rfl, q0⟩
  case round =>
    obtain ⟨k, S, F, xs, ps, hk, rfl, hl⟩ := hrel
    clear q0
    by_cases hlt : k < m
    · obtain ⟨b0, o0, rfl, hb0, hc0⟩ := r0 k (by omega)
      obtain ⟨b3, o3, rfl, hb3, hc3⟩ := r3 k (by omega)
      have g0 : wr.cell? ⟨b0, o0 + k, none⟩ = some (.bool (bs k)) := (hl.below.cell (p := ⟨b0, o0 + k, none⟩) hb0).trans hc0
      have g3 : wr.cell? ⟨b3, o3 + k, none⟩ = some (.string (ss k)) := (hl.below.cell (p := ⟨b3, o3 + k, none⟩) hb3).trans hc3
      have i0 : (0 : Int) ≤ k := by omega
      have i1 : (k : Int) < l0 := by omega
      have i2 : (k : Int) < l3 := by omega
      have hcs : w.heap.size ≤ wr.heap.size := hl.below.size
      have hxl : xs.length ≤ 5000 := by have := hl.xl; omega
      clear r0 r3 hc0 hc3
      cases hbk : bs k
      · rw [hbk] at g0
        have HBK : Hid (bs k = false) := hbk
        clear hbk
        have hsm : Small S 1 100000 := hl.small.mono (Nat.le_refl _) (by omega)
        go_wp2_with fail
        refine (define_any (ss k) wr hl.tabs 0 (by omega) (by omega) hsm).mono ?_
        rintro e w2 ⟨rfl, hd⟩
        have h5 := hl.defd HBK.out hd
        clear hl hd HBK g0 g3 hsm hxl hcs
        go_wp2_with fail
        go_roundw
        case rel => exact ⟨k + 1, _, _, _, _, by omega, by go_num, h5⟩
        case measure => simp [intOf]; omega
      · rw [hbk] at g0
        have HBK : Hid (bs k = true) := hbk
        clear hbk
        go_wp2_with fail
        refine (defB_any (k : Int) (ss k) wr hl.tabs hxl hcs 0 (by omega)).mono ?_
        rintro e w2 ⟨v, rfl, hsy, ht, hfk⟩
        have h5 := hl.builtin HBK.out hsy ht hfk
        clear hl hsy ht hfk HBK g0 g3 hxl hcs
        go_wp2_with fail
        go_roundw
        case rel => exact ⟨k + 1, _, _, _, _, by omega, by go_num, h5⟩
        case measure => simp [intOf]; omega
    · obtain rfl : k = m := by omega
      obtain ⟨w3, rfl⟩ : ∃ x, x = wr := ⟨wr, rfl⟩
      clear hlt hk
      have c2 := (hl.tabs.chain.cells (k := 0) (by omega)).2.2.1
      have hD : ∀ s, (F 0 s).isSome → s ∈ namesOf ss k := fun s hs => by
        rw [hl.f0] at hs
        exact (namesOf_mem ss k s).2 (fAt_some ss ps s k hs)
      go_wp2_with fail
      refine (names_any w3 (T 0) _ (F 0) (namesOf ss k) c2 (hl.tabs.maps 0 (by omega)) hD (by rw [namesOf_len]; omega)).mono ?_
      rintro e w4 ⟨v, L, rfl, hown, hnd, hmem, hf4⟩
      obtain ⟨a, cap, rfl, hcell⟩ := owns_form hown
      have hLn : L.length ≤ 4096 := by
        refine Nat.le_trans (len_le_sub L (namesOf ss k) hnd fun s hs => hD s ((hmem s).1 hs)) ?_
        rw [namesOf_len]; omega
      have HMEM : Hid (∀ s, s ∈ L → ∃ j, j < k ∧ ss j = s) := fun s hs => by
        have := (hmem s).1 hs
        rw [hl.f0] at this
        exact fAt_some ss ps s k this
      have hl4 := hl.grow hf4
      have HINJ : Hid (∀ i j, i < L.length → j < L.length → nth L i = nth L j → i = j) := nth_inj hnd
      have HNM : Hid (∀ s, (∃ i, i < L.length ∧ nth L i = s) ↔ s ∈ L) := nth_mem L
      clear hown hD c2 hmem hnd hl hf4
      generalize hn : L.length = n at *
      have HC : Hid (∀ j, j < n → ∃ g, a = some ⟨g, 0, none⟩ ∧ g < w4.heap.size ∧ w4.cell? ⟨g, j, none⟩ = some (.string (nth L j))) := hcell
      clear hcell hn
      generalize hal : nth L = al at *
      clear hal
      go_wp2_with (first
        | (at_make; go_must (refine wpList_make1 rfl _ _ 25 rfl 9 i9 _ 16 Eetg.underlying25 hi9 hz9 hs9 hb9 rfl .i64 .i64 _ _ n n rfl rfl rfl rfl (by omega) (by omega) (by unfold maxLen; omega) ?_; intro w5 rr fr sr)))
      have rr0 : Row w5 w4.heap.size 9 n n (strs (copyf al 0)) := rr.congr (fun j _ => rfl)
      have fr0 : Frm (fun _ => False) w4 w5 := fr
      clear rr fr sr
      obtain ⟨R, HR⟩ : ∃ R, Hid (R = w4.heap.size) := ⟨_, rfl⟩
      rw [← HR.out] at rr0 ⊢
      go_loopw [10] (fun i wr => ∃ j : Nat, j ≤ n ∧ i = .int .i64 j ∧ Row wr R 9 n n (strs (copyf al j)) ∧ Frm (fun _ => False) w4 wr) (fun i _ => n - (intOf i).toNat)
      case atStart => exact ⟨0, by omega, rfl, rr0, fr0⟩
      case round =>
        obtain ⟨j, hj, rfl, rj, fj⟩ := hrel
        clear rr0 fr0
        by_cases hjl : j < n
        · obtain ⟨g, rfl, hg, hgc⟩ := HC.out j hjl
          have gc := fj.cell hgc (fun x => x)
          have cr := rj.cell hjl
          have cf := rj.frozen j
          have i0 : (0 : Int) ≤ j := by omega
          have i1 : (j : Int) < n := by omega
          clear hgc
          go_wp2_with (first
            | (refine wpList_store1 rfl _ _ 9 rfl i9 hi9 hs9 ⟨R, j, none⟩ (.string (al j)) _ rfl rfl rfl rfl cr cf ?_
               intro w6 e6
               have F6 := strs_set rj hjl e6.out
               clear e6 cr cf))
          obtain ⟨q1, q2, q3⟩ := F6
          go_roundw
          case rel => exact ⟨j + 1, by omega, by go_num, q1.congr (fun x _ => by unfold strs; rw [copyf_step]), fj.fresh (by rw [HR.out]; exact Nat.le_refl _) q2⟩
          case measure => simp [intOf]; omega
        · obtain rfl : j = n := by omega
          obtain ⟨w5, rfl⟩ : ∃ x, x = wr := ⟨wr, rfl⟩
          have rj2 : Row w5 R 9 j j (strs al) := rj.congr (fun x hx => by unfold strs copyf; rw [if_pos hx])
          clear rj HC
          go_wp2_with fail
          refine (sort_any R j j al w5 (by omega) rj2).mono ?_
          rintro e w6 ⟨rfl, a', r6, _, hperm, f6, _⟩
          have hl6 := hl4.grow (fj.fresh (by rw [HR.out]; exact Nat.le_refl _) f6)
          have HNE : Hid (∀ x y, x < j → y < j → a' x = a' y → x = y) := hperm.inj HINJ.out
          have HEX : Hid (∀ x, x < j → ∃ q, q < k ∧ ss q = a' x) := fun x hx => HMEM.out _ ((HNM.out _).1 ((hperm.mem _).1 ⟨x, hx, rfl⟩))
          clear rj2 hperm f6 fj hl4 HINJ HNM HMEM HR
          have hbel := hl6.below
          go_wp2_with fail
          go_loopw [11] (fun i wr => ∃ x : Nat, 1 ≤ x ∧ x ≤ 5000 ∧ i = .int .i64 x ∧ ∃ q, wr = w6.drewN q) (fun i _ => j - (intOf i).toNat)
          case atStart => exact ⟨1, by omega, by omega, rfl, 0, rfl⟩
          case round =>
            obtain ⟨x, hx1, hx5, rfl, q, rfl⟩ := hrel
            by_cases hxj : x < j
            · obtain ⟨y, rfl⟩ : ∃ y, x = y + 1 := ⟨x - 1, by omega⟩
              have g1 := r6.cell (j := y) (by omega)
              have g2 := r6.cell (j := y + 1) hxj
              unfold strs at g1 g2
              have x1 : ((a' y).toList == (a' (y + 1)).toList) = false := toList_ne (fun e => by have := HNE.out y (y + 1) (by omega) hxj e; omega)
              generalize a' y = s1 at g1 x1
              generalize a' (y + 1) = s2 at g2 x1
              have i0 : (0 : Int) ≤ y := by omega
              have i1 : (y : Int) + 1 < j := by omega
              have i2 : (y : Int) < j := by omega
              go_wp2_with fail
              go_quiet (fail)
              go_wp2_with fail
              go_roundw
              case rel => exact ⟨y + 1 + 1, by omega, by omega, by go_num, _, rfl⟩
              case measure => simp [intOf]; omega
            · clear HNE
              go_wp2_with fail
              go_loopw [12] (fun i wr => ∃ x : Nat, x ≤ j ∧ i = .int .i64 x ∧ ∃ q, wr = w6.drewN q) (fun i _ => j - (intOf i).toNat)
              case atStart => exact ⟨0, by omega, rfl, q, rfl⟩
              case round =>
                obtain ⟨y, hy, rfl, q2, rfl⟩ := hrel
                by_cases hyj : y < j
                · have g1 := r6.cell (j := y) hyj
                  unfold strs at g1
                  have HE := HEX.out y hyj
                  have HE2 : Hid (∃ q, q < k ∧ ss q = a' y) := HE
                  clear HE
                  generalize a' y = s at g1 HE2
                  have i0 : (0 : Int) ≤ y := by omega
                  have i1 : (y : Int) < j := by omega
                  go_wp2_with fail
                  go_loopw [14, 15] (fun l i wr => ∃ (r : Nat) (zz : Int), r ≤ k ∧ l = .int .i64 (-1) ∧ i = .int .i64 zz ∧ zz = (r : Int) - 1 ∧ (∀ x, r ≤ x → x < k → ss x ≠ s) ∧ ∃ q, wr = w6.drewN q) (fun _ i _ => (intOf i + 1).toNat)
                  case atStart => exact ⟨k, (k : Int) - 1, Nat.le_refl _, rfl, by go_num, rfl, fun x h1 h2 => by omega, q2, rfl⟩
                  case round =>
                    obtain ⟨r, zz, hr, rfl, rfl, hzz, hno, q3, rfl⟩ := hrel
                    have HNO : Hid (∀ x, r ≤ x → x < k → ss x ≠ s) := hno
                    clear hno
                    by_cases hr0 : r = 0
                    · obtain ⟨x, hx, hxs⟩ := HE2.out
                      exact absurd hxs (HNO.out x (by omega) hx)
                    · obtain ⟨p, rfl⟩ : ∃ p, r = p + 1 := ⟨r - 1, by omega⟩
                      obtain rfl : zz = (p : Int) := by omega
                      obtain ⟨b3, o3, rfl, hb3, hc3⟩ := r3 p (by omega)
                      have g3 : w6.cell? ⟨b3, o3 + p, none⟩ = some (.string (ss p)) := (hbel.cell (p := ⟨b3, o3 + p, none⟩) hb3).trans hc3
                      have j0 : (0 : Int) ≤ p := by omega
                      have j1 : (p : Int) < l3 := by omega
                      have j2 : (p : Int) < l0 := by omega
                      clear hzz hr0
                      by_cases heq : ss p = s
                      · subst heq
                        obtain ⟨b0, o0, rfl, hb0, hc0⟩ := r0 p (by omega)
                        have g0 : w6.cell? ⟨b0, o0 + p, none⟩ = some (.bool (bs p)) := (hbel.cell (p := ⟨b0, o0 + p, none⟩) hb0).trans hc0
                        have hF : F 0 (ss p) = some (ps.getD p 0) := by rw [hl6.f0]; exact fAt_last ss ps (ss p) p rfl k (by omega) (fun x h1 h2 => HNO.out x (by omega) h2)
                        obtain ⟨ix, hsy⟩ := hl6.sym p (by omega)
                        clear HNO HE2 hc0 hc3 r0 r3
                        have hsc : (!(if bs p = true then scB else scG).toList == [76, 79, 67, 65, 76]) = true := by
                          cases bs p <;> decide +kernel
                        have HRS : Hid (∀ W : World, W.heap = w6.heap → Calls Eetg.prog 18 #[.pointer (some ⟨T 0, 0, none⟩), .string (ss p), .bool false] W fun e w' => e = .returned (.tuple #[.pointer (some ⟨ps.getD p 0, 0, none⟩), .int .i64 0, .bool true]) ∧ w' = W) :=
                          fun W hW => resolve_root W (hl6.tabs.chain.keep (fun _ _ => by rw [hW])) (by omega) (F 0) ((hl6.tabs.maps 0 (by omega)).keep (by rw [hW])) (ss p) _ hF (ss p) _ ix (by unfold Sym; rw [hW]; exact hsy) hsc
                        obtain ⟨y0, y1, y2, y3, yf⟩ := hsy.cells
                        generalize ps.getD p 0 = pL at *
                        clear hF hsy hsc y2 y3
                        have dB : (!scB.toList == [66, 85, 73, 76, 84, 73, 78]) = false := by decide +kernel
                        have dG : (!scG.toList == [71, 76, 79, 66, 65, 76]) = false := by decide +kernel
                        generalize ss p = s at *
                        cases hbp : bs p
                        · rw [hbp] at g0 y1
                          clear hbp
                          simp only [Bool.false_eq_true, if_false] at y1
                          go_wp2_with fail
                          refine (HRS.out (w6.drewN q3) rfl).mono ?_
                          rintro e w7 ⟨rfl, rfl⟩
                          go_wp2_with fail
                          go_roundw
                          case rel => exact ⟨y + 1, by omega, by go_num, _, rfl⟩
                          case measure => simp [intOf]; omega
                        · rw [hbp] at g0 y1
                          clear hbp
                          simp only [if_true] at y1
                          go_wp2_with fail
                          refine (HRS.out (w6.drewN q3) rfl).mono ?_
                          rintro e w7 ⟨rfl, rfl⟩
                          go_wp2_with fail
                          go_roundw
                          case rel => exact ⟨y + 1, by omega, by go_num, _, rfl⟩
                          case measure => simp [intOf]; omega
                      · have HN : Hid (∀ x, p ≤ x → x < k → ss x ≠ s) := fun x h1 h2 => by
                          by_cases e : x = p
                          · subst e; exact heq
                          · exact HNO.out x (by omega) h2
                        have x1 : ((ss p).toList == s.toList) = false := toList_ne heq
                        clear HNO heq
                        go_wp2_with fail
                        go_roundw
                        case rel => exact ⟨p, (p : Int) - 1, by omega, rfl, by go_num, rfl, HN.out, _, rfl⟩
                        case measure => simp [intOf]
                · have hb' : Below w.heap.size w (w6.drewN q2) := ⟨hbel.os, hbel.tape, hbel.output, hbel.size, hbel.block⟩
                  go_wp2_with fail
                  go_ret
                  exact ⟨rfl, hb'⟩
end Go.Proofs.Yoeetw
