import Derived.Test.YoeetwCopy
namespace Go.Proofs.Yoeetw
open Go.RowKit

/-! zzDedupSorted and zzEqualStrings. -/

/-- o's first p are a's first k, each once, in order. -/
structure Ded (a o : Nat → ByteArray) (k p : Nat) : Prop where
  le : p ≤ k
  ord : ∀ x y, x < y → y < p → slt (o x) (o y)
  mem : ∀ s, (∃ x, x < p ∧ o x = s) ↔ ∃ x, x < k ∧ a x = s
  last : ∀ j, k = j + 1 → ∃ i, p = i + 1 ∧ o i = a j

theorem Ded.start (a o : Nat → ByteArray) : Ded a o 0 0 :=
  ⟨Nat.le_refl _, fun x y _ h => by omega, fun s => ⟨fun ⟨x, h, _⟩ => by omega, fun ⟨x, h, _⟩ => by omega⟩, fun j h => by omega⟩

theorem Ded.same {a o : Nat → ByteArray} {k i : Nat} (h : Ded a o k (i + 1)) (he : o i = a k) : Ded a o (k + 1) (i + 1) := by
  refine ⟨by have := h.le; omega, h.ord, fun s => ?_, fun j hj => ⟨i, rfl, by rw [he]; congr 1; omega⟩⟩
  rw [h.mem s]
  constructor
  · rintro ⟨x, hx, e⟩; exact ⟨x, by omega, e⟩
  · rintro ⟨x, hx, e⟩
    by_cases ex : x = k
    · rw [← h.mem s]; exact ⟨i, by omega, by rw [he, ← ex]; exact e⟩
    · exact ⟨x, by omega, e⟩

theorem Ded.push {a o : Nat → ByteArray} {k p n : Nat} (h : Ded a o k p) (hs : ∀ p q, p < q → q < n → sle (a p) (a q)) (hk : k < n) (hn : ∀ i, p = i + 1 → o i ≠ a k) : Ded a (seth o p (a k)) (k + 1) (p + 1) := by
  have e1 : ∀ q, q ≠ p → seth o p (a k) q = o q := fun q hq => by unfold seth; rw [if_neg hq]
  have e2 : seth o p (a k) p = a k := by unfold seth; rw [if_pos rfl]
  refine ⟨by have := h.le; omega, fun x y hxy hy => ?_, fun s => ?_, fun j hj => ⟨p, rfl, by rw [e2]; congr 1; omega⟩⟩
  · by_cases ey : y = p
    · rw [ey, e2, e1 x (by omega)]
      obtain ⟨i, rfl⟩ : ∃ i, p = i + 1 := ⟨p - 1, by omega⟩
      obtain ⟨j, rfl⟩ : ∃ j, k = j + 1 := ⟨k - 1, by have := h.le; omega⟩
      obtain ⟨i', hi', hl⟩ := h.last j rfl
      obtain rfl : i' = i := by omega
      have h1 : slt (o i') (a (j + 1)) := by
        rcases hs j (j + 1) (by omega) hk with h | h
        · rw [hl]; exact h
        · exact absurd (hl.trans h) (hn i' rfl)
      by_cases ex : x = i'
      · rw [ex]; exact h1
      · exact slt_trans (h.ord x i' (by omega) (by omega)) h1
    · rw [e1 x (by omega), e1 y ey]; exact h.ord x y hxy (by omega)
  · constructor
    · rintro ⟨x, hx, e⟩
      by_cases ex : x = p
      · rw [ex, e2] at e; exact ⟨k, by omega, e⟩
      · rw [e1 x ex] at e
        obtain ⟨y, hy, e'⟩ := (h.mem s).1 ⟨x, by omega, e⟩
        exact ⟨y, by omega, e'⟩
    · rintro ⟨x, hx, e⟩
      by_cases ex : x = k
      · exact ⟨p, by omega, by rw [e2, ← ex]; exact e⟩
      · obtain ⟨y, hy, e'⟩ := (h.mem s).2 ⟨x, by omega, e⟩
        exact ⟨y, by omega, by rw [e1 y (by omega)]; exact e'⟩

theorem strs_seth (o : Nat → ByteArray) (p : Nat) (v : ByteArray) (j : Nat) : setf (strs o) p (.string v) j = strs (seth o p v) j := by
  unfold setf strs seth
  by_cases e : j = p
  · rw [if_pos e, if_pos e]
  · rw [if_neg e, if_neg e]

set_option maxRecDepth 100000 in
set_option maxHeartbeats 2000000 in
theorem dedup_any (b n cap : Nat) (a : Nat → ByteArray) (w : World) (hn : n ≤ 5000) (hr : Row w b 9 n cap (strs a)) (hs : ∀ p q, p < q → q < n → sle (a p) (a q)) :
    Calls Eetg.prog 22 #[.slice (some ⟨b, 0, none⟩) n cap] w fun e w' => ∃ (p : Nat) (o : Nat → ByteArray), e = .returned (.slice (some ⟨w.heap.size, 0, none⟩) p n) ∧ Row w' w.heap.size 9 p n (strs o) ∧ Ded a o n p ∧ Frm (fun _ => False) w w' := by
  obtain ⟨i9, hi9, hz9, hs9, hb9⟩ := info_parts info9
  have HS : Hid (∀ p q, p < q → q < n → sle (a p) (a q)) := hs
  clear hs
  go_enter Eetg.func22, Eetg.ntmps22
  go_wp2_with (first
    | (at_make; go_must (refine wpList_make1 rfl _ _ 25 rfl 9 i9 _ 16 Eetg.underlying25 hi9 hz9 hs9 hb9 rfl .i64 .i64 _ _ 0 n rfl rfl rfl rfl (by omega) (by omega) (by unfold maxLen; omega) ?_; intro w1 rr fr sr)))
  have rr0 : Row w1 w.heap.size 9 0 n (strs a) := (rr.less (Nat.zero_le _)).congr (fun j hj => by omega)
  have hbl := hr.lt
  clear rr sr
  obtain ⟨R, HR⟩ : ∃ R, Hid (R = w.heap.size) := ⟨_, rfl⟩
  rw [← HR.out] at rr0 hbl ⊢
  go_loopw [3, 4] (fun v i wr => ∃ (k p : Nat) (o : Nat → ByteArray), k ≤ n ∧ i = .int .i64 k ∧ v = .slice (some ⟨R, 0, none⟩) p n ∧ Row wr R 9 p n (strs o) ∧ Ded a o k p ∧ Frm (fun _ => False) w wr) (fun _ i _ => n - (intOf i).toNat)
  case atStart => exact ⟨0, 0, a, Nat.zero_le _, rfl, rfl, rr0, Ded.start a a, fr⟩
  case round =>
    obtain ⟨k, p, o, hk, rfl, rfl, ro, hd, fo⟩ := hrel
    clear rr0 fr
    by_cases hlt : k < n
    · have ra := hr.frm fo (fun x => x)
      have ga := ra.cell hlt
      unfold strs at ga
      have hpk := hd.le
      have i0 : (0 : Int) ≤ k := by omega
      have i1 : (k : Int) < n := by omega
      by_cases hp0 : p = 0
      · subst hp0
        have hd2 := hd.push HS.out hlt (fun i hi => by omega)
        clear hd
        go_wp2_with fail
        go_quiet (fail)
        go_wp2_with (first
          | (at_builtin
             refine wpList_append1 rfl _ _ 25 rfl 9 i9 Eetg.underlying25 hi9 hs9 R 0 n _ (strs o) (.string (a k)) rfl rfl (by exact (ro.keep (w' := (wr.drewN nq).alloc _) (Below.heap_alloc _ _ _ ro.lt))) (by exact cell_new (by simp)) rfl (by omega) ?_
             intro w4 r4 f4 s4))
        go_roundw
        case rel => exact ⟨k + 1, 0 + 1, _, by omega, by go_num, rfl, r4.congr (fun x _ => strs_seth o _ _ x), hd2, ((fo.drewN nq).alloc _).fresh (by rw [HR.out]; exact Nat.le_refl _) f4⟩
        case measure => simp [intOf]; omega
      · obtain ⟨i, rfl⟩ : ∃ i, p = i + 1 := ⟨p - 1, by omega⟩
        have go := ro.cell (j := i) (by omega)
        unfold strs at go
        by_cases heq : o i = a k
        · have hd2 := hd.same heq
          have x1 : (!(o i).toList == (a k).toList) = false := by rw [heq]; simp
          clear hd heq
          generalize a k = s1 at ga x1
          generalize o i = s2 at go x1
          have i2 : (0 : Int) ≤ i := by omega
          have i3 : (i : Int) < (i : Int) + 1 := by omega
          have x2 : ((i : Int) + 1 == 0) = false := by rw [beq_eq_false_iff_ne]; omega
          have x3 : IntKind.i64.wrap (i : Int) = (i : Int) := by rw [IntKind.wrap_i64]; omega
          go_wp2_with fail
          go_quiet (fail)
          go_wp2_with fail
          go_roundw
          case rel => exact ⟨k + 1, i + 1, o, by omega, by go_num, rfl, ro.keep rfl, hd2, fo.drewN _⟩
          case measure => simp [intOf]; omega
        · have hd2 := hd.push HS.out hlt (fun i' hi => by have : i' = i := by omega
                                                          rw [this]; exact heq)
          have x1 : (!(o i).toList == (a k).toList) = true := by rw [toList_ne heq]; rfl
          clear hd heq
          generalize o i = s2 at go x1
          have i2 : (0 : Int) ≤ i := by omega
          have i3 : (i : Int) < (i : Int) + 1 := by omega
          have x2 : ((i : Int) + 1 == 0) = false := by rw [beq_eq_false_iff_ne]; omega
          have x3 : IntKind.i64.wrap (i : Int) = (i : Int) := by rw [IntKind.wrap_i64]; omega
          go_wp2_with fail
          go_quiet (fail)
          go_wp2_with (first
            | (at_builtin
               refine wpList_append1 rfl _ _ 25 rfl 9 i9 Eetg.underlying25 hi9 hs9 R (i + 1) n _ (strs o) (.string (a k)) rfl rfl (by exact (ro.keep (w' := (wr.drewN nq).alloc _) (Below.heap_alloc _ _ _ ro.lt))) (by exact cell_new (by simp)) rfl (by omega) ?_
               intro w4 r4 f4 s4))
          go_roundw
          case rel => exact ⟨k + 1, i + 1 + 1, _, by omega, by go_num, rfl, r4.congr (fun x _ => strs_seth o _ _ x), hd2, ((fo.drewN nq).alloc _).fresh (by rw [HR.out]; exact Nat.le_refl _) f4⟩
          case measure => simp [intOf]; omega
    · obtain rfl : k = n := by omega
      go_wp2_with fail
      go_ret
      exact ⟨p, o, by rw [← HR.out]; rfl, by rw [← HR.out]; exact ro, hd, fo⟩

set_option maxRecDepth 100000 in
set_option maxHeartbeats 2000000 in
theorem equal_any (b1 b2 n c1 c2 : Nat) (a : Nat → ByteArray) (w : World) (hn : n ≤ 5000) (h1 : Row w b1 9 n c1 (strs a)) (h2 : Row w b2 9 n c2 (strs a)) :
    Calls Eetg.prog 24 #[.slice (some ⟨b1, 0, none⟩) n c1, .slice (some ⟨b2, 0, none⟩) n c2] w fun e w' => e = .returned (.bool true) ∧ ∃ q, w' = w.drewN q := by
  go_enter Eetg.func24, Eetg.ntmps24
  go_wp2_with fail
  go_loopw [5] (fun i wr => ∃ k : Nat, k ≤ n ∧ i = .int .i64 k ∧ ∃ q, wr = w.drewN q) (fun i _ => n - (intOf i).toNat)
  case atStart => exact ⟨0, by omega, rfl, 0, rfl⟩
  case round =>
    obtain ⟨k, hk, rfl, q, rfl⟩ := hrel
    by_cases hlt : k < n
    · have g1 := h1.cell hlt
      have g2 := h2.cell hlt
      unfold strs at g1 g2
      generalize a k = s at g1 g2
      have i0 : (0 : Int) ≤ k := by omega
      have i1 : (k : Int) < n := by omega
      go_wp2_with fail
      go_quiet (fail)
      go_wp2_with fail
      go_roundw
      case rel => exact ⟨k + 1, by omega, by go_num, _, rfl⟩
      case measure => simp [intOf]; omega
    · go_wp2_with fail
      go_ret
      exact ⟨rfl, _, rfl⟩
end Go.Proofs.Yoeetw
