import Derived.Test.YoeetwRaises
namespace Go.Proofs.Yoeetw
open Go.RowKit

/-! The guards of the laws over strings: they return, and write nothing. -/

/-- The bytes of the first k strings. -/
def tot (ss : Nat → ByteArray) : Nat → Nat
  | 0 => 0
  | k + 1 => tot ss k + (ss k).size

theorem tot_mono (ss : Nat → ByteArray) {k n : Nat} (h : k ≤ n) : tot ss k ≤ tot ss n := by
  induction n with
  | zero => have : k = 0 := by omega
            subst this; exact Nat.le_refl _
  | succ n ih =>
    by_cases e : k = n + 1
    · subst e; exact Nat.le_refl _
    · have := ih (by omega); simp only [tot]; omega

/-- The call has returned a bool; if it is true, the strings take at most 1048576 bytes. -/
def IsBool (ss : Nat → ByteArray) (n : Nat) (e : Ending) : Prop := ∃ b, e = .returned (.bool b) ∧ (b = true → tot ss n ≤ 1048576)

theorem min3_nat (a b c : Nat) (w : World) :
    Calls Eetg.prog 14 #[.int .i64 a, .int .i64 b, .int .i64 c] w fun e w' => (∃ m : Nat, e = .returned (.int .i64 m) ∧ m = min (min a b) c) ∧ w' = w := by
  go_enter Eetg.func14, Eetg.ntmps14
  go_wp2_with fail
  refine (min2_nat a b _).mono ?_
  rintro e w1 ⟨⟨m, rfl, hm⟩, rfl⟩
  have HM : Hid (m = min a b) := hm
  clear hm
  go_wp2_with fail
  refine (min2_nat m c _).mono ?_
  rintro e w2 ⟨⟨m2, rfl, hm2⟩, rfl⟩
  have HM2 : Hid (m2 = min m c) := hm2
  clear hm2
  go_wp2_with fail
  go_ret
  exact ⟨⟨m2, rfl, by rw [HM2.out, HM.out]⟩, rfl⟩

theorem sbytes_any (a0 : Option Addr) (len cap : Nat) (ss : Nat → ByteArray) (w : World) (hlen : len ≤ 4096) (ht : tot ss len ≤ 1048576) (hr : Reads w w.heap.size a0 len (fun i => .string (ss i))) :
    Calls Eetg.prog 12 #[.slice a0 len cap] w fun e w' => (∃ z : Nat, e = .returned (.int .i64 z) ∧ z ≤ 2000000) ∧ w' = w := by
  go_enter Eetg.func12, Eetg.ntmps12
  go_wp2_with fail
  go_loop [3, 4] (fun t i => ∃ (z k : Nat), k ≤ len ∧ z = 16 * len + tot ss k ∧ t = .int .i64 z ∧ i = .int .i64 k) (fun _ i => len - (intOf i).toNat)
  case atStart => exact ⟨_, 0, Nat.zero_le _, rfl, by simp [tot], rfl⟩
  case round =>
    obtain ⟨z, k, hk, hz, rfl, rfl⟩ := hrel
    by_cases hlt : k < len
    · obtain ⟨b, off, rfl, hb, hc⟩ := hr k hlt
      have hc' : w.cell? ⟨b, off + k, none⟩ = some (.string (ss k)) := hc
      have hm := tot_mono ss (show k + 1 ≤ len from hlt)
      simp only [tot] at hm
      have HT : Hid (16 * len + tot ss (k + 1) = z + (ss k).size) := by show _ = _; simp only [tot]; omega
      have hzs : z + (ss k).size ≤ 2000000 := by omega
      clear hr hc hm hz ht
      generalize ss k = s at hc' HT hzs
      go_wp2_with fail
      go_round
      case rel => exact ⟨z + s.size, k + 1, by omega, HT.out.symm, by go_num, by go_num⟩
      case measure => simp [intOf]; omega
    · have hm := tot_mono ss hk
      have hz2 : z ≤ 2000000 := by omega
      clear hz hm
      go_wp2_with fail
      go_ret
      exact ⟨⟨z, rfl, hz2⟩, rfl⟩

set_option maxRecDepth 100000 in
set_option maxHeartbeats 1000000 in
theorem bytes11_any (a0 a1 a2 a3 : Option Addr) (l0 c0 l1 c1 l2 c2 l3 c3 : Nat) (ss : Nat → ByteArray) (w : World) (h0 : l0 ≤ maxLen) (h1 : l1 ≤ maxLen) (h2 : l2 ≤ maxLen) (h3 : l3 ≤ maxLen)
    (hs : ∀ i, (ss i).size ≤ maxLen) (hr : Reads w w.heap.size a3 l3 (fun i => .string (ss i))) :
    Calls Eetg.prog 11 #[.slice a0 l0 c0, .slice a1 l1 c1, .slice a2 l2 c2, .slice a3 l3 c3] w fun e w' => IsBool ss l3 e ∧ w' = w := by
  unfold maxLen at h0 h1 h2 h3 hs
  by_cases ht : l0 + l1 + l2 + l3 ≤ 1048576
  · have d0 : decide ((1048576 : Int) < l0) = false := by simp; omega
    have d1 : decide ((1048576 : Int) < l1) = false := by simp; omega
    have d2 : decide ((1048576 : Int) < l2) = false := by simp; omega
    have d3 : decide ((1048576 : Int) < l3) = false := by simp; omega
    have d4 : decide ((1048576 : Int) < (l0 : Int) + l1) = false := by simp; omega
    have d5 : decide ((1048576 : Int) < (l0 : Int) + l1 + l2) = false := by simp; omega
    have d6 : decide ((1048576 : Int) < (l0 : Int) + l1 + l2 + l3) = false := by simp; omega
    go_enter Eetg.func11, Eetg.ntmps11
    go_wp2_with fail
    go_loop [9, 10] (fun z i => ∃ (y k : Nat), y ≤ 1048576 ∧ tot ss k ≤ y ∧ k ≤ l3 ∧ z = .int .i64 y ∧ i = .int .i64 k) (fun _ i => l3 - (intOf i).toNat)
    case atStart => exact ⟨l0 + l1 + l2 + l3, 0, ht, Nat.zero_le _, Nat.zero_le _, by go_num, rfl⟩
    case round =>
      obtain ⟨y, k, hy, hty, hk, rfl, rfl⟩ := hrel
      by_cases hlt : k < l3
      · obtain ⟨b, off, rfl, hb, hc⟩ := hr k hlt
        have hc' : w.cell? ⟨b, off + k, none⟩ = some (.string (ss k)) := hc
        have hsk := hs k
        have HT : Hid (tot ss (k + 1) = tot ss k + (ss k).size) := rfl
        generalize ss k = s at hc' hsk HT
        clear hr hc hs
        by_cases e1 : s.size ≤ 1048576
        · by_cases e2 : y + s.size ≤ 1048576
          · have x1 : decide ((1048576 : Int) < s.size) = false := by simp; omega
            have x2 : decide ((1048576 : Int) < (y : Int) + s.size) = false := by simp; omega
            go_wp2_with fail
            go_round
            case rel => exact ⟨y + s.size, k + 1, e2, by rw [HT.out]; omega, by omega, by go_num, by go_num⟩
            case measure => simp [intOf]; omega
          · have x1 : decide ((1048576 : Int) < s.size) = false := by simp; omega
            have x2 : decide ((1048576 : Int) < (y : Int) + s.size) = true := by simp; omega
            go_wp2_with fail
            go_ret
            exact ⟨⟨_, rfl, fun h => by cases h⟩, rfl⟩
        · have x1 : decide ((1048576 : Int) < s.size) = true := by simp; omega
          go_wp2_with fail
          go_ret
          exact ⟨⟨_, rfl, fun h => by cases h⟩, rfl⟩
      · have hkl : k = l3 := by omega
        have HK : Hid (tot ss l3 ≤ 1048576) := by rw [← hkl]; exact Nat.le_trans hty hy
        clear hkl
        go_wp2_with fail
        go_ret
        exact ⟨⟨_, rfl, fun _ => HK.out⟩, rfl⟩
  · go_enter Eetg.func11, Eetg.ntmps11
    go_wp2_with fail
    all_goals (go_ret; exact ⟨⟨_, rfl, fun h => by cases h⟩, rfl⟩)

set_option maxRecDepth 100000 in
set_option maxHeartbeats 1000000 in
theorem bytes17_any (a0 a1 a2 a3 : Option Addr) (l0 c0 l1 c1 l2 c2 l3 c3 : Nat) (ss : Nat → ByteArray) (w : World) (h0 : l0 ≤ maxLen) (h1 : l1 ≤ maxLen) (h2 : l2 ≤ maxLen) (h3 : l3 ≤ maxLen)
    (hs : ∀ i, (ss i).size ≤ maxLen) (hr : Reads w w.heap.size a3 l3 (fun i => .string (ss i))) :
    Calls Eetg.prog 17 #[.slice a0 l0 c0, .slice a1 l1 c1, .slice a2 l2 c2, .slice a3 l3 c3] w fun e w' => IsBool ss l3 e ∧ w' = w := by
  unfold maxLen at h0 h1 h2 h3 hs
  by_cases ht : l0 + l1 + l2 + l3 ≤ 1048576
  · have d0 : decide ((1048576 : Int) < l0) = false := by simp; omega
    have d1 : decide ((1048576 : Int) < l1) = false := by simp; omega
    have d2 : decide ((1048576 : Int) < l2) = false := by simp; omega
    have d3 : decide ((1048576 : Int) < l3) = false := by simp; omega
    have d4 : decide ((1048576 : Int) < (l0 : Int) + l1) = false := by simp; omega
    have d5 : decide ((1048576 : Int) < (l0 : Int) + l1 + l2) = false := by simp; omega
    have d6 : decide ((1048576 : Int) < (l0 : Int) + l1 + l2 + l3) = false := by simp; omega
    go_enter Eetg.func17, Eetg.ntmps17
    go_wp2_with fail
    go_loop [9, 10] (fun z i => ∃ (y k : Nat), y ≤ 1048576 ∧ tot ss k ≤ y ∧ k ≤ l3 ∧ z = .int .i64 y ∧ i = .int .i64 k) (fun _ i => l3 - (intOf i).toNat)
    case atStart => exact ⟨l0 + l1 + l2 + l3, 0, ht, Nat.zero_le _, Nat.zero_le _, by go_num, rfl⟩
    case round =>
      obtain ⟨y, k, hy, hty, hk, rfl, rfl⟩ := hrel
      by_cases hlt : k < l3
      · obtain ⟨b, off, rfl, hb, hc⟩ := hr k hlt
        have hc' : w.cell? ⟨b, off + k, none⟩ = some (.string (ss k)) := hc
        have hsk := hs k
        have HT : Hid (tot ss (k + 1) = tot ss k + (ss k).size) := rfl
        generalize ss k = s at hc' hsk HT
        clear hr hc hs
        by_cases e1 : s.size ≤ 1048576
        · by_cases e2 : y + s.size ≤ 1048576
          · have x1 : decide ((1048576 : Int) < s.size) = false := by simp; omega
            have x2 : decide ((1048576 : Int) < (y : Int) + s.size) = false := by simp; omega
            go_wp2_with fail
            go_round
            case rel => exact ⟨y + s.size, k + 1, e2, by rw [HT.out]; omega, by omega, by go_num, by go_num⟩
            case measure => simp [intOf]; omega
          · have x1 : decide ((1048576 : Int) < s.size) = false := by simp; omega
            have x2 : decide ((1048576 : Int) < (y : Int) + s.size) = true := by simp; omega
            go_wp2_with fail
            go_ret
            exact ⟨⟨_, rfl, fun h => by cases h⟩, rfl⟩
        · have x1 : decide ((1048576 : Int) < s.size) = true := by simp; omega
          go_wp2_with fail
          go_ret
          exact ⟨⟨_, rfl, fun h => by cases h⟩, rfl⟩
      · have hkl : k = l3 := by omega
        have HK : Hid (tot ss l3 ≤ 1048576) := by rw [← hkl]; exact Nat.le_trans hty hy
        clear hkl
        go_wp2_with fail
        go_ret
        exact ⟨⟨_, rfl, fun _ => HK.out⟩, rfl⟩
  · go_enter Eetg.func17, Eetg.ntmps17
    go_wp2_with fail
    all_goals (go_ret; exact ⟨⟨_, rfl, fun h => by cases h⟩, rfl⟩)

set_option maxRecDepth 100000 in
set_option maxHeartbeats 1000000 in
theorem bytes19_any (a0 a1 a2 a3 : Option Addr) (l0 c0 l1 c1 l2 c2 l3 c3 : Nat) (ss : Nat → ByteArray) (w : World) (h0 : l0 ≤ maxLen) (h1 : l1 ≤ maxLen) (h2 : l2 ≤ maxLen) (h3 : l3 ≤ maxLen)
    (hs : ∀ i, (ss i).size ≤ maxLen) (hr : Reads w w.heap.size a3 l3 (fun i => .string (ss i))) :
    Calls Eetg.prog 19 #[.slice a0 l0 c0, .slice a1 l1 c1, .slice a2 l2 c2, .slice a3 l3 c3] w fun e w' => IsBool ss l3 e ∧ w' = w := by
  unfold maxLen at h0 h1 h2 h3 hs
  by_cases ht : l0 + l1 + l2 + l3 ≤ 1048576
  · have d0 : decide ((1048576 : Int) < l0) = false := by simp; omega
    have d1 : decide ((1048576 : Int) < l1) = false := by simp; omega
    have d2 : decide ((1048576 : Int) < l2) = false := by simp; omega
    have d3 : decide ((1048576 : Int) < l3) = false := by simp; omega
    have d4 : decide ((1048576 : Int) < (l0 : Int) + l1) = false := by simp; omega
    have d5 : decide ((1048576 : Int) < (l0 : Int) + l1 + l2) = false := by simp; omega
    have d6 : decide ((1048576 : Int) < (l0 : Int) + l1 + l2 + l3) = false := by simp; omega
    go_enter Eetg.func19, Eetg.ntmps19
    go_wp2_with fail
    go_loop [9, 10] (fun z i => ∃ (y k : Nat), y ≤ 1048576 ∧ tot ss k ≤ y ∧ k ≤ l3 ∧ z = .int .i64 y ∧ i = .int .i64 k) (fun _ i => l3 - (intOf i).toNat)
    case atStart => exact ⟨l0 + l1 + l2 + l3, 0, ht, Nat.zero_le _, Nat.zero_le _, by go_num, rfl⟩
    case round =>
      obtain ⟨y, k, hy, hty, hk, rfl, rfl⟩ := hrel
      by_cases hlt : k < l3
      · obtain ⟨b, off, rfl, hb, hc⟩ := hr k hlt
        have hc' : w.cell? ⟨b, off + k, none⟩ = some (.string (ss k)) := hc
        have hsk := hs k
        have HT : Hid (tot ss (k + 1) = tot ss k + (ss k).size) := rfl
        generalize ss k = s at hc' hsk HT
        clear hr hc hs
        by_cases e1 : s.size ≤ 1048576
        · by_cases e2 : y + s.size ≤ 1048576
          · have x1 : decide ((1048576 : Int) < s.size) = false := by simp; omega
            have x2 : decide ((1048576 : Int) < (y : Int) + s.size) = false := by simp; omega
            go_wp2_with fail
            go_round
            case rel => exact ⟨y + s.size, k + 1, e2, by rw [HT.out]; omega, by omega, by go_num, by go_num⟩
            case measure => simp [intOf]; omega
          · have x1 : decide ((1048576 : Int) < s.size) = false := by simp; omega
            have x2 : decide ((1048576 : Int) < (y : Int) + s.size) = true := by simp; omega
            go_wp2_with fail
            go_ret
            exact ⟨⟨_, rfl, fun h => by cases h⟩, rfl⟩
        · have x1 : decide ((1048576 : Int) < s.size) = true := by simp; omega
          go_wp2_with fail
          go_ret
          exact ⟨⟨_, rfl, fun h => by cases h⟩, rfl⟩
      · have hkl : k = l3 := by omega
        have HK : Hid (tot ss l3 ≤ 1048576) := by rw [← hkl]; exact Nat.le_trans hty hy
        clear hkl
        go_wp2_with fail
        go_ret
        exact ⟨⟨_, rfl, fun _ => HK.out⟩, rfl⟩
  · go_enter Eetg.func19, Eetg.ntmps19
    go_wp2_with fail
    all_goals (go_ret; exact ⟨⟨_, rfl, fun h => by cases h⟩, rfl⟩)

set_option maxRecDepth 100000 in
set_option maxHeartbeats 1000000 in
theorem bytes25_any (a0 a3 : Option Addr) (l0 c0 l3 c3 : Nat) (ss : Nat → ByteArray) (w : World) (h0 : l0 ≤ maxLen) (h3 : l3 ≤ maxLen)
    (hs : ∀ i, (ss i).size ≤ maxLen) (hr : Reads w w.heap.size a3 l3 (fun i => .string (ss i))) :
    Calls Eetg.prog 25 #[.slice a0 l0 c0, .slice a3 l3 c3] w fun e w' => IsBool ss l3 e ∧ w' = w := by
  unfold maxLen at h0 h3 hs
  by_cases ht : l0 + l3 ≤ 1048576
  · have d0 : decide ((1048576 : Int) < l0) = false := by simp; omega
    have d3 : decide ((1048576 : Int) < l3) = false := by simp; omega
    have d6 : decide ((1048576 : Int) < (l0 : Int) + l3) = false := by simp; omega
    go_enter Eetg.func25, Eetg.ntmps25
    go_wp2_with fail
    go_loop [5, 6] (fun z i => ∃ (y k : Nat), y ≤ 1048576 ∧ tot ss k ≤ y ∧ k ≤ l3 ∧ z = .int .i64 y ∧ i = .int .i64 k) (fun _ i => l3 - (intOf i).toNat)
    case atStart => exact ⟨l0 + l3, 0, ht, Nat.zero_le _, Nat.zero_le _, by go_num, rfl⟩
    case round =>
      obtain ⟨y, k, hy, hty, hk, rfl, rfl⟩ := hrel
      by_cases hlt : k < l3
      · obtain ⟨b, off, rfl, hb, hc⟩ := hr k hlt
        have hc' : w.cell? ⟨b, off + k, none⟩ = some (.string (ss k)) := hc
        have hsk := hs k
        have HT : Hid (tot ss (k + 1) = tot ss k + (ss k).size) := rfl
        generalize ss k = s at hc' hsk HT
        clear hr hc hs
        by_cases e1 : s.size ≤ 1048576
        · by_cases e2 : y + s.size ≤ 1048576
          · have x1 : decide ((1048576 : Int) < s.size) = false := by simp; omega
            have x2 : decide ((1048576 : Int) < (y : Int) + s.size) = false := by simp; omega
            go_wp2_with fail
            go_round
            case rel => exact ⟨y + s.size, k + 1, e2, by rw [HT.out]; omega, by omega, by go_num, by go_num⟩
            case measure => simp [intOf]; omega
          · have x1 : decide ((1048576 : Int) < s.size) = false := by simp; omega
            have x2 : decide ((1048576 : Int) < (y : Int) + s.size) = true := by simp; omega
            go_wp2_with fail
            go_ret
            exact ⟨⟨_, rfl, fun h => by cases h⟩, rfl⟩
        · have x1 : decide ((1048576 : Int) < s.size) = true := by simp; omega
          go_wp2_with fail
          go_ret
          exact ⟨⟨_, rfl, fun h => by cases h⟩, rfl⟩
      · have hkl : k = l3 := by omega
        have HK : Hid (tot ss l3 ≤ 1048576) := by rw [← hkl]; exact Nat.le_trans hty hy
        clear hkl
        go_wp2_with fail
        go_ret
        exact ⟨⟨_, rfl, fun _ => HK.out⟩, rfl⟩
  · go_enter Eetg.func25, Eetg.ntmps25
    go_wp2_with fail
    all_goals (go_ret; exact ⟨⟨_, rfl, fun h => by cases h⟩, rfl⟩)

end Go.Proofs.Yoeetw
