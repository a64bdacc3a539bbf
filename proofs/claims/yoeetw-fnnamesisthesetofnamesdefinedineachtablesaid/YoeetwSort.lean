import Derived.Test.YoeetwOrd
import Derived.Test.YoeetwNames
import Derived.Test.YoeetwBuiltin
import Derived.Laws.Cover1
namespace Go.Proofs.Yoeetw
open Go.RowKit

/-! zzSortStrings. -/

def strs (a : Nat → ByteArray) : Nat → Value := fun j => .string (a j)

theorem strs_set {w w' : World} {b n cap k : Nat} {M : Nat → ByteArray} {v : ByteArray} (h : Row w b 9 n cap (strs M)) (hk : k < n) (hw : w' = w.setCell ⟨b, k, none⟩ (.string v)) :
    Row w' b 9 n cap (strs (seth M k v)) ∧ Frm (fun x => x = b) w w' ∧ w'.heap.size = w.heap.size := by
  subst hw
  refine ⟨(h.store hk (.string v)).congr fun j _ => ?_, (Frm.refl (fun x => x = b) w).setCell rfl _, by simp [World.setCell]⟩
  unfold setf strs seth
  by_cases e : j = k
  · rw [if_pos e, if_pos e]
  · rw [if_neg e, if_neg e]

set_option maxRecDepth 100000 in
set_option maxHeartbeats 2000000 in
theorem sort_any (b n cap : Nat) (a : Nat → ByteArray) (w : World) (hn : n ≤ 5000) (hr : Row w b 9 n cap (strs a)) :
    Calls Eetg.prog 21 #[.slice (some ⟨b, 0, none⟩) n cap] w fun e w' => e = .returned (.tuple #[]) ∧ ∃ a', Row w' b 9 n cap (strs a') ∧ (∀ p q, p < q → q < n → sle (a' p) (a' q)) ∧ PermF n a a' ∧ Frm (fun x => x = b) w w' ∧ w'.heap.size = w.heap.size := by
  obtain ⟨i9, hi9, hz9, hs9, hb9⟩ := info_parts info9
  go_enter Eetg.func21, Eetg.ntmps21
  go_wp2_with fail
  go_loopw [2] (fun i wr => ∃ (k : Nat) (M : Nat → ByteArray), 1 ≤ k ∧ i = .int .i64 k ∧ k ≤ 5001 ∧ Row wr b 9 n cap (strs M) ∧ (∀ p q, p < q → q < k → sle (M p) (M q)) ∧ PermF n a M ∧ Frm (fun x => x = b) w wr ∧ wr.heap.size = w.heap.size) (fun i _ => n - (intOf i).toNat)
  case atStart => exact ⟨1, a, Nat.le_refl _, rfl, by omega, hr, fun p q h1 h2 => by omega, PermF.refl _ _, Frm.refl _ _, rfl⟩
  case round =>
    obtain ⟨k, M, hk1, rfl, hk5, hrow, hso, hpe, hfr, hsz⟩ := hrel
    clear hr
    by_cases hlt : k < n
    · have HI : Ins n a M (M k) k k := Ins.start hso hpe
      have ck := hrow.cell hlt
      unfold strs at ck
      generalize M k = v at HI ck
      have i0 : (0 : Int) ≤ k := by omega
      have i1 : (k : Int) < n := by omega
      clear hso hpe
      obtain ⟨w3, rfl⟩ : ∃ x, x = wr := ⟨wr, rfl⟩
      go_wp2_with fail
      go_loopw [4] (fun j wr => ∃ (r : Nat) (M : Nat → ByteArray) (z : Int), r ≤ k ∧ j = .int .i64 z ∧ z = (r : Int) - 1 ∧ Row wr b 9 n cap (strs M) ∧ Ins n a M v k r ∧ Frm (fun x => x = b) w wr ∧ wr.heap.size = w.heap.size) (fun j _ => (intOf j + 1).toNat)
      case atStart => exact ⟨k, M, (k : Int) - 1, Nat.le_refl _, by go_num, rfl, hrow, HI, hfr, hsz⟩
      case round =>
        obtain ⟨r, M2, z, hr, rfl, hz, hrow2, HI2, hfr2, hsz2⟩ := hrel
        clear hrow HI hfr hsz ck
        have fin : ∀ w4, Hid (w4 = wr.setCell ⟨b, r, none⟩ (.string v)) → (∀ j, r = j + 1 → sle (M2 j) v) → Hid (Row w4 b 9 n cap (strs (seth M2 r v)) ∧ ((∀ p q, p < q → q < k + 1 → sle (seth M2 r v p) (seth M2 r v q)) ∧ PermF n a (seth M2 r v)) ∧ Frm (fun x => x = b) w w4 ∧ w4.heap.size = w.heap.size) := by
          intro w4 e4 hlo
          obtain ⟨q1, q2, q3⟩ := strs_set hrow2 (by omega) e4.out
          exact ⟨q1, HI2.done hlo hr, hfr2.trans q2, q3.trans hsz2⟩
        have FIN : Hid (∀ w4, Hid (w4 = wr.setCell ⟨b, r, none⟩ (.string v)) → (∀ j, r = j + 1 → sle (M2 j) v) → Hid (Row w4 b 9 n cap (strs (seth M2 r v)) ∧ ((∀ p q, p < q → q < k + 1 → sle (seth M2 r v p) (seth M2 r v q)) ∧ PermF n a (seth M2 r v)) ∧ Frm (fun x => x = b) w w4 ∧ w4.heap.size = w.heap.size)) := fin
        clear fin
        by_cases hr0 : r = 0
        · subst hr0
          have hz' : z = -1 := by omega
          subst hz'
          have cr := hrow2.cell (j := 0) (by omega)
          have cf := hrow2.frozen 0
          clear hz
          go_wp2_with (first
            | (refine wpList_store1 rfl _ _ 9 rfl i9 hi9 hs9 ⟨b, 0, none⟩ (.string v) _ rfl rfl rfl rfl cr cf ?_
               intro w4 e4
               have F4 := FIN.out w4 e4 (fun j hj => by omega)
               clear e4 cr cf))
          obtain ⟨q1, ⟨q2, q3⟩, q4, q5⟩ := F4.out
          go_roundw
          case rel => exact ⟨k + 1, _, by omega, by go_num, by omega, q1, q2, q3, q4, q5⟩
          case measure => simp [intOf]; omega
        · obtain ⟨j, rfl⟩ : ∃ j, r = j + 1 := ⟨r - 1, by omega⟩
          have hz' : z = (j : Int) := by omega
          subst hz'
          have cj := hrow2.cell (j := j) (by omega)
          unfold strs at cj
          have cr := hrow2.cell (j := j + 1) (by omega)
          have cf := hrow2.frozen (j + 1)
          have i2 : (0 : Int) ≤ j := by omega
          have i3 : (j : Int) < n := by omega
          clear hz hr0
          by_cases hle : sle (M2 j) v
          · have x1 := sle_of_gt_false.1 hle
            have HLE : Hid (sle (M2 j) v) := hle
            clear hle
            go_wp2_with (first
              | (refine wpList_store1 rfl _ _ 9 rfl i9 hi9 hs9 ⟨b, j + 1, none⟩ (.string v) _ rfl rfl rfl rfl cr cf ?_
                 intro w4 e4
                 have F4 := FIN.out w4 e4 (fun j' hj => by have : j' = j := by omega
                                                           rw [this]; exact HLE.out)
                 clear e4 cr cf))
            obtain ⟨q1, ⟨q2, q3⟩, q4, q5⟩ := F4.out
            go_roundw
            case rel => exact ⟨k + 1, _, by omega, by go_num, by omega, q1, q2, q3, q4, q5⟩
            case measure => simp [intOf]; omega
          · have x1 : (!(Op.bytesLess (M2 j).toList v.toList || (M2 j).toList == v.toList)) = true := by
              rw [← Bool.not_eq_false]
              exact fun e => hle (sle_of_gt_false.2 e)
            have NX := HI2.step hlt hr hle
            clear hle FIN
            go_wp2_with (first
              | (refine wpList_store1 rfl _ _ 9 rfl i9 hi9 hs9 ⟨b, j + 1, none⟩ (.string (M2 j)) _ rfl rfl rfl rfl cr cf ?_
                 intro w4 e4
                 have F4 := strs_set hrow2 (by omega) e4.out
                 clear e4 cr cf))
            obtain ⟨q1, q2, q3⟩ := F4
            go_roundw
            case rel => exact ⟨j, _, (j : Int) - 1, by omega, by go_num, rfl, q1, NX, hfr2.trans q2, q3.trans hsz2⟩
            case measure => simp [intOf]
    · have HS : Hid (∀ p q, p < q → q < n → sle (M p) (M q)) := fun p q h1 h2 => hso p q h1 (by omega)
      clear hso
      go_wp2_with fail
      go_end0
      exact ⟨rfl, M, hrow, HS.out, hpe, hfr, hsz⟩

end Go.Proofs.Yoeetw
