import Derived.Test.YoeetwTabs
import Derived.Test.YoeetwStore
import Derived.Deep.AppendLies
import Derived.Maps.RangeWalk
import Derived.Test.YoeetwTab
import Derived.Laws.IdiomRangeMap
import Derived.WalkSpells
namespace Go.Proofs.Yoeetw
open Go.RowKit Go.MapKept
open Go.ChangeMaps (setBlock)

/-! Names: a range over a map, its keys gathered. -/

/-- The iterator in block r over the map in block b has handed out just the keys L. -/
structure Rng (w : World) (b r : Nat) (es : Array MapEntry) (clock : Nat) (seen : Array Nat) (L : List ByteArray) : Prop where
  map : w.heap[b]? = some (.map es clock)
  it : ∃ c0, clock ≤ c0 ∧ w.heap[r]? = some (.mapIter (some b) clock seen c0)
  keys : ∀ s, s ∈ L ↔ ∃ x ∈ es.toList, x.key = .string s ∧ x.born ∈ seen.toList
  nodup : L.Nodup
  st : Stamped es clock
  ks : ∀ x ∈ es.toList, IsKey .string x.key

def rngLeft (w : World) (b r : Nat) : Nat :=
  match w.heap[b]?, w.heap[r]? with
  | some (.map es _), some (.mapIter _ _ seen _) => (leftOf es seen).size
  | _, _ => 0

section
variable {P : Program} {w : World} {b r : Nat} {es : Array MapEntry} {clock : Nat} {seen : Array Nat} {L : List ByteArray}

theorem Rng.left (h : Rng w b r es clock seen L) : rngLeft w b r = (leftOf es seen).size := by
  obtain ⟨c0, _, hr⟩ := h.it
  unfold rngLeft
  rw [h.map, hr]

theorem Rng.frm {own : Nat → Prop} {w' : World} (h : Rng w b r es clock seen L) (hf : Frm own w w') (hb : ¬ own b) (hr : ¬ own r) : Rng w' b r es clock seen L := by
  obtain ⟨c0, h0, h1⟩ := h.it
  exact ⟨(hf.block b (Array.getElem?_eq_some_iff.1 h.map).1 hb).trans h.map, ⟨c0, h0, (hf.block r (Array.getElem?_eq_some_iff.1 h1).1 hr).trans h1⟩, h.keys, h.nodup, h.st, h.ks⟩

theorem left_less {e : MapEntry} (he : e ∈ (leftOf es seen).toList) : (leftOf es (seen.push e.born)).size < (leftOf es seen).size := by
  have h1 : leftOf es (seen.push e.born) = (leftOf es seen).filter (fun x => !(x.born == e.born)) := by
    unfold leftOf
    rw [Array.filter_filter]
    congr 1
    funext x
    simp only [Array.contains_push]
    cases seen.contains x.born <;> cases h : (x.born == e.born) <;> simp_all
  have h3 : (leftOf es (seen.push e.born)).toList = (leftOf es seen).toList.filter (fun x => !(x.born == e.born)) := by
    rw [h1]; simp
  rw [← Array.length_toList, ← Array.length_toList, h3]
  have h2 : ∀ (l : List MapEntry), e ∈ l → (l.filter (fun x => !(x.born == e.born))).length < l.length := by
    intro l
    induction l with
    | nil => intro h; cases h
    | cons y l ih =>
      intro h
      cases h with
      | head =>
        simp only [List.filter_cons, beq_self_eq_true, Bool.not_true, Bool.false_eq_true, if_false, List.length_cons]
        have := List.length_filter_le (fun x : MapEntry => !(x.born == e.born)) l
        omega
      | tail _ h =>
        have := ih h
        simp only [List.filter_cons]
        split <;> simp only [List.length_cons] <;> omega
  exact h2 _ he

theorem mem_left {e : MapEntry} : e ∈ (leftOf es seen).toList ↔ e ∈ es.toList ∧ e.born ∉ seen.toList := by
  unfold leftOf
  simp

/-- One step of the range. -/
theorem wpList_next_is {ops : Array Oper} {rest : List Oper} {o : Oper} {a : Act} {Q : Exit → Act → World → Prop} (hg : o.guard = none) (it : Operand) (hop : o.op = Op.next it false) (hne : b ≠ r)
    (hit : a.eval it = .pointer (some ⟨r, 0, none⟩)) (h : Rng w b r es clock seen L)
    (hDone : (∀ x ∈ es.toList, x.born ∈ seen.toList) → wpList P ops Q rest (a.put o.dst (.tuple #[.bool false])) w)
    (hMore : ∀ (s : ByteArray) (v : Value) (e : MapEntry) (w' : World), Rng w' b r es clock (seen.push e.born) (L ++ [s]) → Frm (fun k => k = r) w w' → w'.heap.size = w.heap.size → (leftOf es (seen.push e.born)).size < (leftOf es seen).size →
      (Instr.entry (.pointer (some ⟨r, 0, none⟩))).run P w' = .ok (.tuple #[.string s, v]) w' → wpList P ops Q rest (a.put o.dst (.tuple #[.bool true, .string s, v])) w') :
    wpList P ops Q (o :: rest) a w := by
  refine wpList_plain hg fun K' hK' => ?_
  obtain ⟨c0, hc0, hr⟩ := h.it
  unfold Oper.wp
  rcases run_next_at (P := P) w o.type r b clock c0 seen es clock hr h.map h.st.1 hc0 with ⟨h0, hrun⟩ | ⟨e, he, w1, hw1, hrun⟩
  · simp [execOp, hop, hit, hrun, Result.andThen]
    refine hK' _ _ (hDone fun x hx => ?_)
    by_cases hxs : x.born ∈ seen.toList
    · exact hxs
    · have := mem_left.2 ⟨hx, hxs⟩
      have hl : (leftOf es seen).toList = [] := List.eq_nil_of_length_eq_zero (by simpa using h0)
      rw [hl] at this; cases this
  · obtain ⟨he1, he2⟩ := mem_left.1 he
    obtain ⟨s, hs⟩ : ∃ s, e.key = .string s := by
      have := h.ks e he1
      cases hk : e.key <;> rw [hk] at this <;> simp [IsKey] at this
      exact ⟨_, rfl⟩
    have hheap : w1.heap = w.heap := by rcases hw1 with rfl | rfl <;> rfl
    have hrl : r < w1.heap.size := by rw [hheap]; exact (Array.getElem?_eq_some_iff.1 hr).1
    have g1 : (setBlock w1 r (.mapIter (some b) clock (seen.push e.born) clock)).heap[r]? = some (.mapIter (some b) clock (seen.push e.born) clock) := by
      simp [setBlock, hrl]
    have g2 : ∀ k, k ≠ r → (setBlock w1 r (.mapIter (some b) clock (seen.push e.born) clock)).heap[k]? = w.heap[k]? := by
      intro k hk
      rw [← hheap]; simp [setBlock, Ne.symm hk]
    have hb' := (g2 b hne).trans h.map
    have hen := run_entry_at (P := P) (setBlock w1 r (.mapIter (some b) clock (seen.push e.born) clock)) r b clock seen es clock e g1 hb' he1 h.st.2.1
    rw [hs] at hen
    rw [hs] at hrun
    simp [execOp, hop, hit, hrun, Result.andThen]
    refine hK' _ _ (hMore s e.val e _ ⟨hb', ⟨clock, Nat.le_refl _, g1⟩, fun t => ?_, ?_, h.st, h.ks⟩ ⟨?_, ?_, ?_, ?_, fun k _ hk => g2 k hk⟩ ?_ (left_less he) hen)
    · simp only [List.mem_append, List.mem_singleton, Array.toList_push]
      constructor
      · rintro (ht | rfl)
        · obtain ⟨x, x1, x2, x3⟩ := (h.keys t).1 ht
          exact ⟨x, x1, x2, Or.inl x3⟩
        · exact ⟨e, he1, hs, Or.inr rfl⟩
      · rintro ⟨x, x1, x2, x3 | x3⟩
        · exact Or.inl ((h.keys t).2 ⟨x, x1, x2, x3⟩)
        · right
          have hxe : x = e := by
            have hn := h.st.2.1
            obtain ⟨i, hi⟩ := List.getElem?_of_mem x1
            obtain ⟨j, hj⟩ := List.getElem?_of_mem he1
            have a1 : (es.toList.map (·.born))[i]? = some e.born := by rw [List.getElem?_map, hi]; simp [x3]
            have a2 : (es.toList.map (·.born))[j]? = some e.born := by rw [List.getElem?_map, hj]; rfl
            have hij := (List.getElem?_inj (by have := (List.getElem?_eq_some_iff.1 a1).1; exact this) hn).1 (a1.trans a2.symm)
            rw [hij, hj] at hi
            simpa using hi.symm
          rw [hxe, hs] at x2
          simpa using x2.symm
    · rw [List.nodup_append]
      refine ⟨h.nodup, by simp, fun x hx y hy => ?_⟩
      simp only [List.mem_singleton] at hy
      intro hxy
      rw [hxy, hy] at hx
      obtain ⟨z, z1, z2, z3⟩ := (h.keys s).1 hx
      have hze : z.key = e.key := by rw [z2, hs]
      have hn := h.st.2.2
      obtain ⟨i, hi⟩ := List.getElem?_of_mem z1
      obtain ⟨j, hj⟩ := List.getElem?_of_mem he1
      have a1 : (es.toList.map (·.key))[i]? = some e.key := by rw [List.getElem?_map, hi]; simp [hze]
      have a2 : (es.toList.map (·.key))[j]? = some e.key := by rw [List.getElem?_map, hj]; rfl
      have hij := (List.getElem?_inj (by have := (List.getElem?_eq_some_iff.1 a1).1; exact this) hn).1 (a1.trans a2.symm)
      rw [hij, hj] at hi
      have : e = z := by simpa using hi
      rw [← this] at z3
      exact he2 z3
    · rcases hw1 with rfl | rfl <;> rfl
    · rcases hw1 with rfl | rfl <;> rfl
    · rcases hw1 with rfl | rfl <;> rfl
    · simp [setBlock, hheap]
    · simp [setBlock, hheap]

/-- 'range m'. -/
theorem wpList_range_is {ops : Array Oper} {rest : List Oper} {o : Oper} {a : Act} {Q : Exit → Act → World → Prop} (hg : o.guard = none) (m : Operand) (t : TypeId) (hop : o.op = Op.range t m) (k e : TypeId) (ht : P.underlying t = some (.map k e))
    (hm : a.eval m = .map (some b)) (hb : w.heap[b]? = some (.map es clock)) (hs : Stamped es clock) (hk : ∀ x ∈ es.toList, IsKey .string x.key)
    (hK : ∀ w', Rng w' b w.heap.size es clock #[] [] → Frm (fun _ => False) w w' → w'.heap.size = w.heap.size + 1 → wpList P ops Q rest (a.put o.dst (.pointer (some ⟨w.heap.size, 0, none⟩))) w') :
    wpList P ops Q (o :: rest) a w := by
  refine wpList_plain hg fun K' hK' => ?_
  have hrun := run_range_map (P := P) w t k e b es clock ht hb
  unfold Oper.wp
  simp [execOp, hop, hm, hrun, Result.andThen]
  refine hK' _ _ (hK _ ⟨(Below.heap_alloc _ _ _ (Array.getElem?_eq_some_iff.1 hb).1).trans hb, ⟨clock, Nat.le_refl _, heap_alloc_new w _⟩, ?_, List.nodup_nil, hs, hk⟩ ((Frm.refl _ _).alloc _) (by simp))
  intro s
  simp

end

theorem len_le_sub {α : Type} [DecidableEq α] : ∀ (L D : List α), L.Nodup → (∀ x ∈ L, x ∈ D) → L.length ≤ D.length := by
  intro L
  induction L with
  | nil => intro D _ _; simp
  | cons x L ih =>
    intro D hn hs
    have hx := hs x (by simp)
    have h1 := ih (D.erase x) (List.nodup_cons.1 hn).2 (fun y hy => (List.mem_erase_of_ne (fun e : y = x => (List.nodup_cons.1 hn).1 (e ▸ hy))).2 (hs y (by simp [hy])))
    rw [List.length_erase_of_mem hx] at h1
    have : 0 < D.length := List.length_pos_of_mem hx
    simp only [List.length_cons]; omega

theorem info9 : (Eetg.prog.info? 9).map (fun i => (i.zero, i.size, i.bytes)) = some (some (.string ⟨#[]⟩), 1, 16) := by kernel_rfl

theorem Rng.grown {w w' : World} {b r : Nat} {es : Array MapEntry} {clock : Nat} {seen : Array Nat} {L : List ByteArray} {v : Value} {base n : Nat} {xs : List Value} (h : Rng w b r es clock seen L) (ho : w.ownsRow base 9 1 v n xs) (hg : w.grownBy w' v.ownBlock) : Rng w' b r es clock seen L := by
  obtain ⟨c0, h0, h1⟩ := h.it
  have key : ∀ k, some k = v.ownBlock → ∃ c f, w.heap[k]? = some (.cells c 9 f) := by
    intro k hk
    rcases ho.2 with ⟨e, _⟩ | ⟨g, cap, cur, e, _, hg, _⟩
    · rw [e] at hk; simp [Value.ownBlock] at hk
    · rw [e] at hk; simp [Value.ownBlock] at hk; subst hk; exact ⟨_, _, hg⟩
  refine ⟨(hg.block b (Array.getElem?_eq_some_iff.1 h.map).1 (fun x => ?_)).trans h.map, ⟨c0, h0, (hg.block r (Array.getElem?_eq_some_iff.1 h1).1 (fun x => ?_)).trans h1⟩, h.keys, h.nodup, h.st, h.ks⟩
  · obtain ⟨c, f, hx⟩ := key _ x
    rw [h.map] at hx; cases hx
  · obtain ⟨c, f, hx⟩ := key _ x
    rw [h1] at hx; cases hx

theorem Frm.of_grown {w0 w w' : World} {v : Value} {n : Nat} {xs : List Value} {e : TypeId} (hf : Frm (fun _ => False) w0 w) (ho : w.ownsRow w0.heap.size e 1 v n xs) (hg : w.grownBy w' v.ownBlock) : Frm (fun _ => False) w0 w' := by
  refine ⟨hg.os.trans hf.os, hg.tape.trans hf.tape, hg.output.trans hf.output, Nat.le_trans hf.size hg.size, fun k hk ho' => ?_⟩
  have h2 := hf.size
  rw [hg.block k (by omega) (fun x => ?_), hf.block k hk ho']
  rcases ho.2 with ⟨e, _⟩ | ⟨g, cap, cur, e, h3, hg, _⟩
  · rw [e] at x; simp [Value.ownBlock] at x
  · rw [e] at x; simp [Value.ownBlock] at x; omega

theorem owns_frm {w w' : World} {own : Nat → Prop} {base n : Nat} {e : TypeId} {v : Value} {xs : List Value} (h : w.ownsRow base e 1 v n xs) (hf : Frm own w w') (ho : ∀ g c f, w.heap[g]? = some (.cells c e f) → ¬ own g) : w'.ownsRow base e 1 v n xs := by
  refine ⟨h.1, ?_⟩
  rcases h.2 with h0 | ⟨g, cap, cur, hv, hbg, hg, r⟩
  · exact Or.inl h0
  · exact Or.inr ⟨g, cap, cur, hv, hbg, (hf.block g (Array.getElem?_eq_some_iff.1 hg).1 (ho g _ _ hg)).trans hg, r⟩

set_option maxRecDepth 100000 in
set_option maxHeartbeats 1000000 in
theorem names_any (w : World) (t b : Nat) (f : ByteArray → Option Nat) (D : List ByteArray) (c2 : w.cell? ⟨t, 2, none⟩ = some (.map (some b))) (hm : MapIs w b f) (hD : ∀ s, (f s).isSome → s ∈ D) (hDl : D.length ≤ 5000) :
    Calls Eetg.prog 23 #[.pointer (some ⟨t, 0, none⟩)] w fun e w' => ∃ (v : Value) (L : List ByteArray), e = .returned v ∧ w'.ownsRow w.heap.size 9 1 v L.length (L.map .string) ∧ L.Nodup ∧ (∀ s, s ∈ L ↔ (f s).isSome) ∧ Frm (fun _ => False) w w' := by
  obtain ⟨es, clock, hb, hst, hks, m1, m2⟩ := hm.ex
  obtain ⟨i0, hi, hz0, hz1, hz2⟩ := info_parts info9
  have hlen : ∀ (r : Nat) (wr : World) (seen : Array Nat) (L : List ByteArray), Rng wr b r es clock seen L → L.length ≤ 5000 := by
    intro r wr seen L h
    refine Nat.le_trans (len_le_sub L D h.nodup fun s hs => hD s ?_) hDl
    obtain ⟨x, x1, x2, _⟩ := (h.keys s).1 hs
    obtain ⟨p, p1, _⟩ := m1 x x1 s x2
    rw [p1]; rfl
  have hfin : ∀ (r : Nat) (wr : World) (seen : Array Nat) (L : List ByteArray), Rng wr b r es clock seen L → (∀ x ∈ es.toList, x.born ∈ seen.toList) → ∀ s, s ∈ L ↔ (f s).isSome := by
    intro r wr seen L h ha s
    rw [h.keys s]
    constructor
    · rintro ⟨x, x1, x2, _⟩
      obtain ⟨p, p1, _⟩ := m1 x x1 s x2
      rw [p1]; rfl
    · intro hs
      obtain ⟨p, hp⟩ := Option.isSome_iff_exists.1 hs
      obtain ⟨x, x1, x2⟩ := m2 s p hp
      exact ⟨x, x1, x2, ha x x1⟩
  have hbr : b ≠ w.heap.size := fun e => by have := (Array.getElem?_eq_some_iff.1 hb).1; omega
  have HLEN : Hid (∀ (r : Nat) (wr : World) (seen : Array Nat) (L : List ByteArray), Rng wr b r es clock seen L → L.length ≤ 5000) := hlen
  have HFIN : Hid (∀ (r : Nat) (wr : World) (seen : Array Nat) (L : List ByteArray), Rng wr b r es clock seen L → (∀ x ∈ es.toList, x.born ∈ seen.toList) → ∀ s, s ∈ L ↔ (f s).isSome) := hfin
  clear hlen hfin m1 m2 hD hDl hm
  go_enter Eetg.func23, Eetg.ntmps23
  go_wp2_with (first
    | (at_range
       go_must (refine wpList_range_is rfl _ 60 rfl 9 33 Eetg.underlying60 rfl hb hst hks ?_)
       intro w1 g1 f1 s1))
  go_frame
  clear hst hks c2
  go_loopw [3] (fun v wr => ∃ (seen : Array Nat) (L : List ByteArray), Rng wr b w.heap.size es clock seen L ∧ wr.ownsRow w.heap.size 9 1 v L.length (L.map .string) ∧ Frm (fun _ => False) w wr) (fun _ wr => rngLeft wr b w.heap.size)
  case atStart => exact ⟨#[], [], g1, World.ownsRow_nil _ _ _ _, f1⟩
  case round =>
    obtain ⟨seen, L, hr, ho, hf⟩ := hrel
    clear g1 f1 s1
    go_wp2_with (first
      | (at_next; go_must (refine wpList_next_is rfl _ rfl hbr rfl hr ?_ ?_)))
    · intro hall
      have HA : Hid (∀ x ∈ es.toList, x.born ∈ seen.toList) := by unfold Hid; simpa using hall
      clear hall
      go_wp2_with fail
      go_ret
      exact ⟨_, L, rfl, ho, hr.nodup, HFIN.out _ _ _ _ hr HA.out, hf⟩
    · intro s v e w2 hr2 f2 s2 hlt hen
      have HLT : Hid ((leftOf es (seen.push e.born)).size < (leftOf es seen).size) := hlt
      have hlL : (L ++ [s]).length ≤ 5000 := HLEN.out _ _ _ _ hr2
      rw [List.length_append, List.length_singleton] at hlL
      obtain ⟨c0, _, hit⟩ := hr.it
      have ho2 : w2.ownsRow w.heap.size 9 1 _ L.length (L.map .string) := owns_frm ho f2 (fun g c f hg e => by rw [e, hit] at hg; cases hg)
      have hf2 : Frm (fun _ => False) w w2 := ⟨f2.os.trans hf.os, f2.tape.trans hf.tape, f2.output.trans hf.output, Nat.le_trans hf.size f2.size, fun k hk _ => (f2.block k (Nat.lt_of_lt_of_le hk hf.size) (by omega)).trans (hf.block k hk (fun x => x))⟩
      have hw2 := hf2.size
      clear hlt hit hf ho f2 s2
      go_wp2_with (first
        | (at_builtin
           go_must (refine wpList_append_lies _ rfl _ _ 25 rfl w.heap.size 9 i0 _ 1 16 Eetg.underlying25 hi hz0 hz1 hz2 rfl (by omega) _ L.length (L.map .string) rfl (ho2.alloc _) ⟨w2.heap.size, 0, none⟩ 1 1 [.string s] rfl rfl (World.news_of_block (B := w2.heap.size) (cs := #[.string s]) (heap_alloc_new w2 _)) (by simp [Value.oneCell']) (by omega) (by unfold maxLen; omega) (by omega) (by simp; omega) (w2.heap.size + 1) (by simp) ?_)
           intro g cap w4 o4 g4 a4 l4
           clear a4 l4))
      have hr4 := (hr2.frm ((Frm.refl (fun _ => False) w2).alloc (.cells #[.string s] 9)) (fun x => x) (fun x => x)).grown (ho2.alloc _) g4
      have hf4 := Frm.of_grown (hf2.alloc _) (ho2.alloc _) g4
      go_roundw
      case rel => exact ⟨_, _, hr4, by simpa using o4, hf4⟩
      case measure => rw [hr4.left, hr.left]; exact HLT.out
end Go.Proofs.Yoeetw
