/- The map's iterator made; a test; Find, All, Any, walked. -/
import Derived.Test.YtdamfannmlncnaaEnds
namespace Go.Proofs.Ytdamfannmlncnaa
open Go.RowKit
set_option linter.unusedVariables false
set_option linter.unusedSimpArgs false
set_option maxHeartbeats 1600000
attribute [local go_sem ↓] Go.wp_at_zero Go.wp_at_succ

/-- A test: of the value or of the key; by which number it divides; what is left over. -/
def tobj (tb : Bool) (tm tr : Int) : Obj := .cells #[.bool tb, .int .i64 tm, .int .i64 tr] 70 (0, 0)
def holdsT (tb : Bool) (tm tr : Int) (e : Int × Int) : Bool := decide ((if tb = true then e.2 else e.1) % tm = tr)
def testV (qb : Nat) : Value := .func (.func 107) #[] #[.pointer (some ⟨qb, 0, none⟩)]
theorem tobj_cells {w : World} {qb : Nat} {tb : Bool} {tm tr : Int} (h : w.heap[qb]? = some (tobj tb tm tr)) : w.cell? ⟨qb, 0, none⟩ = some (.bool tb) ∧ w.cell? ⟨qb, 1, none⟩ = some (.int .i64 tm) ∧ w.cell? ⟨qb, 2, none⟩ = some (.int .i64 tr) := by
  refine ⟨?_, ?_, ?_⟩ <;> simp [World.cell?, h, tobj]

theorem beq_is (x y : Int) : (x == y) = decide (x = y) := by
  by_cases h : x = y
  · subst h; simp
  · rw [decide_eq_false h]; simpa using h

theorem test1_any {w : World} {qb : Nat} {tb : Bool} {tm tr : Int} (h : w.heap[qb]? = some (tobj tb tm tr)) (h1 : 1 ≤ tm) (h2 : tm ≤ 1000) (k v : Int) :
    Calls Try.prog 107 #[.iface 3 (.int .i64 k), .iface 3 (.int .i64 v), .pointer (some ⟨qb, 0, none⟩)] w fun e w' => e = .returned (.bool (holdsT tb tm tr (k, v))) ∧ ∃ j, w' = w.drewN j := by
  obtain ⟨c0, c1, c2⟩ := tobj_cells h
  clear h
  cases tb with
  | false =>
    obtain ⟨b, hb⟩ : ∃ b, (k % tm == tr) = b := ⟨_, rfl⟩
    have HB := hid (show holdsT false tm tr (k, v) = b by rw [← hb, beq_is]; rfl)
    have RS := hid (fun W => rest_any k tm h1 h2 W)
    clear h1 h2
    go_enter Try.func107, Try.ntmps107
    go_wp2_with (fail)
    go_quiet ((go_at_call 69; exact q_of (RS.out _)))
    go_wp2_with (fail)
    go_ret
    exact ⟨by rw [HB.out]; rfl, _, rfl⟩
  | true =>
    obtain ⟨b, hb⟩ : ∃ b, (v % tm == tr) = b := ⟨_, rfl⟩
    have HB := hid (show holdsT true tm tr (k, v) = b by rw [← hb, beq_is]; rfl)
    have RS := hid (fun W => rest_any v tm h1 h2 W)
    clear h1 h2
    go_enter Try.func107, Try.ntmps107
    go_wp2_with (fail)
    go_quiet ((go_at_call 69; exact q_of (RS.out _)))
    go_wp2_with (fail)
    go_ret
    exact ⟨by rw [HB.out]; rfl, _, rfl⟩

theorem test_any (tb : Bool) (tm tr : Int) (w : World) : Calls Try.prog 75 #[.agg #[.bool tb, .int .i64 tm, .int .i64 tr]] w fun e w' => e = .returned (testV w.heap.size) ∧ w.alloc (tobj tb tm tr) = w' := by
  go_enter Try.func75, Try.ntmps75
  go_wp2
  go_ret
  exact ⟨rfl, rfl⟩
theorem test_ex (tb : Bool) (tm tr : Int) (w : World) : Calls Try.prog 75 #[.agg #[.bool tb, .int .i64 tm, .int .i64 tr]] w fun e w' => ∃ qb, e = .returned (.func (.func 107) #[] #[.pointer (some ⟨qb, 0, none⟩)]) ∧ w'.heap[qb]? = some (tobj tb tm tr) ∧ Keep (fun _ => False) w w' := by
  refine (test_any tb tm tr w).mono ?_
  rintro e w' ⟨rfl, rfl⟩
  exact ⟨_, rfl, heap_new _ _ _ rfl, (Keep.refl _ _).alloc _⟩

theorem mapIterator_any {w : World} {mb tb : Nat} (h : w.heap[mb]? = some (mapObj tb)) :
    Calls Try.prog 61 #[.pointer (some ⟨mb, 0, none⟩)] w fun e w' => e = .returned (.agg #[.pointer (some ⟨tb, 0, none⟩), .pointer none, .int .u8 0]) ∧ Keep (fun _ => False) w w' := by
  have m0 := map_tree h
  have gA := cellA2 m0
  have K0 := hid (show Keep (fun _ => False) w (w.alloc (.cells #[.pointer none, .pointer none, .int .u8 0] 96)) from (Keep.refl _ _).alloc _)
  clear h
  go_enter Try.func61, Try.ntmps61
  go_wp2_with (fail)
  refine (treeIterator_any _ tb).mono ?_
  rintro e w1 ⟨rfl, hk⟩
  have K1 := hid hk
  have hblk : w1.heap[w.heap.size]? = some (.cells #[.pointer none, .pointer none, .int .u8 0] 96 (0, 0)) := hk.get (heap_alloc_new w _) id
  have z0 : w1.cell? ⟨w.heap.size, 0, none⟩ = some (.pointer none) := by simp [World.cell?, hblk]
  have z1 : w1.cell? ⟨w.heap.size, 1, none⟩ = some (.pointer none) := by simp [World.cell?, hblk]
  have z2 : w1.cell? ⟨w.heap.size, 2, none⟩ = some (.int .u8 0) := by simp [World.cell?, hblk]
  have pl : Plain w1 w.heap.size := ⟨_, _, hblk⟩
  clear hk hblk gA m0
  go_wp2_with (fail)
  refine bodyPost_ret (v := .agg #[.pointer (some ⟨tb, 0, none⟩), .pointer none, .int .u8 0]) (by simp [results, Try.results61, go_sem, z0, z1, z2]) rfl ?_
  exact ⟨rfl, (((K0.out.trans K1.out).freshSet (Nat.le_refl _) _ _).freshSet (Nat.le_refl _) _ _).freshSet (Nat.le_refl _) _ _⟩

/-- An iterator of a function's own over a map's tree. -/
structure WalkRel (w : World) (tb : Nat) (t : T) (ib p : Nat) (wr : World) : Prop where
  it : ItIn wr ib 96 tb t p
  keep : Keep (fun _ => False) w wr
theorem WalkRel.move {w wr w' : World} {tb ib p p' : Nat} {t : T} (h : WalkRel w tb t ib p wr) (hib : w.heap.size ≤ ib) (hi : ItIn w' ib 96 tb t p') (hk : Keep (fun i => i = ib) wr w') : WalkRel w tb t ib p' w' :=
  ⟨hi, h.keep.freshKeep hib hk⟩
theorem WalkRel.on {w wr w' : World} {tb ib p : Nat} {t : T} (h : WalkRel w tb t ib p wr) (hk : Keep (fun _ => False) wr w') : WalkRel w tb t ib p w' :=
  ⟨h.it.keep hk id, h.keep.trans hk⟩
/-- What a loop over a map's iterator needs at its head. -/
structure Head (w : World) (tb : Nat) (n : Int) (cv : Value) (t : T) (ib : Nat) : Prop where
  tree : TreeIn w tb n cv t
  fresh : w.heap.size ≤ ib
theorem Head.ne {w : World} {tb ib : Nat} {n : Int} {cv : Value} {t : T} (h : Head w tb n cv t ib) : ib ≠ tb := by have := lt_of_heap h.tree.head; have := h.fresh; omega
theorem Head.nm {w : World} {tb ib : Nat} {n : Int} {cv : Value} {t : T} (h : Head w tb n cv t ib) : ib ∉ t.ids := fun hx => by have := h.tree.lt hx; have := h.fresh; omega
section
variable {w wr : World} {tb ib p : Nat} {n : Int} {cv : Value} {t : T}
theorem step_next (hd : Head w tb n cv t ib) (h : WalkRel w tb t ib p wr) (hp : p < t.ents.length) :
    Calls Try.prog 92 #[.pointer (some ⟨ib, 0, none⟩)] wr fun e w' => e = .returned (.bool true) ∧ WalkRel w tb t ib (p + 1) w' := by
  have := mnext_any h.it (hd.tree.keep h.keep id (fun _ _ => id)) hd.ne hd.nm (by omega)
  refine this.mono ?_
  rintro e w' ⟨rfl, hi, hk⟩
  rw [show min (p + 1) (t.ents.length + 1) = p + 1 by omega] at hi
  exact ⟨by rw [decide_eq_true hp], h.move hd.fresh hi hk⟩
theorem step_end (hd : Head w tb n cv t ib) (h : WalkRel w tb t ib p wr) (hp : p = t.ents.length) :
    Calls Try.prog 92 #[.pointer (some ⟨ib, 0, none⟩)] wr fun e w' => e = .returned (.bool false) ∧ Keep (fun _ => False) w w' := by
  have := mnext_any h.it (hd.tree.keep h.keep id (fun _ _ => id)) hd.ne hd.nm (by omega)
  refine this.mono ?_
  rintro e w' ⟨rfl, hi, hk⟩
  exact ⟨by rw [decide_eq_false (by omega)], h.keep.freshKeep hd.fresh hk⟩
theorem step_key (hd : Head w tb n cv t ib) (h : WalkRel w tb t ib (p + 1) wr) {x : Nat} {k v : Int} (he : t.ents[p]? = some (x, k, v)) :
    Calls Try.prog 100 #[.pointer (some ⟨ib, 0, none⟩)] wr fun e w' => e = .returned (.iface 3 (.int .i64 k)) ∧ wr = w' := mkey_any h.it (hd.tree.keep h.keep id (fun _ _ => id)) he
theorem step_val (hd : Head w tb n cv t ib) (h : WalkRel w tb t ib (p + 1) wr) {x : Nat} {k v : Int} (he : t.ents[p]? = some (x, k, v)) :
    Calls Try.prog 101 #[.pointer (some ⟨ib, 0, none⟩)] wr fun e w' => e = .returned (.iface 3 (.int .i64 v)) ∧ wr = w' := mvalue_any h.it (hd.tree.keep h.keep id (fun _ _ => id)) he
theorem ents_at (hp : p < t.ents.length) : ∃ x k v, t.ents[p]? = some (x, k, v) ∧ t.toList.take (p + 1) = t.toList.take p ++ [(k, v)] ∧ t.toList[p]? = some (k, v) := by
  obtain ⟨⟨x, k, v⟩, he⟩ : ∃ e, t.ents[p] = e := ⟨_, rfl⟩
  have h1 : t.ents[p]? = some (x, k, v) := by rw [List.getElem?_eq_getElem hp, he]
  have h2 : t.toList[p]? = some (k, v) := by unfold T.toList; rw [List.getElem?_map, h1]; rfl
  refine ⟨x, k, v, h1, ?_, h2⟩
  obtain ⟨hl, h3⟩ := List.getElem?_eq_some_iff.1 h2
  rw [List.take_succ_eq_append_getElem hl, h3]
end
theorem start_iter {W : World} {tb ib : Nat} {t : T} {w : World} (h : Keep (fun _ => False) w W) (hib : W.heap.size = ib) : WalkRel w tb t ib 0 (W.alloc (.cells #[.pointer (some ⟨tb, 0, none⟩), .pointer none, .int .u8 0] 96)) := by
  subst hib
  exact ⟨heap_alloc_new W _, h.alloc _⟩

section
variable {P : Int × Int → Bool} {L : List (Int × Int)} {p : Nat} {e : Int × Int}
theorem split_at (he : L[p]? = some e) : L = L.take p ++ e :: L.drop (p + 1) := by
  obtain ⟨hl, rfl⟩ := List.getElem?_eq_some_iff.1 he
  rw [List.getElem_cons_drop hl, List.take_append_drop]
theorem find_hit (h : (L.take p).find? P = none) (he : L[p]? = some e) (hp : P e = true) : L.find? P = some e := by
  rw [split_at he, List.find?_append, h]; simp [hp]
theorem find_step (h : (L.take p).find? P = none) (ht : L.take (p + 1) = L.take p ++ [e]) (hp : P e = false) : (L.take (p + 1)).find? P = none := by
  rw [ht, List.find?_append, h]; simp [hp]
theorem all_miss (he : L[p]? = some e) (hp : P e = false) : L.all P = false := by
  rw [split_at he, List.all_append]; simp [hp]
theorem any_hit (he : L[p]? = some e) (hp : P e = true) : L.any P = true := by
  rw [split_at he, List.any_append]; simp [hp]
theorem all_step (h : (L.take p).all P = true) (ht : L.take (p + 1) = L.take p ++ [e]) (hp : P e = true) : (L.take (p + 1)).all P = true := by
  rw [ht, List.all_append, h]; simp [hp]
theorem any_step (h : (L.take p).any P = false) (ht : L.take (p + 1) = L.take p ++ [e]) (hp : P e = false) : (L.take (p + 1)).any P = false := by
  rw [ht, List.any_append, h]; simp [hp]
end

set_option maxRecDepth 100000 in
theorem mapFind_any {w : World} {B mb ob qb : Nat} {kind m : Int} {L : List (Int × Int)} {tb : Bool} {tm tr : Int} (h : Mp w B mb ob kind m L) (hq : w.heap[qb]? = some (tobj tb tm tr)) (h1 : 1 ≤ tm) (h2 : tm ≤ 1000) :
    Calls Try.prog 74 #[.pointer (some ⟨mb, 0, none⟩), .func (.func 107) #[] #[.pointer (some ⟨qb, 0, none⟩)]] w fun e w' => e = .returned (pairI (L.find? (holdsT tb tm tr))) ∧ Keep (fun _ => False) w w' := by
  obtain ⟨tb', t, hmb, htm, rfl, -⟩ := h
  have IT := hid (mapIterator_any hmb)
  have HT := hid htm
  have HQ := hid (And.intro hq (And.intro h1 h2))
  clear hmb htm hq h1 h2
  go_enter Try.func74, Try.ntmps74
  go_wp2_with (fail)
  refine IT.out.mono ?_
  rintro e w1 ⟨rfl, hk⟩
  have K0 := hid hk
  have HD := hid (show Head w1 tb' t.ents.length (cmpV ob) t w1.heap.size from ⟨HT.out.tree.keep hk id (fun _ _ => id), Nat.le_refl _⟩)
  have ST := hid (start_iter (tb := tb') (t := t) (Keep.refl (fun _ => False) w1) rfl)
  clear hk
  go_wp2_with (fail)
  go_loopg [] (t.ents.length + 1) (fun g wr => ∃ p : Nat, p ≤ t.ents.length ∧ g = t.ents.length + 1 - p ∧ WalkRel w1 tb' t w1.heap.size p wr ∧ (t.toList.take p).find? (holdsT tb tm tr) = none)
  case atStart => exact ⟨0, Nat.zero_le _, by omega, ST.out, by simp⟩
  case round =>
    obtain ⟨p, hp, hg, hw, hinv⟩ := hrel
    have HI := hid hinv
    have HG := hid hg
    have HW := hid hw
    clear hg hw hinv
    by_cases hlt : p < t.ents.length
    · obtain ⟨x, k, v, he⟩ := ents_at hlt
      have HE := hid he
      have NX := hid (step_next HD.out HW.out hlt)
      clear he
      go_wp2_with (fail)
      refine NX.out.mono ?_
      rintro e w2 ⟨rfl, hw2⟩
      have H1 := hid hw2
      clear hw2
      go_wp2_with (fail)
      refine (step_key HD.out H1.out HE.out.1).mono ?_
      rintro e w3 ⟨rfl, rfl⟩
      go_wp2_with (fail)
      refine (step_val HD.out H1.out HE.out.1).mono ?_
      rintro e w3 ⟨rfl, rfl⟩
      go_wp2_with (fail)
      refine (test1_any ((K0.out.trans H1.out.keep).get HQ.out.1 id) HQ.out.2.1 HQ.out.2.2 k v).mono ?_
      rintro e w4 ⟨rfl, j, rfl⟩
      have H2 := hid (H1.out.on ((Keep.refl _ _).drewN j))
      cases hb : holdsT tb tm tr (k, v) with
      | true =>
          have HB := hid hb
          clear hb
          go_wp2_with (fail)
          refine (step_key HD.out H2.out HE.out.1).mono ?_
          rintro e w5 ⟨rfl, rfl⟩
          go_wp2_with (fail)
          refine (step_val HD.out H2.out HE.out.1).mono ?_
          rintro e w5 ⟨rfl, rfl⟩
          go_wp2_with (fail)
          go_ret2
          exact ⟨by rw [find_hit HI.out HE.out.2.2 HB.out]; rfl, K0.out.trans H2.out.keep⟩
      | false =>
          have HB := hid hb
          clear hb
          go_wp2_with (fail)
          go_roundg (t.ents.length + 1 - (p + 1))
          case measure => rw [HG.out]; omega
          case rel => exact ⟨p + 1, by omega, rfl, H2.out, find_step HI.out HE.out.2.1 HB.out⟩
    · obtain rfl : p = t.ents.length := by omega
      have NX := hid (step_end HD.out HW.out rfl)
      go_wp2_with (fail)
      refine NX.out.mono ?_
      rintro e w2 ⟨rfl, hk2⟩
      have KE := hid hk2
      clear hk2
      go_wp2_with (fail)
      go_ret2
      exact ⟨by rw [show t.toList.find? (holdsT tb tm tr) = none by have h := HI.out; rw [List.take_of_length_le (by rw [toList_length]; omega)] at h; exact h]; rfl, K0.out.trans KE.out⟩

set_option maxRecDepth 100000 in
theorem mapAll_any {w : World} {B mb ob qb : Nat} {kind m : Int} {L : List (Int × Int)} {tb : Bool} {tm tr : Int} (h : Mp w B mb ob kind m L) (hq : w.heap[qb]? = some (tobj tb tm tr)) (h1 : 1 ≤ tm) (h2 : tm ≤ 1000) :
    Calls Try.prog 78 #[.pointer (some ⟨mb, 0, none⟩), .func (.func 107) #[] #[.pointer (some ⟨qb, 0, none⟩)]] w fun e w' => e = .returned (.bool (L.all (holdsT tb tm tr))) ∧ Keep (fun _ => False) w w' := by
  obtain ⟨tb', t, hmb, htm, rfl, -⟩ := h
  have IT := hid (mapIterator_any hmb)
  have HT := hid htm
  have HQ := hid (And.intro hq (And.intro h1 h2))
  clear hmb htm hq h1 h2
  go_enter Try.func78, Try.ntmps78
  go_wp2_with (fail)
  refine IT.out.mono ?_
  rintro e w1 ⟨rfl, hk⟩
  have K0 := hid hk
  have HD := hid (show Head w1 tb' t.ents.length (cmpV ob) t w1.heap.size from ⟨HT.out.tree.keep hk id (fun _ _ => id), Nat.le_refl _⟩)
  have ST := hid (start_iter (tb := tb') (t := t) (Keep.refl (fun _ => False) w1) rfl)
  clear hk
  go_wp2_with (fail)
  go_loopg [] (t.ents.length + 1) (fun g wr => ∃ p : Nat, p ≤ t.ents.length ∧ g = t.ents.length + 1 - p ∧ WalkRel w1 tb' t w1.heap.size p wr ∧ (t.toList.take p).all (holdsT tb tm tr) = true)
  case atStart => exact ⟨0, Nat.zero_le _, by omega, ST.out, by simp⟩
  case round =>
    obtain ⟨p, hp, hg, hw, hinv⟩ := hrel
    have HI := hid hinv
    have HG := hid hg
    have HW := hid hw
    clear hg hw hinv
    by_cases hlt : p < t.ents.length
    · obtain ⟨x, k, v, he⟩ := ents_at hlt
      have HE := hid he
      have NX := hid (step_next HD.out HW.out hlt)
      clear he
      go_wp2_with (fail)
      refine NX.out.mono ?_
      rintro e w2 ⟨rfl, hw2⟩
      have H1 := hid hw2
      clear hw2
      go_wp2_with (fail)
      refine (step_key HD.out H1.out HE.out.1).mono ?_
      rintro e w3 ⟨rfl, rfl⟩
      go_wp2_with (fail)
      refine (step_val HD.out H1.out HE.out.1).mono ?_
      rintro e w3 ⟨rfl, rfl⟩
      go_wp2_with (fail)
      refine (test1_any ((K0.out.trans H1.out.keep).get HQ.out.1 id) HQ.out.2.1 HQ.out.2.2 k v).mono ?_
      rintro e w4 ⟨rfl, j, rfl⟩
      have H2 := hid (H1.out.on ((Keep.refl _ _).drewN j))
      cases hb : holdsT tb tm tr (k, v) with
      | false =>
          have HB := hid hb
          clear hb
          go_wp2_with (fail)
          go_ret
          exact ⟨by rw [all_miss HE.out.2.2 HB.out]; rfl, K0.out.trans H2.out.keep⟩
      | true =>
          have HB := hid hb
          clear hb
          go_wp2_with (fail)
          go_roundg (t.ents.length + 1 - (p + 1))
          case measure => rw [HG.out]; omega
          case rel => exact ⟨p + 1, by omega, rfl, H2.out, all_step HI.out HE.out.2.1 HB.out⟩
    · obtain rfl : p = t.ents.length := by omega
      have NX := hid (step_end HD.out HW.out rfl)
      go_wp2_with (fail)
      refine NX.out.mono ?_
      rintro e w2 ⟨rfl, hk2⟩
      have KE := hid hk2
      clear hk2
      go_wp2_with (fail)
      go_ret
      exact ⟨by rw [show t.toList.all (holdsT tb tm tr) = true by have h := HI.out; rw [List.take_of_length_le (by rw [toList_length]; omega)] at h; exact h]; rfl, K0.out.trans KE.out⟩

set_option maxRecDepth 100000 in
theorem mapAny_any {w : World} {B mb ob qb : Nat} {kind m : Int} {L : List (Int × Int)} {tb : Bool} {tm tr : Int} (h : Mp w B mb ob kind m L) (hq : w.heap[qb]? = some (tobj tb tm tr)) (h1 : 1 ≤ tm) (h2 : tm ≤ 1000) :
    Calls Try.prog 79 #[.pointer (some ⟨mb, 0, none⟩), .func (.func 107) #[] #[.pointer (some ⟨qb, 0, none⟩)]] w fun e w' => e = .returned (.bool (L.any (holdsT tb tm tr))) ∧ Keep (fun _ => False) w w' := by
  obtain ⟨tb', t, hmb, htm, rfl, -⟩ := h
  have IT := hid (mapIterator_any hmb)
  have HT := hid htm
  have HQ := hid (And.intro hq (And.intro h1 h2))
  clear hmb htm hq h1 h2
  go_enter Try.func79, Try.ntmps79
  go_wp2_with (fail)
  refine IT.out.mono ?_
  rintro e w1 ⟨rfl, hk⟩
  have K0 := hid hk
  have HD := hid (show Head w1 tb' t.ents.length (cmpV ob) t w1.heap.size from ⟨HT.out.tree.keep hk id (fun _ _ => id), Nat.le_refl _⟩)
  have ST := hid (start_iter (tb := tb') (t := t) (Keep.refl (fun _ => False) w1) rfl)
  clear hk
  go_wp2_with (fail)
  go_loopg [] (t.ents.length + 1) (fun g wr => ∃ p : Nat, p ≤ t.ents.length ∧ g = t.ents.length + 1 - p ∧ WalkRel w1 tb' t w1.heap.size p wr ∧ (t.toList.take p).any (holdsT tb tm tr) = false)
  case atStart => exact ⟨0, Nat.zero_le _, by omega, ST.out, by simp⟩
  case round =>
    obtain ⟨p, hp, hg, hw, hinv⟩ := hrel
    have HI := hid hinv
    have HG := hid hg
    have HW := hid hw
    clear hg hw hinv
    by_cases hlt : p < t.ents.length
    · obtain ⟨x, k, v, he⟩ := ents_at hlt
      have HE := hid he
      have NX := hid (step_next HD.out HW.out hlt)
      clear he
      go_wp2_with (fail)
      refine NX.out.mono ?_
      rintro e w2 ⟨rfl, hw2⟩
      have H1 := hid hw2
      clear hw2
      go_wp2_with (fail)
      refine (step_key HD.out H1.out HE.out.1).mono ?_
      rintro e w3 ⟨rfl, rfl⟩
      go_wp2_with (fail)
      refine (step_val HD.out H1.out HE.out.1).mono ?_
      rintro e w3 ⟨rfl, rfl⟩
      go_wp2_with (fail)
      refine (test1_any ((K0.out.trans H1.out.keep).get HQ.out.1 id) HQ.out.2.1 HQ.out.2.2 k v).mono ?_
      rintro e w4 ⟨rfl, j, rfl⟩
      have H2 := hid (H1.out.on ((Keep.refl _ _).drewN j))
      cases hb : holdsT tb tm tr (k, v) with
      | true =>
          have HB := hid hb
          clear hb
          go_wp2_with (fail)
          go_ret
          exact ⟨by rw [any_hit HE.out.2.2 HB.out]; rfl, K0.out.trans H2.out.keep⟩
      | false =>
          have HB := hid hb
          clear hb
          go_wp2_with (fail)
          go_roundg (t.ents.length + 1 - (p + 1))
          case measure => rw [HG.out]; omega
          case rel => exact ⟨p + 1, by omega, rfl, H2.out, any_step HI.out HE.out.2.1 HB.out⟩
    · obtain rfl : p = t.ents.length := by omega
      have NX := hid (step_end HD.out HW.out rfl)
      go_wp2_with (fail)
      refine NX.out.mono ?_
      rintro e w2 ⟨rfl, hk2⟩
      have KE := hid hk2
      clear hk2
      go_wp2_with (fail)
      go_ret
      exact ⟨by rw [show t.toList.any (holdsT tb tm tr) = false by have h := HI.out; rw [List.take_of_length_le (by rw [toList_length]; omega)] at h; exact h]; rfl, K0.out.trans KE.out⟩
end Go.Proofs.Ytdamfannmlncnaa
