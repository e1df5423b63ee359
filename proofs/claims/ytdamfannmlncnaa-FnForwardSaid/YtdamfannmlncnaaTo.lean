/- NextTo and PrevTo walked. -/
import Derived.Test.YtdamfannmlncnaaIters
import Derived.Test.YtdamfannmlncnaaPlaces
namespace Go.Proofs.Ytdamfannmlncnaa
open Go.RowKit
set_option linter.unusedVariables false
set_option linter.unusedSimpArgs false
set_option maxHeartbeats 1600000
attribute [local go_sem ↓] Go.wp_at_zero Go.wp_at_succ

/-- A move in a box of its own. -/
def mobj (a : Act3) : Obj := .cells #[.int .i64 a.1, .int .i64 a.2.1, .int .i64 a.2.2] 42 (0, 0)
theorem mobj_cells {w : World} {qb : Nat} {a : Act3} (h : w.heap[qb]? = some (mobj a)) : w.cell? ⟨qb, 0, none⟩ = some (.int .i64 a.1) ∧ w.cell? ⟨qb, 1, none⟩ = some (.int .i64 a.2.1) ∧ w.cell? ⟨qb, 2, none⟩ = some (.int .i64 a.2.2) := by
  refine ⟨?_, ?_, ?_⟩ <;> simp [World.cell?, h, mobj]

theorem toFn_any {w : World} {qb : Nat} {o mm mr : Int} (h : w.heap[qb]? = some (mobj (o, mm, mr))) (h1 : 1 ≤ mm) (h2 : mm ≤ 1000) (k v : Int) :
    Calls Try.prog 91 #[.iface 3 (.int .i64 k), .iface 3 (.int .i64 v), .pointer (some ⟨qb, 0, none⟩)] w fun e w' => e = .returned (.bool (tst mm mr (k, v))) ∧ ∃ j, w' = w.drewN j := by
  obtain ⟨c0, c1, c2⟩ := mobj_cells h
  clear h
  obtain ⟨b, hb⟩ : ∃ b, (k % mm == mr) = b := ⟨_, rfl⟩
  have HB := hid (show tst mm mr (k, v) = b by rw [← hb, beq_is]; rfl)
  have RS := hid (fun W => rest_any k mm h1 h2 W)
  clear h1 h2 c0
  go_enter Try.func91, Try.ntmps91
  go_wp2_with (fail)
  go_quiet ((go_at_call 69; exact q_of (RS.out _)))
  go_wp2_with (fail)
  go_ret
  exact ⟨by rw [HB.out]; rfl, _, rfl⟩

theorem ents_get {t : T} {p : Nat} {x : Nat} {k v : Int} (h : t.ents[p]? = some (x, k, v)) : t.toList[p]? = some (k, v) := by
  unfold T.toList; rw [List.getElem?_map, h]; rfl

section
variable {w wr w' : World} {ib tb : Nat} {n : Int} {cv : Value} {t : T} {p p' : Nat}
/-- An iterator that moves: where it is, and that nothing else has turned. -/
structure ToRel (w : World) (ib tb : Nat) (t : T) (p : Nat) (wr : World) : Prop where
  it : ItIn wr ib 96 tb t p
  keep : Keep (fun i => i = ib) w wr
/-- What stays by the way. -/
structure ToHead (w : World) (ib tb : Nat) (n : Int) (cv : Value) (t : T) : Prop where
  tree : TreeIn w tb n cv t
  ne : ib ≠ tb
  nm : ib ∉ t.ids
theorem ToHead.on (h : ToHead w ib tb n cv t) (hr : ToRel w ib tb t p wr) : TreeIn wr tb n cv t := h.tree.keep hr.keep (fun e => h.ne e.symm) (fun i hi e => h.nm (e ▸ hi))
theorem to_next (hd : ToHead w ib tb n cv t) (h : ToRel w ib tb t p wr) (hp : p ≤ t.ents.length + 1) :
    Calls Try.prog 92 #[.pointer (some ⟨ib, 0, none⟩)] wr fun e w' => e = .returned (.bool (decide (p < t.ents.length))) ∧ ToRel w ib tb t (min (p + 1) (t.ents.length + 1)) w' := by
  refine (mnext_any h.it (hd.on h) hd.ne hd.nm hp).mono ?_
  rintro e w' ⟨rfl, hi, hk⟩
  exact ⟨rfl, hi, h.keep.trans hk⟩
theorem to_prev (hd : ToHead w ib tb n cv t) (h : ToRel w ib tb t p wr) (hp : p ≤ t.ents.length + 1) :
    Calls Try.prog 93 #[.pointer (some ⟨ib, 0, none⟩)] wr fun e w' => e = .returned (.bool (decide (2 ≤ p))) ∧ ToRel w ib tb t (p - 1) w' := by
  refine (mprev_any h.it (hd.on h) hd.ne hd.nm hp).mono ?_
  rintro e w' ⟨rfl, hi, hk⟩
  exact ⟨rfl, hi, h.keep.trans hk⟩
theorem to_key (hd : ToHead w ib tb n cv t) (h : ToRel w ib tb t (p + 1) wr) {x : Nat} {k v : Int} (he : t.ents[p]? = some (x, k, v)) :
    Calls Try.prog 100 #[.pointer (some ⟨ib, 0, none⟩)] wr fun e w' => e = .returned (.iface 3 (.int .i64 k)) ∧ wr = w' := mkey_any h.it (hd.on h) he
theorem to_val (hd : ToHead w ib tb n cv t) (h : ToRel w ib tb t (p + 1) wr) {x : Nat} {k v : Int} (he : t.ents[p]? = some (x, k, v)) :
    Calls Try.prog 101 #[.pointer (some ⟨ib, 0, none⟩)] wr fun e w' => e = .returned (.iface 3 (.int .i64 v)) ∧ wr = w' := mvalue_any h.it (hd.on h) he
theorem ToRel.drewN (h : ToRel w ib tb t p wr) (j : Nat) : ToRel w ib tb t p (wr.drewN j) := ⟨h.it, h.keep.drewN j⟩

set_option maxRecDepth 100000 in
theorem nextTo_any {qb : Nat} {o mm mr : Int} (h : ItIn w ib 96 tb t p) (ht : TreeIn w tb n cv t) (hd : ib ≠ tb) (hm : ib ∉ t.ids) (hp : p ≤ t.ents.length + 1) (hq : w.heap[qb]? = some (mobj (o, mm, mr))) (hqi : qb ≠ ib) (h1 : 1 ≤ mm) (h2 : mm ≤ 1000) :
    Calls Try.prog 98 #[.pointer (some ⟨ib, 0, none⟩), .func (.func 91) #[] #[.pointer (some ⟨qb, 0, none⟩)]] w (MovePost w ib 96 tb t (decide (nextP t.toList (tst mm mr) p ≤ t.ents.length)) (nextP t.toList (tst mm mr) p)) := by
  have HD := hid (show ToHead w ib tb n cv t from ⟨ht, hd, hm⟩)
  have ST := hid (show ToRel w ib tb t p w from ⟨h, Keep.refl _ _⟩)
  have HQ := hid (And.intro hq (And.intro hqi (And.intro h1 h2)))
  obtain ⟨z, hz⟩ : ∃ z, nextP t.toList (tst mm mr) p = z := ⟨_, rfl⟩
  obtain ⟨zb, hzb⟩ : ∃ zb, decide (z ≤ t.ents.length) = zb := ⟨_, rfl⟩
  rw [hz, hzb]
  have HZ := hid (And.intro hz hzb)
  have HP := hid hp
  clear h ht hd hm hp hq hqi h1 h2 hz hzb
  go_enter Try.func98, Try.ntmps98
  go_wp2_with (fail)
  go_loopg [] (t.ents.length + 2 - p) (fun g wr => ∃ q : Nat, q ≤ t.ents.length + 1 ∧ g = t.ents.length + 2 - q ∧ ToRel w ib tb t q wr ∧ nextP t.toList (tst mm mr) q = z)
  case atStart => exact ⟨p, HP.out, rfl, ST.out, HZ.out.1⟩
  case round =>
    obtain ⟨q, hq, hg, hw, hz⟩ := hrel
    have HG := hid hg
    have HW := hid hw
    have HN := hid hz
    have NX := hid (to_next HD.out HW.out hq)
    clear hg hw hz
    by_cases hlt : q < t.ents.length
    · obtain ⟨x, k, v, he⟩ := ents_at hlt
      have HE := hid he
      have NX : Hid (Calls Try.prog 92 #[.pointer (some ⟨ib, 0, none⟩)] wr fun e w' => e = .returned (.bool true) ∧ ToRel w ib tb t (q + 1) w') := by
        have h := NX.out
        rw [decide_eq_true hlt, show min (q + 1) (t.ents.length + 1) = q + 1 by omega] at h
        exact h
      clear he
      go_wp2_with (fail)
      refine NX.out.mono ?_
      rintro e w2 ⟨rfl, hw2⟩
      have H1 := hid hw2
      clear hw2
      go_wp2_with (fail)
      refine (to_key HD.out H1.out HE.out.1).mono ?_
      rintro e w3 ⟨rfl, rfl⟩
      go_wp2_with (fail)
      refine (to_val HD.out H1.out HE.out.1).mono ?_
      rintro e w3 ⟨rfl, rfl⟩
      go_wp2_with (fail)
      refine (toFn_any (H1.out.keep.get HQ.out.1 HQ.out.2.1) HQ.out.2.2.1 HQ.out.2.2.2 k v).mono ?_
      rintro e w4 ⟨rfl, j, rfl⟩
      have H2 := hid (H1.out.drewN j)
      cases hb : tst mm mr (k, v) with
      | true =>
        have HB := hid hb
        clear hb
        go_wp2_with (fail)
        go_ret
        have e1 : z = q + 1 := by rw [← HN.out]; exact nextP_hit HE.out.2.2 HB.out
        have e2 : zb = true := by rw [← HZ.out.2, e1]; exact decide_eq_true (by omega)
        rw [e1, e2]
        exact ⟨rfl, H2.out.it, H2.out.keep⟩
      | false =>
        have HB := hid hb
        clear hb
        go_wp2_with (fail)
        go_roundg (t.ents.length + 2 - (q + 1))
        case measure => rw [HG.out]; omega
        case rel => exact ⟨q + 1, by omega, rfl, H2.out, by rw [← HN.out]; exact (nextP_miss HE.out.2.2 HB.out).symm⟩
    · have NX : Hid (Calls Try.prog 92 #[.pointer (some ⟨ib, 0, none⟩)] wr fun e w' => e = .returned (.bool false) ∧ ToRel w ib tb t (t.ents.length + 1) w') := by
        have h := NX.out
        rw [decide_eq_false hlt, show min (q + 1) (t.ents.length + 1) = t.ents.length + 1 by omega] at h
        exact h
      have HLT := hid hlt
      clear hlt
      go_wp2_with (fail)
      refine NX.out.mono ?_
      rintro e w2 ⟨rfl, hw2⟩
      have H1 := hid hw2
      clear hw2
      go_wp2_with (fail)
      go_ret
      have e1 : z = t.ents.length + 1 := by rw [← HN.out, nextP_end (by rw [toList_length]; have := HLT.out; omega), toList_length]
      have e2 : zb = false := by rw [← HZ.out.2, e1]; exact decide_eq_false (by omega)
      rw [e1, e2]
      exact ⟨rfl, H1.out.it, H1.out.keep⟩

set_option maxRecDepth 100000 in
theorem prevTo_any {qb : Nat} {o mm mr : Int} (h : ItIn w ib 96 tb t p) (ht : TreeIn w tb n cv t) (hd : ib ≠ tb) (hm : ib ∉ t.ids) (hp : p ≤ t.ents.length + 1) (hq : w.heap[qb]? = some (mobj (o, mm, mr))) (hqi : qb ≠ ib) (h1 : 1 ≤ mm) (h2 : mm ≤ 1000) :
    Calls Try.prog 99 #[.pointer (some ⟨ib, 0, none⟩), .func (.func 91) #[] #[.pointer (some ⟨qb, 0, none⟩)]] w (MovePost w ib 96 tb t (decide (1 ≤ prevTo t.toList (tst mm mr) p)) (prevTo t.toList (tst mm mr) p)) := by
  have HD := hid (show ToHead w ib tb n cv t from ⟨ht, hd, hm⟩)
  have ST := hid (show ToRel w ib tb t p w from ⟨h, Keep.refl _ _⟩)
  have HQ := hid (And.intro hq (And.intro hqi (And.intro h1 h2)))
  obtain ⟨z, hz⟩ : ∃ z, prevTo t.toList (tst mm mr) p = z := ⟨_, rfl⟩
  obtain ⟨zb, hzb⟩ : ∃ zb, decide (1 ≤ z) = zb := ⟨_, rfl⟩
  rw [hz, hzb]
  have HZ := hid (And.intro hz hzb)
  have HP := hid hp
  clear h ht hd hm hp hq hqi h1 h2 hz hzb
  go_enter Try.func99, Try.ntmps99
  go_wp2_with (fail)
  go_loopg [] p (fun g wr => ∃ q : Nat, q ≤ t.ents.length + 1 ∧ g = q ∧ ToRel w ib tb t q wr ∧ prevTo t.toList (tst mm mr) q = z)
  case atStart => exact ⟨p, HP.out, rfl, ST.out, HZ.out.1⟩
  case round =>
    obtain ⟨q, hq, hg, hw, hz⟩ := hrel
    have HG := hid hg
    have HW := hid hw
    have HN := hid hz
    have NX := hid (to_prev HD.out HW.out hq)
    clear hg hw hz
    by_cases hlt : 2 ≤ q
    · obtain ⟨q, rfl⟩ : ∃ r, q = r + 2 := ⟨q - 2, by omega⟩
      obtain ⟨x, k, v, he⟩ := ents_at (t := t) (p := q) (by omega)
      have HE := hid he
      have NX : Hid (Calls Try.prog 93 #[.pointer (some ⟨ib, 0, none⟩)] wr fun e w' => e = .returned (.bool true) ∧ ToRel w ib tb t (q + 1) w') := by
        have h := NX.out
        rw [decide_eq_true hlt] at h
        exact h
      clear he
      go_wp2_with (fail)
      refine NX.out.mono ?_
      rintro e w2 ⟨rfl, hw2⟩
      have H1 := hid hw2
      clear hw2
      go_wp2_with (fail)
      refine (to_key HD.out H1.out HE.out.1).mono ?_
      rintro e w3 ⟨rfl, rfl⟩
      go_wp2_with (fail)
      refine (to_val HD.out H1.out HE.out.1).mono ?_
      rintro e w3 ⟨rfl, rfl⟩
      go_wp2_with (fail)
      refine (toFn_any (H1.out.keep.get HQ.out.1 HQ.out.2.1) HQ.out.2.2.1 HQ.out.2.2.2 k v).mono ?_
      rintro e w4 ⟨rfl, j, rfl⟩
      have H2 := hid (H1.out.drewN j)
      cases hb : tst mm mr (k, v) with
      | true =>
        have HB := hid hb
        clear hb
        go_wp2_with (fail)
        go_ret
        have e1 : z = q + 1 := by rw [← HN.out]; exact prevTo_hit HE.out.2.2 HB.out
        have e2 : zb = true := by rw [← HZ.out.2, e1]; exact decide_eq_true (by omega)
        rw [e1, e2]
        exact ⟨rfl, H2.out.it, H2.out.keep⟩
      | false =>
        have HB := hid hb
        clear hb
        go_wp2_with (fail)
        go_roundg (q + 1)
        case measure => rw [HG.out]; omega
        case rel => exact ⟨q + 1, by omega, rfl, H2.out, by rw [← HN.out]; exact (prevTo_miss HE.out.2.2 HB.out).symm⟩
    · have NX : Hid (Calls Try.prog 93 #[.pointer (some ⟨ib, 0, none⟩)] wr fun e w' => e = .returned (.bool false) ∧ ToRel w ib tb t 0 w') := by
        have h := NX.out
        rw [decide_eq_false hlt, show q - 1 = 0 by omega] at h
        exact h
      have HLT := hid hlt
      clear hlt
      go_wp2_with (fail)
      refine NX.out.mono ?_
      rintro e w2 ⟨rfl, hw2⟩
      have H1 := hid hw2
      clear hw2
      go_wp2_with (fail)
      go_ret
      have e1 : z = 0 := by
        rw [← HN.out]
        have := HLT.out
        obtain rfl | rfl : q = 0 ∨ q = 1 := by omega
        · rfl
        · rfl
      have e2 : zb = false := by rw [← HZ.out.2, e1]; rfl
      rw [e1, e2]
      exact ⟨rfl, H1.out.it, H1.out.keep⟩
end
end Go.Proofs.Ytdamfannmlncnaa
