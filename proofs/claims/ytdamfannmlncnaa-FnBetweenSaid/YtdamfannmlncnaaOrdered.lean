/- The keys ascend in the order; Min and Max are its ends: the walk of the law FnOrdered. -/
import Derived.Test.YtdamfannmlncnaaTurned
namespace Go.Proofs.Ytdamfannmlncnaa
open Go.RowKit
set_option linter.unusedVariables false
set_option linter.unusedSimpArgs false
attribute [local go_sem ↓] Go.wp_at_zero Go.wp_at_succ

def Z3 (W : World) (g : Nat) : Prop := W.heap[g]? = some (.cells #[.int .i64 0, .int .i64 0, .bool false] 53 (0, 0))
theorem z3_facts {W : World} {g : Nat} (h : Z3 W g) : W.cell? ⟨g, 0, none⟩ = some (.int .i64 0) ∧ W.cell? ⟨g, 1, none⟩ = some (.int .i64 0) ∧ W.cell? ⟨g, 2, none⟩ = some (.bool false) ∧ Plain W g := by
  unfold Z3 at h
  refine ⟨?_, ?_, ?_, ⟨_, _, h⟩⟩ <;> simp [World.cell?, h]
theorem z3_keep {W W' : World} {g : Nat} (hk : Keep (fun _ => False) W W') (h : Z3 W g) : Z3 W' g := hk.get h id
theorem z3_new (w W : World) (h : W.heap = (w.alloc (.cells #[.int .i64 0, .int .i64 0, .bool false] 53)).heap) : Z3 W w.heap.size := by
  unfold Z3; rw [h]; exact heap_alloc_new _ _
theorem z3_two_a (w W : World) (h : W.heap = ((w.alloc (.cells #[.int .i64 0, .int .i64 0, .bool false] 53)).alloc (.cells #[.int .i64 0, .int .i64 0, .bool false] 53)).heap) : Z3 W w.heap.size := by
  unfold Z3; rw [h]; exact blk_first _ _ _ _
theorem z3_two_b (w W : World) (h : W.heap = ((w.alloc (.cells #[.int .i64 0, .int .i64 0, .bool false] 53)).alloc (.cells #[.int .i64 0, .int .i64 0, .bool false] 53)).heap) : Z3 W (w.heap.size + 1) := by
  unfold Z3; rw [h]; exact blk_second _ _ _ _
def P3 (W : World) (g : Nat) (p : Int × Int × Bool) : Prop := W.heap[g]? = some (.cells #[.int .i64 p.1, .int .i64 p.2.1, .bool p.2.2] 53 (0, 0))
def set3 (W : World) (g : Nat) (x y z : Value) : World := ((W.setCell ⟨g, 0, none⟩ x).setCell ⟨g, 1, none⟩ y).setCell ⟨g, 2, none⟩ z
theorem p3_set {W : World} {g : Nat} (h : Z3 W g) (p : Int × Int × Bool) : P3 (((W.setCell ⟨g, 0, none⟩ (.int .i64 p.1)).setCell ⟨g, 1, none⟩ (.int .i64 p.2.1)).setCell ⟨g, 2, none⟩ (.bool p.2.2)) g p := by
  unfold P3
  rw [heap_set (a := ⟨g, 2, none⟩) (heap_set (a := ⟨g, 1, none⟩) (heap_set (a := ⟨g, 0, none⟩) h rfl) rfl) rfl]; simp
theorem heap_far3 {W : World} {g g' : Nat} (hne : g ≠ g') (x y z : Value) : (((W.setCell ⟨g', 0, none⟩ x).setCell ⟨g', 1, none⟩ y).setCell ⟨g', 2, none⟩ z).heap[g]? = W.heap[g]? := by
  rw [set_other (a := ⟨g', 2, none⟩) hne, set_other (a := ⟨g', 1, none⟩) hne, set_other (a := ⟨g', 0, none⟩) hne]
theorem p3_far {W : World} {g g' : Nat} {p : Int × Int × Bool} (h : P3 W g p) (hne : g ≠ g') (x y z : Value) : P3 (((W.setCell ⟨g', 0, none⟩ x).setCell ⟨g', 1, none⟩ y).setCell ⟨g', 2, none⟩ z) g p := by
  unfold P3; rw [heap_far3 hne]; exact h
theorem z3_far {W : World} {g g' : Nat} (h : Z3 W g) (hne : g ≠ g') (x y z : Value) : Z3 (((W.setCell ⟨g', 0, none⟩ x).setCell ⟨g', 1, none⟩ y).setCell ⟨g', 2, none⟩ z) g := by
  unfold Z3; rw [heap_far3 hne]; exact h
theorem p3_alloc {W : World} {g : Nat} {p : Int × Int × Bool} (h : P3 W g p) (O : Obj) : P3 (W.alloc O) g p := by
  unfold P3; rw [Below.heap_alloc _ _ _ (lt_of_heap h)]; exact h
theorem p3_new (W : World) (p : Int × Int × Bool) {g : Nat} (hg : W.heap.size = g) : P3 (W.alloc (.cells #[.int .i64 p.1, .int .i64 p.2.1, .bool p.2.2] 53)) g p := by
  subst hg; exact heap_alloc_new _ _
theorem p3_cells {W : World} {g : Nat} {p : Int × Int × Bool} (h : P3 W g p) : W.cell? ⟨g, 0, none⟩ = some (.int .i64 p.1) ∧ W.cell? ⟨g, 1, none⟩ = some (.int .i64 p.2.1) ∧ W.cell? ⟨g, 2, none⟩ = some (.bool p.2.2) := by
  unfold P3 at h
  refine ⟨?_, ?_, ?_⟩ <;> simp [World.cell?, h]
theorem pair_none {x y : Int} {b : Bool} (h : pairV none = .agg #[.int .i64 x, .int .i64 y, .bool b]) : x = 0 ∧ y = 0 ∧ b = false := by
  simp [pairV] at h; exact ⟨h.1.symm, h.2.1.symm, h.2.2⟩
theorem pair_some {x y : Int} {b : Bool} {e : Int × Int} (h : pairV (some e) = .agg #[.int .i64 x, .int .i64 y, .bool b]) : x = e.1 ∧ y = e.2 ∧ b = true := by
  simp [pairV] at h; exact ⟨h.1.symm, h.2.1.symm, h.2.2⟩
theorem srt_next {f : Int → Int} {L : List (Int × Int)} (h : Srt f L) {q : Nat} {a b : Int × Int} (ha : L[q]? = some a) (hb : L[q + 1]? = some b) : f a.1 < f b.1 := by
  obtain ⟨h1, rfl⟩ := List.getElem?_eq_some_iff.1 ha
  obtain ⟨h2, rfl⟩ := List.getElem?_eq_some_iff.1 hb
  exact List.pairwise_iff_getElem.1 h q (q + 1) h1 h2 (by omega)

/-- Two pairs of the law's own. -/
structure TwoPairs (w1 : World) (p q : Int × Int × Bool) (s7 s8 : Value) (wx : World) : Prop where
  ptr : ∃ g h, s7 = .pointer (some ⟨g, 0, none⟩) ∧ s8 = .pointer (some ⟨h, 0, none⟩) ∧ P3 wx g p ∧ P3 wx h q
  keep : Keep (fun _ => False) w1 wx

set_option maxRecDepth 100000 in
set_option maxHeartbeats 3200000 in
theorem ordered_main {w : World} {kind m : Int} {v : Value} {acts : List Act3} (ha : ActsIn w w.heap.size v acts) (hp : kind = 0 ∨ kind = 1) (hlen : acts.length ≤ 300) :
    Calls Try.prog 17 #[.agg #[.int .i64 kind, .int .i64 m], v] w fun e w' => e = .returned (.bool true) ∧ Below w.heap.size w w' := by
  obtain ⟨ao, cap, rfl⟩ := ha.len
  have PL := hid (Plain_any kind m (w.alloc (.cells #[.int .i64 kind, .int .i64 m] 23)))
  rw [decide_eq_true hp] at PL
  have K0 : Keep (fun _ => False) w (w.alloc (.cells #[.int .i64 kind, .int .i64 m] 23)) := (Keep.refl _ _).alloc _
  have HA := hid (ha.keep K0 fun _ _ => id)
  have HOK := hid (OrdOk.plain (m := m) hp)
  obtain ⟨L, hL⟩ : ∃ L, runA (ordf kind m) acts = L := ⟨_, rfl⟩
  have HS := hid (show Srt (ordf kind m) L by rw [← hL]; exact runA_srt acts)
  obtain ⟨n, hn⟩ : ∃ n, L.length = n := ⟨_, rfl⟩
  have hn3 : n ≤ 300 := by rw [← hn, ← hL]; have := runA_len (f := ordf kind m) acts; omega
  have MI := hid (fun W (hW : Keep (fun _ => False) (w.alloc (.cells #[.int .i64 kind, .int .i64 m] 23)) W) => MapMin_any HOK.out (HA.out.keep hW fun _ _ => id) (Nat.le_trans (Nat.le_succ _) (by have := hW.size; simpa using this)) (by omega : acts.length ≤ 100000))
  have MA := hid (fun W (hW : Keep (fun _ => False) (w.alloc (.cells #[.int .i64 kind, .int .i64 m] 23)) W) => MapMax_any HOK.out (HA.out.keep hW fun _ _ => id) (Nat.le_trans (Nat.le_succ _) (by have := hW.size; simpa using this)) (by omega : acts.length ≤ 100000))
  have S0 := hid (mapState_out HOK.out HA.out (by simp) (by omega : acts.length ≤ 100000) hL hn)
  have K0 := hid K0
  rw [hL] at MI MA
  obtain ⟨px, py, pb, hpq⟩ := pairV_form L.head?
  obtain ⟨qx, qy, qb, hqq⟩ := pairV_form L.getLast?
  rw [hpq] at MI
  rw [hqq] at MA
  have HP := hid (And.intro hpq hqq)
  have HN := hid hn
  clear ha hp hL HA hn hpq hqq
  go_enter Try.func17, Try.ntmps17
  go_wp2_with (go_at_call 26; refine PL.out.mono ?_; rintro e w0 ⟨rfl, hk⟩; have K00 := hid hk; obtain ⟨o0, o1⟩ := ocells hk; clear hk)
  refine (S0.out _ K00.out).mono ?_
  rintro e ws ⟨a1, c1, a2, c2, rfl, r1, r2, hk⟩
  have KS := hid (K00.out.trans hk)
  have R1 := hid r1
  clear hk r1 r2 o0 o1
  obtain ⟨W, hW⟩ : ∃ W, W = ws.alloc (.cells #[.slice a1 n c1, .slice a2 n c2, .int .i64 n, .bool (n == 0)] 34) := ⟨_, rfl⟩
  have KB : Keep (fun _ => False) ws W := by rw [hW]; exact (Keep.refl _ _).alloc _
  have KW := hid (KS.out.trans KB)
  have X := state_box (Keep.refl (fun _ => False) (ws.alloc (.cells #[.slice a1 n c1, .slice a2 n c2, .int .i64 n, .bool (n == 0)] 34)))
  rw [← hW] at X
  have HX := hid X
  have Q1 := hid (RowIn.on R1.out KB)
  have HO0 := hid (ocells KW.out)
  have HW := hid hW
  clear KB X hW
  go_wp2_with (fail)
  rw [← HW.out]
  go_loopw [6] (fun i wr => ∃ q : Nat, i = .int .i64 ((q + 1 : Nat) : Int) ∧ Keep (fun _ => False) W wr) (fun i _ => n + 1 - (intOf i).toNat)
  case atStart => exact ⟨0, rfl, Keep.refl _ _⟩
  case round =>
    obtain ⟨q, rfl, hkr⟩ := hrel
    have KR := hid hkr
    obtain ⟨x0, x1, x2, x3⟩ := HX.out
    have y0 := hkr.cell x0 id
    have y1 := hkr.cell x1 id
    have y2 := hkr.cell x2 id
    have y3 := hkr.cell x3 id
    clear hkr x0 x1 x2 x3
    by_cases hlt : q + 1 < n
    · obtain ⟨e0, he0⟩ : ∃ e0, L[q]? = some e0 := ⟨_, List.getElem?_eq_getElem (by rw [HN.out]; omega)⟩
      obtain ⟨e1, he1⟩ : ∃ e1, L[q + 1]? = some e1 := ⟨_, List.getElem?_eq_getElem (by rw [HN.out]; omega)⟩
      have hlt2 := srt_next HS.out he0 he1
      obtain ⟨ka, va⟩ := e0
      obtain ⟨kb, vb⟩ := e1
      obtain ⟨b, f, g1, t1⟩ := num_at (k := q) (x := ka) Q1.out (by rw [List.getElem?_map, he0]; rfl)
      subst g1
      obtain ⟨b', f', g2, t2⟩ := num_at (k := q + 1) (x := kb) Q1.out (by rw [List.getElem?_map, he1]; rfl)
      simp only [Option.some.injEq, Addr.mk.injEq, and_true] at g2
      obtain ⟨rfl, rfl⟩ := g2
      have CP := hid (Compare_is HOK.out (a := ka) (b := kb) (cmpI_lt hlt2))
      obtain ⟨o0, o1⟩ := HO0.out
      have HO : Hid (wr.cell? ⟨w.heap.size, 0, none⟩ = some (.int .i64 kind) ∧ wr.cell? ⟨w.heap.size, 1, none⟩ = some (.int .i64 m) ∧ wr.cell? ⟨ws.heap.size, 0, none⟩ = some (.slice (some ⟨b, f, none⟩) n c1) ∧ wr.cell? ⟨b, f + q, none⟩ = some (.int .i64 ka) ∧ wr.cell? ⟨b, f + (q + 1), none⟩ = some (.int .i64 kb)) :=
        ⟨KR.out.cell o0 id, KR.out.cell o1 id, y0, KR.out.cell t1 id, KR.out.cell t2 id⟩
      have hw : IntKind.i64.wrap (((q + 1 : Nat) : Int) - 1) = (q : Int) := by rw [IntWalk.i64_in _ (by omega)]; omega
      have hw2 : IntKind.i64.wrap ((q : Int) + 1 - 1) = (q : Int) := by rw [IntWalk.i64_in _ (by omega)]; omega
      have hw3 : IntKind.i64.wrap (q : Int) = (q : Int) := by rw [IntWalk.i64_in _ (by omega)]
      have i0 : (0 : Int) ≤ (q : Int) := by omega
      have i1 : (q : Int) < (n : Int) := by omega
      have i2 : (q : Int) + 1 < (n : Int) := by omega
      have i3 : (0 : Int) ≤ (q : Int) + 1 := by omega
      have i4 : ((q : Int) + 1).toNat = q + 1 := by omega
      have i5 : (q : Int) + 1 - 1 = (q : Int) := by omega
      have i6 : ((q + 1 : Nat) : Int) - 1 = (q : Int) := by omega
      clear he0 he1 hlt2 t1 t2 o0 o1 y1 y2 y3
      go_wp2_with (fail)
      go_region_held3 (fun w' => w'.cell? ⟨w.heap.size, 0, none⟩ = some (.int .i64 kind) ∧ w'.cell? ⟨w.heap.size, 1, none⟩ = some (.int .i64 m) ∧ w'.cell? ⟨ws.heap.size, 0, none⟩ = some (.slice (some ⟨b, f, none⟩) n c1) ∧ w'.cell? ⟨b, f + q, none⟩ = some (.int .i64 ka) ∧ w'.cell? ⟨b, f + (q + 1), none⟩ = some (.int .i64 kb))
        (first | exact HO.out | exact ⟨K2.out.cell HO.out.1 id, K2.out.cell HO.out.2.1 id, K2.out.cell HO.out.2.2.1 id, K2.out.cell HO.out.2.2.2.1 id, K2.out.cell HO.out.2.2.2.2 id⟩ | fail)
        (first | (go_at_call 45; refine (CP.out _).mono ?_; rintro e w2 ⟨rfl, hk2⟩; have K2 := hid (show Keep (fun _ => False) wr w2 from (by first | exact hk2 | exact hk2.undrew | exact hk2.undrewN | fail)); clear hk2) | fail)
      clear hw hw2 hw3
      go_wp2_with (fail)
      go_roundw
      case rel => exact ⟨q + 1, by go_num, KR.out.trans K2.out⟩
      case measure => simp [intOf]; omega
    · have hge : decide ((((q + 1 : Nat)) : Int) < (n : Int)) = false := decide_eq_false (by omega)
      have hge2 : decide (q + 1 < n) = false := decide_eq_false hlt
      have hge3 : decide ((q : Int) + 1 < (n : Int)) = false := decide_eq_false (by omega)
      go_wp2_with (fail)
      rename_i w1x
      have K1 := hid (KW.out.trans KR.out)
      obtain ⟨w1, hw1⟩ : ∃ w1, w1 = wr := ⟨_, rfl⟩
      rw [← hw1] at K1 y0 y1 y2 y3 ⊢
      have HY := hid (And.intro y0 (And.intro y1 (And.intro y2 y3)))
      have HO := hid (ocells K1.out)
      have HW1 := hid hw1
      clear hw1 y0 y1 y2 y3
      go_cut [7, 8] (fun s7 s8 wx => TwoPairs w1 (px, py, pb) (qx, qy, qb) s7 s8 wx)
      case first =>
        go_region_held3 (fun w' => w'.cell? ⟨w.heap.size, 0, none⟩ = some (.int .i64 kind) ∧ w'.cell? ⟨w.heap.size, 1, none⟩ = some (.int .i64 m))
          (first
            | (refine ⟨Keep.cell (w := w1) (S := fun _ => False) ?_ HO.out.1 id, Keep.cell (w := w1) (S := fun _ => False) ?_ HO.out.2 id⟩ <;> ((repeat (first | (with_reducible apply Keep.drew) | (with_reducible apply Keep.alloc) | (with_reducible apply Keep.drewN) | (with_reducible refine Keep.freshSet ?_ (by omega) _ _))); (first | (with_reducible exact K3.out) | (with_reducible exact K2.out) | (with_reducible exact Keep.refl _ _) | fail)))
            | fail)
          (first
            | (go_at_call 38; refine (MI.out _ (by (repeat (first | (with_reducible apply Keep.drew) | (with_reducible apply Keep.alloc) | (with_reducible apply Keep.drewN))); exact K1.out)).mono ?_; rintro e w2 ⟨rfl, hk⟩; have K2 := hid (show Keep (fun _ => False) w1 w2 from (Keep.trans (by (repeat (first | (with_reducible apply Keep.drew) | (with_reducible apply Keep.alloc) | (with_reducible apply Keep.drewN))); exact Keep.refl _ _) hk)); have n2 := K2.out.size; have BA := hid (z3_keep hk (z3_two_a w1 _ rfl)); have BB := hid (z3_keep hk (z3_two_b w1 _ rfl)); have zal := lt_of_heap BA.out; have zan := Nat.ne_of_lt zal; have zan2 := Nat.ne_of_gt zal; clear hk)
            | (go_at_call 38; refine (MI.out _ (by (repeat (first | (with_reducible apply Keep.drew) | (with_reducible apply Keep.alloc) | (with_reducible apply Keep.drewN))); exact K1.out)).mono ?_; rintro e w2 ⟨rfl, hk⟩; have K2 := hid (show Keep (fun _ => False) w1 w2 from (Keep.trans (by (repeat (first | (with_reducible apply Keep.drew) | (with_reducible apply Keep.alloc) | (with_reducible apply Keep.drewN))); exact Keep.refl _ _) hk)); have n2 := K2.out.size; have BA := hid (z3_keep hk (z3_new w1 _ rfl)); have zal := lt_of_heap BA.out; have zan := Nat.ne_of_lt zal; have zan2 := Nat.ne_of_gt zal; clear hk)
            | (go_at_call 38; refine (MI.out _ (by (repeat (first | (with_reducible apply Keep.drew) | (with_reducible apply Keep.alloc) | (with_reducible apply Keep.drewN))); exact K1.out)).mono ?_; rintro e w2 ⟨rfl, hk⟩; have K2 := hid (show Keep (fun _ => False) w1 w2 from (Keep.trans (by (repeat (first | (with_reducible apply Keep.drew) | (with_reducible apply Keep.alloc) | (with_reducible apply Keep.drewN))); exact Keep.refl _ _) hk)); have n2 := K2.out.size; clear hk)
            | (go_at_call 41; refine (MA.out _ (K1.out.trans (by (repeat (first | (with_reducible apply Keep.drew) | (with_reducible apply Keep.alloc) | (with_reducible apply Keep.drewN))); exact K2.out))).mono ?_; rintro e w3 ⟨rfl, hk⟩; have K3 := hid (show Keep (fun _ => False) w1 w3 from (Keep.trans (by (repeat (first | (with_reducible apply Keep.drew) | (with_reducible apply Keep.alloc) | (with_reducible apply Keep.drewN))); exact K2.out) hk)); have n3 := K3.out.size; have K23 := hid (show Keep (fun _ => False) w2 w3 from (Keep.trans (by (repeat (first | (with_reducible apply Keep.drew) | (with_reducible apply Keep.alloc) | (with_reducible apply Keep.drewN))); exact Keep.refl _ _) hk)); have BA3 := hid (z3_keep K23.out BA.out); have BB3 := hid (z3_keep K23.out BB.out); obtain ⟨ya0, ya1, ya2, yap⟩ := z3_facts BA3.out; have yal := lt_of_heap BA3.out; have yan := Nat.ne_of_lt yal; have yan2 := Nat.ne_of_gt yal; obtain ⟨yb0, yb1, yb2, ybp⟩ := z3_facts BB3.out; clear hk)
            | (go_at_call 41; refine (MA.out _ (K1.out.trans (by (repeat (first | (with_reducible apply Keep.drew) | (with_reducible apply Keep.alloc) | (with_reducible apply Keep.drewN))); exact K2.out))).mono ?_; rintro e w3 ⟨rfl, hk⟩; have K3 := hid (show Keep (fun _ => False) w1 w3 from (Keep.trans (by (repeat (first | (with_reducible apply Keep.drew) | (with_reducible apply Keep.alloc) | (with_reducible apply Keep.drewN))); exact K2.out) hk)); have n3 := K3.out.size; have K23 := hid (show Keep (fun _ => False) w2 w3 from (Keep.trans (by (repeat (first | (with_reducible apply Keep.drew) | (with_reducible apply Keep.alloc) | (with_reducible apply Keep.drewN))); exact Keep.refl _ _) hk)); have BA3 := hid (z3_keep K23.out BA.out); have BB3 := hid (z3_keep hk (z3_new w2 _ rfl)); obtain ⟨ya0, ya1, ya2, yap⟩ := z3_facts BA3.out; have yal := lt_of_heap BA3.out; have yan := Nat.ne_of_lt yal; have yan2 := Nat.ne_of_gt yal; obtain ⟨yb0, yb1, yb2, ybp⟩ := z3_facts BB3.out; clear hk)
            | (go_at_call 41; refine (MA.out _ (K1.out.trans (by (repeat (first | (with_reducible apply Keep.drew) | (with_reducible apply Keep.alloc) | (with_reducible apply Keep.drewN))); exact K2.out))).mono ?_; rintro e w3 ⟨rfl, hk⟩; have K3 := hid (show Keep (fun _ => False) w1 w3 from (Keep.trans (by (repeat (first | (with_reducible apply Keep.drew) | (with_reducible apply Keep.alloc) | (with_reducible apply Keep.drewN))); exact K2.out) hk)); have n3 := K3.out.size; have K23 := hid (show Keep (fun _ => False) w2 w3 from (Keep.trans (by (repeat (first | (with_reducible apply Keep.drew) | (with_reducible apply Keep.alloc) | (with_reducible apply Keep.drewN))); exact Keep.refl _ _) hk)); have BA3 := hid (z3_keep K23.out BA.out); obtain ⟨ya0, ya1, ya2, yap⟩ := z3_facts BA3.out; have yal := lt_of_heap BA3.out; have yan := Nat.ne_of_lt yal; have yan2 := Nat.ne_of_gt yal; have yA0 := cellA2 ya0; have yA1 := cellA2 ya1; have yA2 := cellA2 ya2; clear hk)
            | (go_at_call 41; refine (MA.out _ (K1.out.trans (by (repeat (first | (with_reducible apply Keep.drew) | (with_reducible apply Keep.alloc) | (with_reducible apply Keep.drewN))); exact K2.out))).mono ?_; rintro e w3 ⟨rfl, hk⟩; have K3 := hid (show Keep (fun _ => False) w1 w3 from (Keep.trans (by (repeat (first | (with_reducible apply Keep.drew) | (with_reducible apply Keep.alloc) | (with_reducible apply Keep.drewN))); exact K2.out) hk)); have n3 := K3.out.size; have K23 := hid (show Keep (fun _ => False) w2 w3 from (Keep.trans (by (repeat (first | (with_reducible apply Keep.drew) | (with_reducible apply Keep.alloc) | (with_reducible apply Keep.drewN))); exact Keep.refl _ _) hk)); have BA3 := hid (z3_keep hk (z3_two_a w2 _ rfl)); have BB3 := hid (z3_keep hk (z3_two_b w2 _ rfl)); obtain ⟨ya0, ya1, ya2, yap⟩ := z3_facts BA3.out; have yal := lt_of_heap BA3.out; have yan := Nat.ne_of_lt yal; have yan2 := Nat.ne_of_gt yal; obtain ⟨yb0, yb1, yb2, ybp⟩ := z3_facts BB3.out; clear hk)
            | (go_at_call 41; refine (MA.out _ (K1.out.trans (by (repeat (first | (with_reducible apply Keep.drew) | (with_reducible apply Keep.alloc) | (with_reducible apply Keep.drewN))); exact K2.out))).mono ?_; rintro e w3 ⟨rfl, hk⟩; have K3 := hid (show Keep (fun _ => False) w1 w3 from (Keep.trans (by (repeat (first | (with_reducible apply Keep.drew) | (with_reducible apply Keep.alloc) | (with_reducible apply Keep.drewN))); exact K2.out) hk)); have n3 := K3.out.size; have K23 := hid (show Keep (fun _ => False) w2 w3 from (Keep.trans (by (repeat (first | (with_reducible apply Keep.drew) | (with_reducible apply Keep.alloc) | (with_reducible apply Keep.drewN))); exact Keep.refl _ _) hk)); have BA3 := hid (z3_keep hk (z3_new w2 _ rfl)); obtain ⟨ya0, ya1, ya2, yap⟩ := z3_facts BA3.out; have yal := lt_of_heap BA3.out; have yan := Nat.ne_of_lt yal; have yan2 := Nat.ne_of_gt yal; have yA0 := cellA2 ya0; have yA1 := cellA2 ya1; have yA2 := cellA2 ya2; clear hk)
            | (go_at_call 41; refine (MA.out _ (K1.out.trans (by (repeat (first | (with_reducible apply Keep.drew) | (with_reducible apply Keep.alloc) | (with_reducible apply Keep.drewN))); exact K2.out))).mono ?_; rintro e w3 ⟨rfl, hk⟩; have K3 := hid (show Keep (fun _ => False) w1 w3 from (Keep.trans (by (repeat (first | (with_reducible apply Keep.drew) | (with_reducible apply Keep.alloc) | (with_reducible apply Keep.drewN))); exact K2.out) hk)); have n3 := K3.out.size; have K23 := hid (show Keep (fun _ => False) w2 w3 from (Keep.trans (by (repeat (first | (with_reducible apply Keep.drew) | (with_reducible apply Keep.alloc) | (with_reducible apply Keep.drewN))); exact Keep.refl _ _) hk)); clear hk)
            | fail)
        all_goals (go_wp2_with (fail); go_meet; refine ⟨⟨_, _, rfl, rfl, ?_, ?_⟩, ?_⟩; (focus (repeat (first | (with_reducible exact BA3.out) | (with_reducible exact BB3.out) | ((with_reducible refine p3_new _ (px, py, pb) ?_); (first | rfl | (simp; done))) | (with_reducible refine p3_alloc (p := (px, py, pb)) ?_ _) | (with_reducible refine p3_set (p := (px, py, pb)) ?_) | (with_reducible refine p3_far (p := (px, py, pb)) ?_ (by omega) _ _ _) | (with_reducible refine z3_far ?_ (by omega) _ _ _)))); (focus (repeat (first | (with_reducible exact BA3.out) | (with_reducible exact BB3.out) | ((with_reducible refine p3_new _ (qx, qy, qb) ?_); (first | rfl | (simp; done))) | (with_reducible refine p3_alloc (p := (qx, qy, qb)) ?_ _) | (with_reducible refine p3_set (p := (qx, qy, qb)) ?_) | (with_reducible refine p3_far (p := (qx, qy, qb)) ?_ (by omega) _ _ _) | (with_reducible refine z3_far ?_ (by omega) _ _ _)))); ((repeat (first | (with_reducible apply Keep.drew) | (with_reducible apply Keep.alloc) | (with_reducible apply Keep.drewN) | (with_reducible refine Keep.freshSet ?_ (by omega) _ _))); with_reducible exact K3.out))
      case rest =>
        obtain ⟨⟨g, h, rfl, rfl, hg, hh⟩, hk⟩ := hcut
        obtain ⟨g0, g1, g2⟩ := p3_cells hg
        obtain ⟨h0, h1, h2⟩ := p3_cells hh
        simp only at g0 g1 g2 h0 h1 h2
        obtain ⟨y0, y1, y2, y3⟩ := HY.out
        have z0 := hk.cell y0 id
        have z2 := hk.cell y2 id
        have z3 := hk.cell y3 id
        have K4 := hid (K1.out.trans hk)
        have HK := hid hk
        have HKR := hid (show Keep (fun _ => False) W wc from (show Keep (fun _ => False) W w1 by rw [HW1.out]; exact KR.out).trans hk)
        clear hg hh hk y0 y1 y2 y3 hge hge2 hge3
        cases n with
        | zero =>
          have hL : L = [] := List.eq_nil_of_length_eq_zero HN.out
          obtain rfl : pb = false := (pair_none (by rw [← HP.out.1, hL]; rfl)).2.2
          obtain rfl : qb = false := (pair_none (by rw [← HP.out.2, hL]; rfl)).2.2
          clear hL
          go_wp2_with (go_at_call 31; refine (keeps_any _).mono ?_; rintro e w5 ⟨rfl, hk⟩; have K5 := hid (K4.out.trans hk); clear hk)
          go_ret
          exact ⟨rfl, (K0.out.trans K5.out).to_below⟩
        | succ N =>
          obtain ⟨e0, he0⟩ : ∃ e0, L[0]? = some e0 := ⟨_, List.getElem?_eq_getElem (by rw [HN.out]; omega)⟩
          obtain ⟨e1, he1⟩ : ∃ e1, L[N]? = some e1 := ⟨_, List.getElem?_eq_getElem (by rw [HN.out]; omega)⟩
          obtain ⟨ka, va⟩ := e0
          obtain ⟨kb, vb⟩ := e1
          obtain ⟨rfl, rfl, rfl⟩ : px = ka ∧ py = va ∧ pb = true := pair_some (by rw [← HP.out.1, List.head?_eq_getElem?, he0])
          obtain ⟨rfl, rfl, rfl⟩ : qx = kb ∧ qy = vb ∧ qb = true := pair_some (by rw [← HP.out.2, List.getLast?_eq_getElem?, HN.out, Nat.add_sub_cancel, he1])
          obtain ⟨b, f, t0, t1⟩ := num_at (k := 0) (x := px) Q1.out (by rw [List.getElem?_map, he0]; rfl)
          subst t0
          obtain ⟨b', f', t2, t3⟩ := num_at (k := N) (x := qx) Q1.out (by rw [List.getElem?_map, he1]; rfl)
          simp only [Option.some.injEq, Addr.mk.injEq, and_true] at t2
          obtain ⟨rfl, rfl⟩ := t2
          have v0 := HKR.out.cell t1 id
          have v1 := HKR.out.cell t3 id
          rw [Nat.add_zero] at v0
          have ex : (px == px) = true := by simp
          have ey : (qx == qx) = true := by simp
          have i5 : (N : Int) + 1 - 1 = (N : Int) := by omega
          have i6 : ((N + 1 : Nat) : Int) - 1 = (N : Int) := by omega
          have i7 : (0 : Int) ≤ (N : Int) := by omega
          have i8 : (N : Int) < (N : Int) + 1 := by omega
          have i9 : N < N + 1 := by omega
          have hw : IntKind.i64.wrap (((N + 1 : Nat) : Int) - 1) = (N : Int) := by rw [IntWalk.i64_in _ (by omega)]; omega
          have hw2 : IntKind.i64.wrap ((N : Int) + 1 - 1) = (N : Int) := by rw [IntWalk.i64_in _ (by omega)]; omega
          have hw3 : IntKind.i64.wrap (N : Int) = (N : Int) := by rw [IntWalk.i64_in _ (by omega)]
          clear he0 he1 t1 t3
          go_wp2_with (fail)
          go_quiet (fail)
          go_wp2_with (fail)
          go_ret
          exact ⟨rfl, (K0.out.trans (K4.out.drewN _)).to_below⟩

set_option maxRecDepth 100000 in
set_option maxHeartbeats 1600000 in
theorem fnOrdered_walk {w : World} (kind m : Int) (v : Value) (acts : List Act3) (ha : ActsIn w w.heap.size v acts) (hn : acts.length ≤ maxLen) :
    Calls Try.prog 17 #[.agg #[.int .i64 kind, .int .i64 m], v] w fun e w' => e = .returned (.bool true) ∧ Below w.heap.size w w' := by
  unfold maxLen at hn
  by_cases hp : kind = 0 ∨ kind = 1
  · by_cases h300 : acts.length ≤ 300
    · exact ordered_main ha hp h300
    · obtain ⟨ao, cap, rfl⟩ := ha.len
      have PL := hid (Plain_any kind m (w.alloc (.cells #[.int .i64 kind, .int .i64 m] 23)))
      rw [decide_eq_true hp] at PL
      have h3 : (300 : Int) < acts.length := by omega
      clear ha hp h300
      by_cases hbig : (2147483647 : Int) < acts.length
      · go_enter Try.func17, Try.ntmps17
        go_wp2_with (fail)
        go_ret
        exact ⟨rfl, (Below.refl _ _).alloc (Nat.le_refl _) _⟩
      · go_enter Try.func17, Try.ntmps17
        go_wp2_with (go_at_call 26; refine PL.out.mono ?_; rintro e w1 ⟨rfl, hk⟩; have K1 := hid (((Keep.refl (fun _ => False) w).alloc _).trans hk); clear hk)
        go_ret
        exact ⟨rfl, K1.out.to_below⟩
  · obtain ⟨ao, cap, rfl⟩ := ha.len
    have PL := hid (Plain_any kind m (w.alloc (.cells #[.int .i64 kind, .int .i64 m] 23)))
    rw [decide_eq_false hp] at PL
    clear ha hp
    by_cases hbig : (2147483647 : Int) < acts.length
    · go_enter Try.func17, Try.ntmps17
      go_wp2_with (fail)
      go_ret
      exact ⟨rfl, (Below.refl _ _).alloc (Nat.le_refl _) _⟩
    · go_enter Try.func17, Try.ntmps17
      go_wp2_with (go_at_call 26; refine PL.out.mono ?_; rintro e w1 ⟨rfl, hk⟩; have K1 := hid (((Keep.refl (fun _ => False) w).alloc _).trans hk); clear hk)
      go_ret
      exact ⟨rfl, K1.out.to_below⟩
end Go.Proofs.Ytdamfannmlncnaa
