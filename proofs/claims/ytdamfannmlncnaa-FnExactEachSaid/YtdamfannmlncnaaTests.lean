/- The reference's TestOk and Holds; the thin package's MapFind and MapAll, walked. -/
import Derived.Test.YtdamfannmlncnaaIters
namespace Go.Proofs.Ytdamfannmlncnaa
open Go.RowKit
set_option linter.unusedVariables false
set_option linter.unusedSimpArgs false
set_option maxHeartbeats 1600000
attribute [local go_sem ↓] Go.wp_at_zero Go.wp_at_succ

theorem TestOk_any (tb : Bool) (tm tr : Int) (w : World) : Calls Try.prog 50 #[.agg #[.bool tb, .int .i64 tm, .int .i64 tr]] w fun e w' => e = .returned (.bool (decide (1 ≤ tm ∧ tm ≤ 1000))) ∧ Keep (fun _ => False) w w' := by
  by_cases h1 : 1 ≤ tm
  · by_cases h2 : tm ≤ 1000
    · have d3 : decide (1 ≤ tm) = true := decide_eq_true h1
      have d4 : decide (tm ≤ 1000) = true := decide_eq_true h2
      rw [show decide (1 ≤ tm ∧ tm ≤ 1000) = true from decide_eq_true ⟨h1, h2⟩]
      go_enter Try.func50, Try.ntmps50
      go_wp2
      go_ret
      exact ⟨rfl, (Keep.refl _ _).alloc _⟩
    · have d3 : decide (1 ≤ tm) = true := decide_eq_true h1
      have d4 : decide (tm ≤ 1000) = false := decide_eq_false h2
      rw [show decide (1 ≤ tm ∧ tm ≤ 1000) = false from decide_eq_false (fun h => h2 h.2)]
      go_enter Try.func50, Try.ntmps50
      go_wp2
      go_ret
      exact ⟨rfl, (Keep.refl _ _).alloc _⟩
  · have d3 : decide (1 ≤ tm) = false := decide_eq_false h1
    rw [show decide (1 ≤ tm ∧ tm ≤ 1000) = false from decide_eq_false (fun h => h1 h.1)]
    go_enter Try.func50, Try.ntmps50
    go_wp2
    go_ret
    exact ⟨rfl, (Keep.refl _ _).alloc _⟩

theorem Holds_any (tb : Bool) (tm tr : Int) (h1 : 1 ≤ tm) (h2 : tm ≤ 1000) (x y : Int) (w : World) :
    Calls Try.prog 51 #[.agg #[.bool tb, .int .i64 tm, .int .i64 tr], .agg #[.int .i64 x, .int .i64 y]] w fun e w' => e = .returned (.bool (holdsT tb tm tr (x, y))) ∧ Keep (fun _ => False) w w' := by
  cases tb with
  | false =>
    obtain ⟨b, hb⟩ : ∃ b, (x % tm == tr) = b := ⟨_, rfl⟩
    have HB := hid (show holdsT false tm tr (x, y) = b by rw [← hb, beq_is]; rfl)
    have RS := hid (fun W => srest_any x tm h1 h2 W)
    clear h1 h2
    go_enter Try.func51, Try.ntmps51
    go_wp2_with (fail)
    obtain ⟨W, hW⟩ : ∃ W, W = (w.alloc (.cells #[.bool false, .int .i64 tm, .int .i64 tr] 70)).alloc (.cells #[.int .i64 x, .int .i64 y] 57) := ⟨_, rfl⟩
    have b1 : W.heap[w.heap.size]? = some (.cells #[.bool false, .int .i64 tm, .int .i64 tr] 70 (0, 0)) := by rw [hW, Below.heap_alloc _ _ _ (by simp)]; exact heap_alloc_new _ _
    have b2 : W.heap[w.heap.size + 1]? = some (.cells #[.int .i64 x, .int .i64 y] 57 (0, 0)) := by rw [hW]; exact blk_second' w _ _ _ _
    have c1 : W.cell? ⟨w.heap.size, 1, none⟩ = some (.int .i64 tm) := by simp [World.cell?, b1]
    have c2 : W.cell? ⟨w.heap.size, 2, none⟩ = some (.int .i64 tr) := by simp [World.cell?, b1]
    have d0 : W.cell? ⟨w.heap.size + 1, 0, none⟩ = some (.int .i64 x) := by simp [World.cell?, b2]
    have d1 : W.cell? ⟨w.heap.size + 1, 1, none⟩ = some (.int .i64 y) := by simp [World.cell?, b2]
    rw [← hW]
    have HW := hid hW
    clear hW b1 b2
    go_quiet ((go_at_call 63; exact q_of (RS.out _)))
    go_wp2_with (fail)
    go_ret
    exact ⟨by rw [HB.out]; rfl, by rw [HW.out]; exact (((Keep.refl _ _).alloc _).alloc _).drewN _⟩
  | true =>
    obtain ⟨b, hb⟩ : ∃ b, (y % tm == tr) = b := ⟨_, rfl⟩
    have HB := hid (show holdsT true tm tr (x, y) = b by rw [← hb, beq_is]; rfl)
    have RS := hid (fun W => srest_any y tm h1 h2 W)
    clear h1 h2
    go_enter Try.func51, Try.ntmps51
    go_wp2_with (fail)
    obtain ⟨W, hW⟩ : ∃ W, W = (w.alloc (.cells #[.bool true, .int .i64 tm, .int .i64 tr] 70)).alloc (.cells #[.int .i64 x, .int .i64 y] 57) := ⟨_, rfl⟩
    have b1 : W.heap[w.heap.size]? = some (.cells #[.bool true, .int .i64 tm, .int .i64 tr] 70 (0, 0)) := by rw [hW, Below.heap_alloc _ _ _ (by simp)]; exact heap_alloc_new _ _
    have b2 : W.heap[w.heap.size + 1]? = some (.cells #[.int .i64 x, .int .i64 y] 57 (0, 0)) := by rw [hW]; exact blk_second' w _ _ _ _
    have c1 : W.cell? ⟨w.heap.size, 1, none⟩ = some (.int .i64 tm) := by simp [World.cell?, b1]
    have c2 : W.cell? ⟨w.heap.size, 2, none⟩ = some (.int .i64 tr) := by simp [World.cell?, b1]
    have d0 : W.cell? ⟨w.heap.size + 1, 0, none⟩ = some (.int .i64 x) := by simp [World.cell?, b2]
    have d1 : W.cell? ⟨w.heap.size + 1, 1, none⟩ = some (.int .i64 y) := by simp [World.cell?, b2]
    rw [← hW]
    have HW := hid hW
    clear hW b1 b2
    go_quiet ((go_at_call 63; exact q_of (RS.out _)))
    go_wp2_with (fail)
    go_ret
    exact ⟨by rw [HB.out]; rfl, by rw [HW.out]; exact (((Keep.refl _ _).alloc _).alloc _).drewN _⟩

theorem test_boxes (w : World) (kind m : Int) (tb : Bool) (tm tr : Int) :
    (((w.alloc (.cells #[.int .i64 kind, .int .i64 m] 23)).alloc (.cells #[.bool tb, .int .i64 tm, .int .i64 tr] 70)).alloc (.cells #[.int .i64 0, .int .i64 0, .bool false] 53)).heap[w.heap.size + 1]? = some (.cells #[.bool tb, .int .i64 tm, .int .i64 tr] 70 (0, 0)) ∧ (((w.alloc (.cells #[.int .i64 kind, .int .i64 m] 23)).alloc (.cells #[.bool tb, .int .i64 tm, .int .i64 tr] 70)).alloc (.cells #[.int .i64 0, .int .i64 0, .bool false] 53)).heap[w.heap.size + 2]? = some (.cells #[.int .i64 0, .int .i64 0, .bool false] 53 (0, 0)) := by
  refine ⟨?_, ?_⟩
  · rw [Below.heap_alloc _ _ _ (by simp)]; exact blk_second' w _ _ _ _
  · simpa using heap_alloc_new ((w.alloc (.cells #[.int .i64 kind, .int .i64 m] 23)).alloc (.cells #[.bool tb, .int .i64 tm, .int .i64 tr] 70)) (.cells #[.int .i64 0, .int .i64 0, .bool false] 53)
theorem test_read {W : World} {g : Nat} {tb : Bool} {tm tr : Int} (h : W.heap[g]? = some (.cells #[.bool tb, .int .i64 tm, .int .i64 tr] 70 (0, 0))) : W.cell? ⟨g, 0, none⟩ = some (.bool tb) ∧ W.cell? ⟨g, 1, none⟩ = some (.int .i64 tm) ∧ W.cell? ⟨g, 2, none⟩ = some (.int .i64 tr) := by
  refine ⟨?_, ?_, ?_⟩ <;> simp [World.cell?, h]

theorem keep_set2 {a W : World} {B g : Nat} (h : Keep (fun i => B ≤ i) a W) (hg : B ≤ g) (o : Nat) (v : Value) : Keep (fun i => B ≤ i) a (W.setCell ⟨g, o, none⟩ v) := h.setCell ⟨g, o, none⟩ (fun _ => hg) v
theorem KeepFrom.is0 {w w' : World} (h : KeepFrom w.heap.size w w') : Keep (fun _ => False) w w' := h.mono fun i hi hs => by omega
theorem zero_pair {W : World} {g : Nat} (h : W.heap[g]? = some (.cells #[.int .i64 0, .int .i64 0, .bool false] 53 (0, 0))) : W.cell? ⟨g, 0, none⟩ = some (.int .i64 0) ∧ W.cell? ⟨g, 1, none⟩ = some (.int .i64 0) ∧ W.cell? ⟨g, 2, none⟩ = some (.bool false) ∧ Plain W g := by
  refine ⟨?_, ?_, ?_, ⟨_, _, h⟩⟩ <;> simp [World.cell?, h]
theorem order_test {w : World} {kind m : Int} {tb : Bool} {tm tr : Int} {W : World} (h0 : W.heap[w.heap.size]? = some (.cells #[.int .i64 kind, .int .i64 m] 23 (0, 0))) (h1 : W.heap[w.heap.size + 1]? = some (.cells #[.bool tb, .int .i64 tm, .int .i64 tr] 70 (0, 0))) :
    (W.cell? ⟨w.heap.size, 0, none⟩ = some (.int .i64 kind) ∧ W.cell? ⟨w.heap.size, 1, none⟩ = some (.int .i64 m)) ∧ W.cell? ⟨w.heap.size + 1, 0, none⟩ = some (.bool tb) ∧ W.cell? ⟨w.heap.size + 1, 1, none⟩ = some (.int .i64 tm) ∧ W.cell? ⟨w.heap.size + 1, 2, none⟩ = some (.int .i64 tr) := by
  refine ⟨⟨?_, ?_⟩, ?_, ?_, ?_⟩ <;> simp [World.cell?, h0, h1]

set_option maxRecDepth 100000 in
theorem MapFind_any {w : World} {B : Nat} {kind m : Int} {v : Value} {acts : List Act3} {tb : Bool} {tm tr : Int} (h1 : 1 ≤ tm) (h2 : tm ≤ 1000) (hok : OrdOk kind m) (ha : ActsIn w B v acts) (hB : B ≤ w.heap.size) (hlen : acts.length ≤ 100000) :
    Calls Try.prog 52 #[.agg #[.int .i64 kind, .int .i64 m], v, .agg #[.bool tb, .int .i64 tm, .int .i64 tr]] w fun e w' => e = .returned (pairV ((runA (ordf kind m) acts).find? (holdsT tb tm tr))) ∧ Keep (fun _ => False) w w' := by
  have K0 := hid (show Keep (fun _ => False) w (((w.alloc (.cells #[.int .i64 kind, .int .i64 m] 23)).alloc (.cells #[.bool tb, .int .i64 tm, .int .i64 tr] 70)).alloc (.cells #[.int .i64 0, .int .i64 0, .bool false] 53)) from (((Keep.refl _ _).alloc _).alloc _).alloc _)
  have BT := hid (fun W (hW : Keep (fun _ => False) (((w.alloc (.cells #[.int .i64 kind, .int .i64 m] 23)).alloc (.cells #[.bool tb, .int .i64 tm, .int .i64 tr] 70)).alloc (.cells #[.int .i64 0, .int .i64 0, .bool false] 53)) W) => built_any (w := W) hok (ha.keep (K0.out.trans hW) fun _ _ => id) (Nat.le_trans hB (K0.out.trans hW).size) hlen)
  have TBX := hid (test_boxes w kind m tb tm tr)
  have OBX : (((w.alloc (.cells #[.int .i64 kind, .int .i64 m] 23)).alloc (.cells #[.bool tb, .int .i64 tm, .int .i64 tr] 70)).alloc (.cells #[.int .i64 0, .int .i64 0, .bool false] 53)).heap[w.heap.size]? = some (.cells #[.int .i64 kind, .int .i64 m] 23 (0, 0)) := by
    rw [Below.heap_alloc _ _ _ (by simp; omega), Below.heap_alloc _ _ _ (by simp)]; exact heap_alloc_new _ _
  have HSS := hid (fun (W' : World) (hW : Keep (fun _ => False) (((w.alloc (.cells #[.int .i64 kind, .int .i64 m] 23)).alloc (.cells #[.bool tb, .int .i64 tm, .int .i64 tr] 70)).alloc (.cells #[.int .i64 0, .int .i64 0, .bool false] 53)) W') => order_test (hW.get OBX id) (hW.get TBX.out.1 id))
  have HSS2 := hid (fun (W' : World) (hW : Keep (fun i => w.heap.size + 2 ≤ i) (((w.alloc (.cells #[.int .i64 kind, .int .i64 m] 23)).alloc (.cells #[.bool tb, .int .i64 tm, .int .i64 tr] 70)).alloc (.cells #[.int .i64 0, .int .i64 0, .bool false] 53)) W') => order_test (hW.get OBX (by omega)) (hW.get TBX.out.1 (by omega)))
  have H12 := hid (And.intro h1 h2)
  obtain ⟨L, hL⟩ : ∃ L, L = runA (ordf kind m) acts := ⟨_, rfl⟩
  rw [← hL] at BT ⊢
  obtain ⟨o, ho⟩ : ∃ o, o = L.find? (holdsT tb tm tr) := ⟨_, rfl⟩
  rw [← ho]
  have HO := hid ho
  clear hok ha hlen hL hB ho h1 h2 OBX
  cases o with
  | none =>
    have MF : Hid (∀ (W : World) (B mb ob qb : Nat), Mp W B mb ob kind m L → W.heap[qb]? = some (tobj tb tm tr) → Calls Try.prog 74 #[.pointer (some ⟨mb, 0, none⟩), .func (.func 107) #[] #[.pointer (some ⟨qb, 0, none⟩)]] W fun e w' => e = .returned (.tuple #[.nilIface, .nilIface]) ∧ Keep (fun _ => False) W w') := fun W B mb ob qb hm hq => by have := mapFind_any hm hq H12.out.1 H12.out.2; rw [← HO.out] at this; exact this
    have PO : Hid (∀ W, Calls Try.prog 64 #[.nilIface, .nilIface] W fun e w' => e = .returned (.agg #[.int .i64 0, .int .i64 0, .bool false]) ∧ Keep (fun _ => False) W w') := fun W => pairOf_any none W
    simp only [pairV]
    go_enter Try.func52, Try.ntmps52
    go_wp2_with (fail)
    obtain ⟨W3, hW3⟩ : ∃ W3, W3 = (((w.alloc (.cells #[.int .i64 kind, .int .i64 m] 23)).alloc (.cells #[.bool tb, .int .i64 tm, .int .i64 tr] 70)).alloc (.cells #[.int .i64 0, .int .i64 0, .bool false] 53)) := ⟨_, rfl⟩
    rw [← hW3] at K0 BT TBX HSS HSS2 ⊢
    have HSZ := hid (show W3.heap.size = w.heap.size + 3 by rw [hW3]; simp)
    clear hW3
    go_region_held3 (fun w' => (w'.cell? ⟨w.heap.size, 0, none⟩ = some (.int .i64 kind) ∧ w'.cell? ⟨w.heap.size, 1, none⟩ = some (.int .i64 m)) ∧ w'.cell? ⟨w.heap.size + 1, 0, none⟩ = some (.bool tb) ∧ w'.cell? ⟨w.heap.size + 1, 1, none⟩ = some (.int .i64 tm) ∧ w'.cell? ⟨w.heap.size + 1, 2, none⟩ = some (.int .i64 tr))
      (first
        | (refine HSS.out _ ?_; (repeat (first | (with_reducible apply Keep.drew) | (with_reducible apply Keep.drewN))); (first | (with_reducible exact K4.out) | (with_reducible exact K3.out) | (with_reducible exact K2.out) | (with_reducible exact K1.out) | (with_reducible exact Keep.refl _ _) | fail))
        | (refine HSS2.out _ ?_; (repeat (first | (with_reducible apply Keep.drew) | (with_reducible apply Keep.drewN) | (with_reducible refine keep_set2 ?_ (by omega) _ _))); exact K4.out.any)
        | fail)
      (first
        | (go_at_call 55; refine (BT.out _ (by (repeat (first | (with_reducible apply Keep.drew) | (with_reducible apply Keep.drewN))); exact Keep.refl _ _)).mono ?_; rintro e w1 ⟨mb, ob, rfl, hm, hk⟩; have K1 := hid (Keep.trans (show Keep (fun _ => False) W3 _ from (by (repeat (first | (with_reducible apply Keep.drew) | (with_reducible apply Keep.drewN))); exact Keep.refl _ _)) (KeepFrom.is0 hk)); have HM := hid hm; clear hm hk)
        | (go_at_call 75; refine (test_ex tb tm tr _).mono ?_; rintro e w2 ⟨qb, rfl, hq, hk⟩; have KK := hid (show Keep (fun _ => False) w1 w2 from (by first | exact hk | exact hk.undrew | exact hk.undrewN | fail)); have K2 := hid (K1.out.trans KK.out); have HQ := hid hq; have HM2 := hid (HM.out.below KK.out.any); clear hq hk KK)
        | (go_at_call 74; refine (MF.out _ _ _ _ _ (HM2.out.below (by first | exact (Keep.refl _ _) | exact (Keep.refl _ _).drew | exact (Keep.refl _ _).drewN _ | fail)) HQ.out).mono ?_; rintro e w3 ⟨rfl, hk⟩; have K3 := hid (K2.out.trans (by first | exact hk | exact hk.undrew | exact hk.undrewN | fail)); clear hk)
        | (go_at_call 64; refine (PO.out _).mono ?_; rintro e w4 ⟨rfl, hk⟩; have K4 := hid (K3.out.trans (by first | exact hk | exact hk.undrew | exact hk.undrewN | fail)); have KE4 := hid (K0.out.trans K4.out); have hb3 := K4.out.get TBX.out.2 id; obtain ⟨z0, z1, z2, pl⟩ := zero_pair hb3; clear hk hb3)
        | fail)
    all_goals
      (try go_wp2_with (fail))
      refine bodyPost_ret (v := .agg #[.int .i64 0, .int .i64 0, .bool false]) (by simp [results, Try.results52, go_sem, z0, z1, z2]) rfl ?_
      exact ⟨rfl, by (repeat (first | (with_reducible apply Keep.drew) | (with_reducible apply Keep.drewN) | (with_reducible refine Keep.freshSet ?_ (by omega) _ _))); exact KE4.out⟩
  | some e0 =>
    obtain ⟨k, v⟩ := e0
    have MF : Hid (∀ (W : World) (B mb ob qb : Nat), Mp W B mb ob kind m L → W.heap[qb]? = some (tobj tb tm tr) → Calls Try.prog 74 #[.pointer (some ⟨mb, 0, none⟩), .func (.func 107) #[] #[.pointer (some ⟨qb, 0, none⟩)]] W fun e w' => e = .returned (.tuple #[.iface 3 (.int .i64 k), .iface 3 (.int .i64 v)]) ∧ Keep (fun _ => False) W w') := fun W B mb ob qb hm hq => by have := mapFind_any hm hq H12.out.1 H12.out.2; rw [← HO.out] at this; exact this
    have PO : Hid (∀ W, Calls Try.prog 64 #[.iface 3 (.int .i64 k), .iface 3 (.int .i64 v)] W fun e w' => e = .returned (.agg #[.int .i64 k, .int .i64 v, .bool true]) ∧ Keep (fun _ => False) W w') := fun W => pairOf_any (some (k, v)) W
    simp only [pairV]
    go_enter Try.func52, Try.ntmps52
    go_wp2_with (fail)
    obtain ⟨W3, hW3⟩ : ∃ W3, W3 = (((w.alloc (.cells #[.int .i64 kind, .int .i64 m] 23)).alloc (.cells #[.bool tb, .int .i64 tm, .int .i64 tr] 70)).alloc (.cells #[.int .i64 0, .int .i64 0, .bool false] 53)) := ⟨_, rfl⟩
    rw [← hW3] at K0 BT TBX HSS HSS2 ⊢
    have HSZ := hid (show W3.heap.size = w.heap.size + 3 by rw [hW3]; simp)
    clear hW3
    go_region_held3 (fun w' => (w'.cell? ⟨w.heap.size, 0, none⟩ = some (.int .i64 kind) ∧ w'.cell? ⟨w.heap.size, 1, none⟩ = some (.int .i64 m)) ∧ w'.cell? ⟨w.heap.size + 1, 0, none⟩ = some (.bool tb) ∧ w'.cell? ⟨w.heap.size + 1, 1, none⟩ = some (.int .i64 tm) ∧ w'.cell? ⟨w.heap.size + 1, 2, none⟩ = some (.int .i64 tr))
      (first
        | (refine HSS.out _ ?_; (repeat (first | (with_reducible apply Keep.drew) | (with_reducible apply Keep.drewN))); (first | (with_reducible exact K4.out) | (with_reducible exact K3.out) | (with_reducible exact K2.out) | (with_reducible exact K1.out) | (with_reducible exact Keep.refl _ _) | fail))
        | (refine HSS2.out _ ?_; (repeat (first | (with_reducible apply Keep.drew) | (with_reducible apply Keep.drewN) | (with_reducible refine keep_set2 ?_ (by omega) _ _))); exact K4.out.any)
        | fail)
      (first
        | (go_at_call 55; refine (BT.out _ (by (repeat (first | (with_reducible apply Keep.drew) | (with_reducible apply Keep.drewN))); exact Keep.refl _ _)).mono ?_; rintro e w1 ⟨mb, ob, rfl, hm, hk⟩; have K1 := hid (Keep.trans (show Keep (fun _ => False) W3 _ from (by (repeat (first | (with_reducible apply Keep.drew) | (with_reducible apply Keep.drewN))); exact Keep.refl _ _)) (KeepFrom.is0 hk)); have HM := hid hm; clear hm hk)
        | (go_at_call 75; refine (test_ex tb tm tr _).mono ?_; rintro e w2 ⟨qb, rfl, hq, hk⟩; have KK := hid (show Keep (fun _ => False) w1 w2 from (by first | exact hk | exact hk.undrew | exact hk.undrewN | fail)); have K2 := hid (K1.out.trans KK.out); have HQ := hid hq; have HM2 := hid (HM.out.below KK.out.any); clear hq hk KK)
        | (go_at_call 74; refine (MF.out _ _ _ _ _ (HM2.out.below (by first | exact (Keep.refl _ _) | exact (Keep.refl _ _).drew | exact (Keep.refl _ _).drewN _ | fail)) HQ.out).mono ?_; rintro e w3 ⟨rfl, hk⟩; have K3 := hid (K2.out.trans (by first | exact hk | exact hk.undrew | exact hk.undrewN | fail)); clear hk)
        | (go_at_call 64; refine (PO.out _).mono ?_; rintro e w4 ⟨rfl, hk⟩; have K4 := hid (K3.out.trans (by first | exact hk | exact hk.undrew | exact hk.undrewN | fail)); have KE4 := hid (K0.out.trans K4.out); have hb3 := K4.out.get TBX.out.2 id; obtain ⟨z0, z1, z2, pl⟩ := zero_pair hb3; clear hk hb3)
        | fail)
    all_goals
      (try go_wp2_with (fail))
      refine bodyPost_ret (v := .agg #[.int .i64 k, .int .i64 v, .bool true]) (by simp [results, Try.results52, go_sem, z0, z1, z2]) rfl ?_
      exact ⟨rfl, by (repeat (first | (with_reducible apply Keep.drew) | (with_reducible apply Keep.drewN) | (with_reducible refine Keep.freshSet ?_ (by omega) _ _))); exact KE4.out⟩

set_option maxRecDepth 100000 in
theorem MapAll_any {w : World} {B : Nat} {kind m : Int} {v : Value} {acts : List Act3} {tb : Bool} {tm tr : Int} (h1 : 1 ≤ tm) (h2 : tm ≤ 1000) (hok : OrdOk kind m) (ha : ActsIn w B v acts) (hB : B ≤ w.heap.size) (hlen : acts.length ≤ 100000) :
    Calls Try.prog 54 #[.agg #[.int .i64 kind, .int .i64 m], v, .agg #[.bool tb, .int .i64 tm, .int .i64 tr]] w fun e w' => e = .returned (.tuple #[.bool ((runA (ordf kind m) acts).all (holdsT tb tm tr)), .bool ((runA (ordf kind m) acts).any (holdsT tb tm tr))]) ∧ Keep (fun _ => False) w w' := by
  have K0 := hid (show Keep (fun _ => False) w ((w.alloc (.cells #[.int .i64 kind, .int .i64 m] 23)).alloc (.cells #[.bool tb, .int .i64 tm, .int .i64 tr] 70)) from ((Keep.refl _ _).alloc _).alloc _)
  have BT := hid (built_any hok (ha.keep K0.out fun _ _ => id) (Nat.le_trans hB K0.out.size) hlen)
  have TBX := hid (blk_second' w #[.int .i64 kind, .int .i64 m] #[.bool tb, .int .i64 tm, .int .i64 tr] 23 70)
  have H12 := hid (And.intro h1 h2)
  obtain ⟨L, hL⟩ : ∃ L, L = runA (ordf kind m) acts := ⟨_, rfl⟩
  rw [← hL] at BT ⊢
  obtain ⟨ba, ha2⟩ : ∃ b, b = L.all (holdsT tb tm tr) := ⟨_, rfl⟩
  obtain ⟨bb, hb2⟩ : ∃ b, b = L.any (holdsT tb tm tr) := ⟨_, rfl⟩
  rw [← ha2, ← hb2]
  have HO := hid (And.intro ha2 hb2)
  clear hok ha hlen hL hB ha2 hb2 h1 h2
  go_enter Try.func54, Try.ntmps54
  go_wp2_with (fail)
  refine BT.out.mono ?_
  rintro e w1 ⟨mb, ob, rfl, hm, hk⟩
  have K1 := hid (show Keep (fun _ => False) ((w.alloc (.cells #[.int .i64 kind, .int .i64 m] 23)).alloc (.cells #[.bool tb, .int .i64 tm, .int .i64 tr] 70)) w1 from hk.mono fun i hi hs => by omega)
  have HM := hid hm
  have hb1 := K1.out.get TBX.out id
  obtain ⟨q0, q1, q2⟩ := test_read hb1
  have HR := hid (And.intro q0 (And.intro q1 q2))
  clear hm hk hb1 q0 q1 q2
  go_wp2_with (fail)
  go_region_held3 (fun w' => w'.cell? ⟨w.heap.size + 1, 0, none⟩ = some (.bool tb) ∧ w'.cell? ⟨w.heap.size + 1, 1, none⟩ = some (.int .i64 tm) ∧ w'.cell? ⟨w.heap.size + 1, 2, none⟩ = some (.int .i64 tr))
    (first
      | exact HR.out
      | exact ⟨K2.out.cell HR.out.1 id, K2.out.cell HR.out.2.1 id, K2.out.cell HR.out.2.2 id⟩
      | exact ⟨K3.out.cell HR.out.1 id, K3.out.cell HR.out.2.1 id, K3.out.cell HR.out.2.2 id⟩
      | exact ⟨K4.out.cell HR.out.1 id, K4.out.cell HR.out.2.1 id, K4.out.cell HR.out.2.2 id⟩
      | exact ⟨K5.out.cell HR.out.1 id, K5.out.cell HR.out.2.1 id, K5.out.cell HR.out.2.2 id⟩
      | fail)
    (first
      | (go_at_call 78; refine (mapAll_any (HM.out.below (by first | exact K2.out.any | exact K2.out.drew.any | exact (K2.out.drewN _).any | fail)) HQ2.out H12.out.1 H12.out.2).mono ?_; rintro e w3 ⟨rfl, hk⟩; have K3 := hid (K2.out.trans (by first | exact hk | exact hk.undrew | exact hk.undrewN | fail)); clear hk)
      | (go_at_call 79; refine (mapAny_any (HM.out.below (by first | exact K4.out.any | exact K4.out.drew.any | exact (K4.out.drewN _).any | fail)) HQ4.out H12.out.1 H12.out.2).mono ?_; rintro e w5 ⟨rfl, hk⟩; have K5 := hid (K4.out.trans (by first | exact hk | exact hk.undrew | exact hk.undrewN | fail)); clear hk)
      | (go_at_call 75; refine (test_ex tb tm tr _).mono ?_; rintro e w4 ⟨qb2, rfl, hq, hk⟩; have K4 := hid (K3.out.trans (by first | exact hk | exact hk.undrew | exact hk.undrewN | fail)); have HQ4 := hid hq; clear hq hk)
      | (go_at_call 75; refine (test_ex tb tm tr _).mono ?_; rintro e w2 ⟨qb, rfl, hq, hk⟩; have K2 := hid (show Keep (fun _ => False) w1 w2 from (by first | exact hk | exact hk.undrew | exact hk.undrewN | fail)); have HQ2 := hid hq; clear hq hk)
      | fail)
  all_goals
    (try go_wp2_with (fail))
    go_ret2
    exact ⟨by rw [HO.out.1, HO.out.2]; rfl, K0.out.trans (K1.out.trans K5.out)⟩
end Go.Proofs.Ytdamfannmlncnaa
