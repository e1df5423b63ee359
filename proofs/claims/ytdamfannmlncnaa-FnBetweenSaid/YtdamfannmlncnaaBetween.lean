/- No key lies between Floor and Ceiling of a number but the number itself: the walk of the law FnBetween. -/
import Derived.Test.YtdamfannmlncnaaOrdered
import Derived.Test.YtdamfannmlncnaaExactGet
namespace Go.Proofs.Ytdamfannmlncnaa
open Go.RowKit
set_option linter.unusedVariables false
set_option linter.unusedSimpArgs false
attribute [local go_sem ↓] Go.wp_at_zero Go.wp_at_succ

section
variable {f : Int → Int} {key : Int} {L : List (Int × Int)}
theorem srt_le (hs : Srt f L) {i j : Nat} (hij : i ≤ j) (hj : j < L.length) : f (L[i]'(by omega)).1 ≤ f L[j].1 := by
  rcases Nat.lt_or_eq_of_le hij with h | h
  · exact Int.le_of_lt (List.pairwise_iff_getElem.1 hs i j (by omega) hj h)
  · subst h; exact Int.le_refl _
theorem below_rank (hs : Srt f L) {i : Nat} (hi : i < L.length) (h : f L[i].1 < f key) : i < rank f key L := by
  refine Classical.byContradiction fun hn => ?_
  have h1 : rank f key L < L.length := by omega
  have h2 := rank_stop (f := f) (k := key) h1
  have h3 := srt_le hs (i := rank f key L) (j := i) (by omega) hi
  omega
theorem has_val (h : hasA f key L = true) : ∃ e, L[rank f key L]? = some e ∧ f e.1 = f key := by
  unfold hasA at h
  split at h
  · cases h
  · rename_i e he
    exact ⟨e, he, by simpa using h⟩
theorem floor_below (hs : Srt f L) {e : Int × Int} {i : Nat} (hi : L[i]? = some e) (h : f e.1 < f key) : ∃ p, floorA f key L = some p ∧ f e.1 ≤ f p.1 := by
  obtain ⟨hl, rfl⟩ := List.getElem?_eq_some_iff.1 hi
  have hr := below_rank hs hl h
  unfold floorA
  by_cases hh : hasA f key L = true
  · obtain ⟨p, hp, he⟩ := has_val hh
    rw [if_pos hh]
    exact ⟨p, hp, by omega⟩
  · rw [if_neg hh, if_neg (by omega)]
    have hlt : rank f key L - 1 < L.length := by have := rank_le (f := f) key L; omega
    exact ⟨_, List.getElem?_eq_getElem hlt, srt_le hs (by omega) hlt⟩
theorem ceil_above (hs : Srt f L) {e : Int × Int} {i : Nat} (hi : L[i]? = some e) (h : f key < f e.1) : ∃ p, ceilA f key L = some p ∧ f p.1 ≤ f e.1 := by
  obtain ⟨hl, rfl⟩ := List.getElem?_eq_some_iff.1 hi
  have hr : rank f key L ≤ i := by
    refine Classical.byContradiction fun hn => ?_
    have := rank_lt (f := f) (k := key) (L := L) (i := i) (by omega) hl
    omega
  unfold ceilA
  exact ⟨_, List.getElem?_eq_getElem (by omega), srt_le hs hr hl⟩
/-- There, or Floor and Ceiling are not one pair. -/
theorem between_cases (hs : Srt f L) : (hasA f key L = true ∧ ∃ e, floorA f key L = some e ∧ ceilA f key L = some e) ∨
    (hasA f key L = false ∧ (floorA f key L = none ∨ ceilA f key L = none ∨ ∃ p q, floorA f key L = some p ∧ ceilA f key L = some q ∧ p.1 ≠ q.1)) := by
  cases hh : hasA f key L with
  | true =>
    obtain ⟨e, he, -⟩ := has_val hh
    exact .inl ⟨rfl, e, by unfold floorA; rw [hh, if_pos rfl, he], he⟩
  | false =>
    refine .inr ⟨rfl, ?_⟩
    unfold floorA ceilA
    rw [hh, if_neg (by simp)]
    by_cases h0 : rank f key L = 0
    · rw [if_pos h0]; exact .inl rfl
    · rw [if_neg h0]
      by_cases h1 : rank f key L < L.length
      · refine .inr (.inr ⟨_, _, List.getElem?_eq_getElem (by omega), List.getElem?_eq_getElem h1, fun e => ?_⟩)
        have := List.pairwise_iff_getElem.1 hs (rank f key L - 1) (rank f key L) (by omega) h1 (by omega)
        rw [e] at this
        omega
      · exact .inr (.inl (List.getElem?_eq_none (by omega)))
end

@[go_sem] theorem run_field_keys (a1 : Option Addr) (n c1 : Nat) (a2 : Option Addr) (c2 : Nat) (k : Int) (b : Bool) (W : World) :
    (Instr.field 34 (.agg #[.slice a1 n c1, .slice a2 n c2, .int .i64 k, .bool b]) 0).run Try.prog W = .ok (.slice a1 n c1) W := by kernel_rfl

theorem ord_cmp {kind m x y : Int} (h : ordf kind m x ≤ ordf kind m y) : ∃ c, cmpI (ordf kind m x) (ordf kind m y) = c ∧ decide (0 < c) = false := by
  refine ⟨_, rfl, ?_⟩
  rw [decide_eq_false_iff_not]
  unfold cmpI
  split
  · omega
  · split <;> omega
theorem ord_cmp2 {kind m x y : Int} (h : ordf kind m y ≤ ordf kind m x) : ∃ c, cmpI (ordf kind m x) (ordf kind m y) = c ∧ decide (c < 0) = false := by
  refine ⟨_, rfl, ?_⟩
  rw [decide_eq_false_iff_not]
  unfold cmpI
  split
  · omega
  · split <;> omega

set_option maxRecDepth 100000 in
set_option maxHeartbeats 6400000 in
theorem between_main {w : World} {kind m : Int} {v : Value} {acts : List Act3} (ha : ActsIn w w.heap.size v acts) (hp : kind = 0 ∨ kind = 1) (hlen : acts.length ≤ 300) (key : Int) :
    Calls Try.prog 25 #[.agg #[.int .i64 kind, .int .i64 m], v, .int .i64 key] w fun e w' => e = .returned (.bool true) ∧ Below w.heap.size w w' := by
  obtain ⟨ao, cap, rfl⟩ := ha.len
  have PL := hid (Plain_any kind m (w.alloc (.cells #[.int .i64 kind, .int .i64 m] 23)))
  rw [decide_eq_true hp] at PL
  have K0 : Keep (fun _ => False) w (w.alloc (.cells #[.int .i64 kind, .int .i64 m] 23)) := (Keep.refl _ _).alloc _
  have HA := hid (ha.keep K0 fun _ _ => id)
  have HOK := hid (OrdOk.plain (m := m) hp)
  obtain ⟨L, hL⟩ : ∃ L, runA (ordf kind m) acts = L := ⟨_, rfl⟩
  have HS := hid (show Srt (ordf kind m) L by rw [← hL]; exact runA_srt acts)
  obtain ⟨n, hn⟩ : ∃ n, L.length = n := ⟨_, rfl⟩
  have hn3 : n ≤ 300 := by rw [← hn, ← hL]; have := runA_len (f := ordf kind m) acts; omega
  have MI := hid (fun W (hW : Keep (fun _ => False) (w.alloc (.cells #[.int .i64 kind, .int .i64 m] 23)) W) => MapFloor_any key HOK.out (HA.out.keep hW fun _ _ => id) (Nat.le_trans (Nat.le_succ _) (by have := hW.size; simpa using this)) (by omega : acts.length ≤ 100000))
  have MA := hid (fun W (hW : Keep (fun _ => False) (w.alloc (.cells #[.int .i64 kind, .int .i64 m] 23)) W) => MapCeiling_any key HOK.out (HA.out.keep hW fun _ _ => id) (Nat.le_trans (Nat.le_succ _) (by have := hW.size; simpa using this)) (by omega : acts.length ≤ 100000))
  have MG := hid (fun W (hW : Keep (fun _ => False) (w.alloc (.cells #[.int .i64 kind, .int .i64 m] 23)) W) => (MapGet_any key HOK.out (HA.out.keep hW fun _ _ => id) (Nat.le_trans (Nat.le_succ _) (by have := hW.size; simpa using this)) (by omega : acts.length ≤ 100000)).mono (fun e w' h => (⟨h.1, KeepFrom.none h.2⟩ : _ ∧ Keep (fun _ => False) W w')))
  have S0 := hid (mapState_out HOK.out HA.out (by simp) (by omega : acts.length ≤ 100000) hL hn)
  have K0 := hid K0
  unfold mget at MG
  rw [hL] at MI MA MG
  obtain ⟨px, py, pb, hpq⟩ := pairV_form (floorA (ordf kind m) key L)
  obtain ⟨qx, qy, qb, hqq⟩ := pairV_form (ceilA (ordf kind m) key L)
  obtain ⟨gx, gb, hgg⟩ : ∃ gx gb, getR (look (ordf kind m) key L) = (gx, gb) := ⟨_, _, rfl⟩
  rw [hpq] at MI
  rw [hqq] at MA
  rw [hgg] at MG
  simp only at MG
  have HP := hid (And.intro hpq (And.intro hqq hgg))
  have HN := hid hn
  clear ha hp hL hn hpq hqq hgg HA
  go_enter Try.func25, Try.ntmps25
  go_wp2_with (go_at_call 26; refine PL.out.mono ?_; rintro e w1 ⟨rfl, hk⟩; have K1 := hid hk; clear hk)
  have HO := hid (ocells K1.out)
  go_cut [7, 8] (fun s7 s8 wx => TwoPairs w1 (px, py, pb) (qx, qy, qb) s7 s8 wx)
  case first =>
    go_region_held3 (fun w' => w'.cell? ⟨w.heap.size, 0, none⟩ = some (.int .i64 kind) ∧ w'.cell? ⟨w.heap.size, 1, none⟩ = some (.int .i64 m))
      (first
        | (refine ⟨Keep.cell (w := w1) (S := fun _ => False) ?_ HO.out.1 id, Keep.cell (w := w1) (S := fun _ => False) ?_ HO.out.2 id⟩ <;> ((repeat (first | (with_reducible apply Keep.drew) | (with_reducible apply Keep.alloc) | (with_reducible apply Keep.drewN) | (with_reducible refine Keep.freshSet ?_ (by omega) _ _))); (first | (with_reducible exact K3.out) | (with_reducible exact K2.out) | (with_reducible exact Keep.refl _ _) | fail)))
        | fail)
      (first
        | (go_at_call 49; refine (MI.out _ (by (repeat (first | (with_reducible apply Keep.drew) | (with_reducible apply Keep.alloc) | (with_reducible apply Keep.drewN))); exact K1.out)).mono ?_; rintro e w2 ⟨rfl, hk⟩; have K2 := hid (show Keep (fun _ => False) w1 w2 from (Keep.trans (by (repeat (first | (with_reducible apply Keep.drew) | (with_reducible apply Keep.alloc) | (with_reducible apply Keep.drewN))); exact Keep.refl _ _) hk)); have n2 := K2.out.size; have BA := hid (z3_keep hk (z3_two_a w1 _ rfl)); have BB := hid (z3_keep hk (z3_two_b w1 _ rfl)); have zal := lt_of_heap BA.out; have zan := Nat.ne_of_lt zal; have zan2 := Nat.ne_of_gt zal; clear hk)
        | (go_at_call 49; refine (MI.out _ (by (repeat (first | (with_reducible apply Keep.drew) | (with_reducible apply Keep.alloc) | (with_reducible apply Keep.drewN))); exact K1.out)).mono ?_; rintro e w2 ⟨rfl, hk⟩; have K2 := hid (show Keep (fun _ => False) w1 w2 from (Keep.trans (by (repeat (first | (with_reducible apply Keep.drew) | (with_reducible apply Keep.alloc) | (with_reducible apply Keep.drewN))); exact Keep.refl _ _) hk)); have n2 := K2.out.size; have BA := hid (z3_keep hk (z3_new w1 _ rfl)); have zal := lt_of_heap BA.out; have zan := Nat.ne_of_lt zal; have zan2 := Nat.ne_of_gt zal; clear hk)
        | (go_at_call 49; refine (MI.out _ (by (repeat (first | (with_reducible apply Keep.drew) | (with_reducible apply Keep.alloc) | (with_reducible apply Keep.drewN))); exact K1.out)).mono ?_; rintro e w2 ⟨rfl, hk⟩; have K2 := hid (show Keep (fun _ => False) w1 w2 from (Keep.trans (by (repeat (first | (with_reducible apply Keep.drew) | (with_reducible apply Keep.alloc) | (with_reducible apply Keep.drewN))); exact Keep.refl _ _) hk)); have n2 := K2.out.size; clear hk)
        | (go_at_call 47; refine (MA.out _ (K1.out.trans (by (repeat (first | (with_reducible apply Keep.drew) | (with_reducible apply Keep.alloc) | (with_reducible apply Keep.drewN))); exact K2.out))).mono ?_; rintro e w3 ⟨rfl, hk⟩; have K3 := hid (show Keep (fun _ => False) w1 w3 from (Keep.trans (by (repeat (first | (with_reducible apply Keep.drew) | (with_reducible apply Keep.alloc) | (with_reducible apply Keep.drewN))); exact K2.out) hk)); have n3 := K3.out.size; have K23 := hid (show Keep (fun _ => False) w2 w3 from (Keep.trans (by (repeat (first | (with_reducible apply Keep.drew) | (with_reducible apply Keep.alloc) | (with_reducible apply Keep.drewN))); exact Keep.refl _ _) hk)); have BA3 := hid (z3_keep K23.out BA.out); have BB3 := hid (z3_keep K23.out BB.out); obtain ⟨ya0, ya1, ya2, yap⟩ := z3_facts BA3.out; have yal := lt_of_heap BA3.out; have yan := Nat.ne_of_lt yal; have yan2 := Nat.ne_of_gt yal; obtain ⟨yb0, yb1, yb2, ybp⟩ := z3_facts BB3.out; clear hk)
        | (go_at_call 47; refine (MA.out _ (K1.out.trans (by (repeat (first | (with_reducible apply Keep.drew) | (with_reducible apply Keep.alloc) | (with_reducible apply Keep.drewN))); exact K2.out))).mono ?_; rintro e w3 ⟨rfl, hk⟩; have K3 := hid (show Keep (fun _ => False) w1 w3 from (Keep.trans (by (repeat (first | (with_reducible apply Keep.drew) | (with_reducible apply Keep.alloc) | (with_reducible apply Keep.drewN))); exact K2.out) hk)); have n3 := K3.out.size; have K23 := hid (show Keep (fun _ => False) w2 w3 from (Keep.trans (by (repeat (first | (with_reducible apply Keep.drew) | (with_reducible apply Keep.alloc) | (with_reducible apply Keep.drewN))); exact Keep.refl _ _) hk)); have BA3 := hid (z3_keep K23.out BA.out); have BB3 := hid (z3_keep hk (z3_new w2 _ rfl)); obtain ⟨ya0, ya1, ya2, yap⟩ := z3_facts BA3.out; have yal := lt_of_heap BA3.out; have yan := Nat.ne_of_lt yal; have yan2 := Nat.ne_of_gt yal; obtain ⟨yb0, yb1, yb2, ybp⟩ := z3_facts BB3.out; clear hk)
        | (go_at_call 47; refine (MA.out _ (K1.out.trans (by (repeat (first | (with_reducible apply Keep.drew) | (with_reducible apply Keep.alloc) | (with_reducible apply Keep.drewN))); exact K2.out))).mono ?_; rintro e w3 ⟨rfl, hk⟩; have K3 := hid (show Keep (fun _ => False) w1 w3 from (Keep.trans (by (repeat (first | (with_reducible apply Keep.drew) | (with_reducible apply Keep.alloc) | (with_reducible apply Keep.drewN))); exact K2.out) hk)); have n3 := K3.out.size; have K23 := hid (show Keep (fun _ => False) w2 w3 from (Keep.trans (by (repeat (first | (with_reducible apply Keep.drew) | (with_reducible apply Keep.alloc) | (with_reducible apply Keep.drewN))); exact Keep.refl _ _) hk)); have BA3 := hid (z3_keep K23.out BA.out); obtain ⟨ya0, ya1, ya2, yap⟩ := z3_facts BA3.out; have yal := lt_of_heap BA3.out; have yan := Nat.ne_of_lt yal; have yan2 := Nat.ne_of_gt yal; have yA0 := cellA2 ya0; have yA1 := cellA2 ya1; have yA2 := cellA2 ya2; clear hk)
        | (go_at_call 47; refine (MA.out _ (K1.out.trans (by (repeat (first | (with_reducible apply Keep.drew) | (with_reducible apply Keep.alloc) | (with_reducible apply Keep.drewN))); exact K2.out))).mono ?_; rintro e w3 ⟨rfl, hk⟩; have K3 := hid (show Keep (fun _ => False) w1 w3 from (Keep.trans (by (repeat (first | (with_reducible apply Keep.drew) | (with_reducible apply Keep.alloc) | (with_reducible apply Keep.drewN))); exact K2.out) hk)); have n3 := K3.out.size; have K23 := hid (show Keep (fun _ => False) w2 w3 from (Keep.trans (by (repeat (first | (with_reducible apply Keep.drew) | (with_reducible apply Keep.alloc) | (with_reducible apply Keep.drewN))); exact Keep.refl _ _) hk)); have BA3 := hid (z3_keep hk (z3_two_a w2 _ rfl)); have BB3 := hid (z3_keep hk (z3_two_b w2 _ rfl)); obtain ⟨ya0, ya1, ya2, yap⟩ := z3_facts BA3.out; have yal := lt_of_heap BA3.out; have yan := Nat.ne_of_lt yal; have yan2 := Nat.ne_of_gt yal; obtain ⟨yb0, yb1, yb2, ybp⟩ := z3_facts BB3.out; clear hk)
        | (go_at_call 47; refine (MA.out _ (K1.out.trans (by (repeat (first | (with_reducible apply Keep.drew) | (with_reducible apply Keep.alloc) | (with_reducible apply Keep.drewN))); exact K2.out))).mono ?_; rintro e w3 ⟨rfl, hk⟩; have K3 := hid (show Keep (fun _ => False) w1 w3 from (Keep.trans (by (repeat (first | (with_reducible apply Keep.drew) | (with_reducible apply Keep.alloc) | (with_reducible apply Keep.drewN))); exact K2.out) hk)); have n3 := K3.out.size; have K23 := hid (show Keep (fun _ => False) w2 w3 from (Keep.trans (by (repeat (first | (with_reducible apply Keep.drew) | (with_reducible apply Keep.alloc) | (with_reducible apply Keep.drewN))); exact Keep.refl _ _) hk)); have BA3 := hid (z3_keep hk (z3_new w2 _ rfl)); obtain ⟨ya0, ya1, ya2, yap⟩ := z3_facts BA3.out; have yal := lt_of_heap BA3.out; have yan := Nat.ne_of_lt yal; have yan2 := Nat.ne_of_gt yal; have yA0 := cellA2 ya0; have yA1 := cellA2 ya1; have yA2 := cellA2 ya2; clear hk)
        | (go_at_call 47; refine (MA.out _ (K1.out.trans (by (repeat (first | (with_reducible apply Keep.drew) | (with_reducible apply Keep.alloc) | (with_reducible apply Keep.drewN))); exact K2.out))).mono ?_; rintro e w3 ⟨rfl, hk⟩; have K3 := hid (show Keep (fun _ => False) w1 w3 from (Keep.trans (by (repeat (first | (with_reducible apply Keep.drew) | (with_reducible apply Keep.alloc) | (with_reducible apply Keep.drewN))); exact K2.out) hk)); have n3 := K3.out.size; have K23 := hid (show Keep (fun _ => False) w2 w3 from (Keep.trans (by (repeat (first | (with_reducible apply Keep.drew) | (with_reducible apply Keep.alloc) | (with_reducible apply Keep.drewN))); exact Keep.refl _ _) hk)); clear hk)
        | fail)
    all_goals (go_wp2_with (fail); go_meet; refine ⟨⟨_, _, rfl, rfl, ?_, ?_⟩, ?_⟩; (focus (repeat (first | (with_reducible exact BA3.out) | (with_reducible exact BB3.out) | ((with_reducible refine p3_new _ (px, py, pb) ?_); (first | rfl | (simp; done))) | (with_reducible refine p3_alloc (p := (px, py, pb)) ?_ _) | (with_reducible refine p3_set (p := (px, py, pb)) ?_) | (with_reducible refine p3_far (p := (px, py, pb)) ?_ (by omega) _ _ _) | (with_reducible refine z3_far ?_ (by omega) _ _ _)))); (focus (repeat (first | (with_reducible exact BA3.out) | (with_reducible exact BB3.out) | ((with_reducible refine p3_new _ (qx, qy, qb) ?_); (first | rfl | (simp; done))) | (with_reducible refine p3_alloc (p := (qx, qy, qb)) ?_ _) | (with_reducible refine p3_set (p := (qx, qy, qb)) ?_) | (with_reducible refine p3_far (p := (qx, qy, qb)) ?_ (by omega) _ _ _) | (with_reducible refine z3_far ?_ (by omega) _ _ _)))); ((repeat (first | (with_reducible apply Keep.drew) | (with_reducible apply Keep.alloc) | (with_reducible apply Keep.drewN) | (with_reducible refine Keep.freshSet ?_ (by omega) _ _))); with_reducible exact K3.out))
  case rest =>
    obtain ⟨⟨g, h, rfl, rfl, hg, hh⟩, hk⟩ := hcut
    have HGH := hid (And.intro hg hh)
    have K4 := hid (K1.out.trans hk)
    clear hg hh hk
    obtain ⟨o0, o1⟩ := ocells K4.out
    go_wp2_with (fail)
    refine (MG.out _ K4.out).mono ?_
    rintro e w5 ⟨rfl, hk⟩
    have K45 := hid hk
    have K5 := hid (K4.out.trans hk)
    clear hk o0 o1
    obtain ⟨o0, o1⟩ := ocells K5.out
    go_wp2_with (fail)
    refine (S0.out _ K5.out).mono ?_
    rintro e W ⟨a1, c1, a2, c2, rfl, r1, r2, hk⟩
    have Q1 := hid r1
    have KW := hid (K5.out.trans hk)
    have HF : Hid (∀ wr, Keep (fun _ => False) W wr → wr.cell? ⟨w.heap.size, 0, none⟩ = some (.int .i64 kind) ∧ wr.cell? ⟨w.heap.size, 1, none⟩ = some (.int .i64 m) ∧ wr.cell? ⟨g, 0, none⟩ = some (.int .i64 px) ∧ wr.cell? ⟨g, 2, none⟩ = some (.bool pb) ∧ wr.cell? ⟨h, 0, none⟩ = some (.int .i64 qx) ∧ wr.cell? ⟨h, 2, none⟩ = some (.bool qb)) := by
      intro wr hwr
      obtain ⟨u0, u1⟩ := ocells (KW.out.trans hwr)
      have kk := K45.out.trans (hk.trans hwr)
      obtain ⟨v0, v1, v2⟩ := p3_cells HGH.out.1
      obtain ⟨x0, x1, x2⟩ := p3_cells HGH.out.2
      exact ⟨u0, u1, kk.cell v0 id, kk.cell v2 id, kk.cell x0 id, kk.cell x2 id⟩
    have HF1 : Hid (∀ wr, Keep (fun _ => False) W wr → wr.cell? ⟨g, 1, none⟩ = some (.int .i64 py) ∧ wr.cell? ⟨h, 1, none⟩ = some (.int .i64 qy)) := by
      intro wr hwr
      have kk := K45.out.trans (hk.trans hwr)
      obtain ⟨v0, v1, v2⟩ := p3_cells HGH.out.1
      obtain ⟨x0, x1, x2⟩ := p3_cells HGH.out.2
      exact ⟨kk.cell v1 id, kk.cell x1 id⟩
    clear hk r1 r2 o0 o1
    go_wp2_with (fail)
    go_loopw [44] (fun i wr => ∃ k : Nat, k ≤ n ∧ i = .int .i64 k ∧ Keep (fun _ => False) W wr) (fun i _ => n - (intOf i).toNat)
    case atStart => exact ⟨0, Nat.zero_le _, rfl, Keep.refl _ _⟩
    case round =>
      obtain ⟨k, hk, rfl, hkr⟩ := hrel
      have KR := hid hkr
      obtain ⟨o0, o1, g0, g2, h0, h2⟩ := HF.out _ hkr
      clear hkr
      by_cases hlt : k < n
      · obtain ⟨e0, he0⟩ : ∃ e0, L[k]? = some e0 := ⟨_, List.getElem?_eq_getElem (by rw [HN.out]; omega)⟩
        obtain ⟨x, y⟩ := e0
        obtain ⟨b, f, t0, t1⟩ := num_at (k := k) (x := x) Q1.out (by rw [List.getElem?_map, he0]; rfl)
        subst t0
        have t2 := KR.out.cell t1 id
        clear t1
        rcases Int.lt_trichotomy (ordf kind m x) (ordf kind m key) with hc | hc | hc
        · obtain ⟨p, hfl, hle⟩ := floor_below HS.out he0 hc
          obtain ⟨rfl, rfl, rfl⟩ := pair_some (show pairV (some p) = .agg #[.int .i64 px, .int .i64 py, .bool pb] by rw [← HP.out.1, hfl])
          obtain ⟨c2', hc2, hd2⟩ := ord_cmp hle
          have C1 := hid (Compare_is HOK.out (a := x) (b := key) (cmpI_lt hc))
          have C2 := hid (Compare_is HOK.out (a := x) (b := p.1) hc2)
          clear hfl hle hc2 hc he0
          go_wp2_with (fail)
          refine (C1.out _).mono ?_
          rintro e w2 ⟨rfl, hk⟩
          have K2 := hid (KR.out.trans hk)
          clear hk o0 o1 g0 g2 h0 h2
          obtain ⟨o0, o1, g0, g2, h0, h2⟩ := HF.out _ K2.out
          go_wp2_with (fail)
          refine (C2.out _).mono ?_
          rintro e w3 ⟨rfl, hk⟩
          have K3 := hid (K2.out.trans hk)
          clear hk o0 o1 g0 g2 h0 h2
          obtain ⟨o0, o1, g0, g2, h0, h2⟩ := HF.out _ K3.out
          go_wp2_with (fail)
          refine (C1.out _).mono ?_
          rintro e w6 ⟨rfl, hk⟩
          have K6 := hid (K3.out.trans hk)
          clear hk o0 o1 g0 g2 h0 h2
          obtain ⟨o0, o1, g0, g2, h0, h2⟩ := HF.out _ K6.out
          go_wp2_with (fail)
          go_roundw
          case rel => exact ⟨k + 1, by omega, by go_num, K6.out⟩
          case measure => simp [intOf]; omega
        · have C1 := hid (Compare_is HOK.out (a := x) (b := key) (cmpI_eq hc))
          clear hc he0
          go_wp2_with (fail)
          refine (C1.out _).mono ?_
          rintro e w2 ⟨rfl, hk⟩
          have K2 := hid (KR.out.trans hk)
          clear hk o0 o1 g0 g2 h0 h2
          obtain ⟨o0, o1, g0, g2, h0, h2⟩ := HF.out _ K2.out
          go_wp2_with (fail)
          refine (C1.out _).mono ?_
          rintro e w6 ⟨rfl, hk⟩
          have K6 := hid (K2.out.trans hk)
          clear hk o0 o1 g0 g2 h0 h2
          obtain ⟨o0, o1, g0, g2, h0, h2⟩ := HF.out _ K6.out
          go_wp2_with (fail)
          go_roundw
          case rel => exact ⟨k + 1, by omega, by go_num, K6.out⟩
          case measure => simp [intOf]; omega
        · obtain ⟨p, hfl, hle⟩ := ceil_above HS.out he0 hc
          obtain ⟨rfl, rfl, rfl⟩ := pair_some (show pairV (some p) = .agg #[.int .i64 qx, .int .i64 qy, .bool qb] by rw [← HP.out.2.1, hfl])
          obtain ⟨c2', hc2, hd2⟩ := ord_cmp2 hle
          have C1 := hid (Compare_is HOK.out (a := x) (b := key) (cmpI_gt hc))
          have C2 := hid (Compare_is HOK.out (a := x) (b := p.1) hc2)
          clear hfl hle hc2 hc he0
          go_wp2_with (fail)
          refine (C1.out _).mono ?_
          rintro e w2 ⟨rfl, hk⟩
          have K2 := hid (KR.out.trans hk)
          clear hk o0 o1 g0 g2 h0 h2
          obtain ⟨o0, o1, g0, g2, h0, h2⟩ := HF.out _ K2.out
          go_wp2_with (fail)
          refine (C1.out _).mono ?_
          rintro e w3 ⟨rfl, hk⟩
          have K3 := hid (K2.out.trans hk)
          clear hk o0 o1 g0 g2 h0 h2
          obtain ⟨o0, o1, g0, g2, h0, h2⟩ := HF.out _ K3.out
          go_wp2_with (fail)
          refine (C2.out _).mono ?_
          rintro e w6 ⟨rfl, hk⟩
          have K6 := hid (K3.out.trans hk)
          clear hk o0 o1 g0 g2 h0 h2
          obtain ⟨o0, o1, g0, g2, h0, h2⟩ := HF.out _ K6.out
          go_wp2_with (fail)
          go_roundw
          case rel => exact ⟨k + 1, by omega, by go_num, K6.out⟩
          case measure => simp [intOf]; omega
      · obtain rfl : n = k := by omega
        obtain ⟨g1, h1⟩ := HF1.out _ KR.out
        have KE := hid (KW.out.trans KR.out)
        rcases between_cases (key := key) HS.out with ⟨hh, p, hfl, hce⟩ | ⟨hh, hor⟩
        · obtain ⟨rfl, rfl, rfl⟩ := pair_some (show pairV (some p) = .agg #[.int .i64 px, .int .i64 py, .bool pb] by rw [← HP.out.1, hfl])
          obtain ⟨rfl, rfl, rfl⟩ := pair_some (show pairV (some p) = .agg #[.int .i64 qx, .int .i64 qy, .bool qb] by rw [← HP.out.2.1, hce])
          obtain rfl : gb = true := by
            have := HP.out.2.2
            rw [look_rank, hh, if_pos rfl, show L[rank (ordf kind m) key L]? = some p from hce] at this
            simp [getR] at this
            exact this.2
          have ex : (p.1 == p.1) = true := by simp
          have ey : (p.2 == p.2) = true := by simp
          clear hh hfl hce
          go_wp2_with (go_at_call 31; refine (keeps_any _).mono ?_; rintro e w8 ⟨rfl, hk⟩; have K8 := hid (KE.out.trans hk); clear hk)
          go_ret
          exact ⟨rfl, (K0.out.trans K8.out).to_below⟩
        · obtain rfl : gb = false := by
            have := HP.out.2.2
            rw [look_rank, hh] at this
            simp [getR] at this
            exact this.2
          rcases hor with hfl | hce | ⟨p, q, hfl, hce, hne⟩
          · obtain ⟨rfl, rfl, rfl⟩ := pair_none (show pairV none = .agg #[.int .i64 px, .int .i64 py, .bool pb] by rw [← HP.out.1, hfl])
            clear hh hfl
            go_wp2_with (go_at_call 31; refine (keeps_any _).mono ?_; rintro e w8 ⟨rfl, hk⟩; have K8 := hid (KE.out.trans hk); clear hk)
            go_ret
            exact ⟨rfl, (K0.out.trans K8.out).to_below⟩
          · obtain ⟨rfl, rfl, rfl⟩ := pair_none (show pairV none = .agg #[.int .i64 qx, .int .i64 qy, .bool qb] by rw [← HP.out.2.1, hce])
            cases pb with
            | false =>
              clear hh hce
              go_wp2_with (go_at_call 31; refine (keeps_any _).mono ?_; rintro e w8 ⟨rfl, hk⟩; have K8 := hid (KE.out.trans hk); clear hk)
              go_ret
              exact ⟨rfl, (K0.out.trans K8.out).to_below⟩
            | true =>
              clear hh hce
              go_wp2_with (go_at_call 31; refine (keeps_any _).mono ?_; rintro e w8 ⟨rfl, hk⟩; have K8 := hid (KE.out.trans hk); clear hk)
              go_ret
              exact ⟨rfl, (K0.out.trans K8.out).to_below⟩
          · obtain ⟨rfl, rfl, rfl⟩ := pair_some (show pairV (some p) = .agg #[.int .i64 px, .int .i64 py, .bool pb] by rw [← HP.out.1, hfl])
            obtain ⟨rfl, rfl, rfl⟩ := pair_some (show pairV (some q) = .agg #[.int .i64 qx, .int .i64 qy, .bool qb] by rw [← HP.out.2.1, hce])
            have ex : (p.1 == q.1) = false := by simpa using hne
            clear hh hfl hce hne
            go_wp2_with (go_at_call 31; refine (keeps_any _).mono ?_; rintro e w8 ⟨rfl, hk⟩; have K8 := hid (KE.out.trans hk); clear hk)
            go_ret
            exact ⟨rfl, (K0.out.trans K8.out).to_below⟩

set_option maxRecDepth 100000 in
set_option maxHeartbeats 1600000 in
theorem fnBetween_walk {w : World} (kind m : Int) (v : Value) (acts : List Act3) (ha : ActsIn w w.heap.size v acts) (hn : acts.length ≤ maxLen) (key : Int) :
    Calls Try.prog 25 #[.agg #[.int .i64 kind, .int .i64 m], v, .int .i64 key] w fun e w' => e = .returned (.bool true) ∧ Below w.heap.size w w' := by
  unfold maxLen at hn
  by_cases hp : kind = 0 ∨ kind = 1
  · by_cases h300 : acts.length ≤ 300
    · exact between_main ha hp h300 key
    · obtain ⟨ao, cap, rfl⟩ := ha.len
      have PL := hid (Plain_any kind m (w.alloc (.cells #[.int .i64 kind, .int .i64 m] 23)))
      rw [decide_eq_true hp] at PL
      have h3 : (300 : Int) < acts.length := by omega
      clear ha hp h300
      by_cases hbig : (2147483647 : Int) < acts.length
      · go_enter Try.func25, Try.ntmps25
        go_wp2_with (fail)
        go_ret
        exact ⟨rfl, (Below.refl _ _).alloc (Nat.le_refl _) _⟩
      · go_enter Try.func25, Try.ntmps25
        go_wp2_with (go_at_call 26; refine PL.out.mono ?_; rintro e w1 ⟨rfl, hk⟩; have K1 := hid (((Keep.refl (fun _ => False) w).alloc _).trans hk); clear hk)
        go_ret
        exact ⟨rfl, K1.out.to_below⟩
  · obtain ⟨ao, cap, rfl⟩ := ha.len
    have PL := hid (Plain_any kind m (w.alloc (.cells #[.int .i64 kind, .int .i64 m] 23)))
    rw [decide_eq_false hp] at PL
    clear ha hp
    by_cases hbig : (2147483647 : Int) < acts.length
    · go_enter Try.func25, Try.ntmps25
      go_wp2_with (fail)
      go_ret
      exact ⟨rfl, (Below.refl _ _).alloc (Nat.le_refl _) _⟩
    · go_enter Try.func25, Try.ntmps25
      go_wp2_with (go_at_call 26; refine PL.out.mono ?_; rintro e w1 ⟨rfl, hk⟩; have K1 := hid (((Keep.refl (fun _ => False) w).alloc _).trans hk); clear hk)
      go_ret
      exact ⟨rfl, K1.out.to_below⟩
end Go.Proofs.Ytdamfannmlncnaa
