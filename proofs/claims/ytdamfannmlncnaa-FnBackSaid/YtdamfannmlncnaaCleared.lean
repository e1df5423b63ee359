/- What was cleared is as new: the walk of the law FnCleared, for every order and all acts. -/
import Derived.Test.YtdamfannmlncnaaSame
import Derived.Deep.RegionHeld3
namespace Go.Proofs.Ytdamfannmlncnaa
open Go.RowKit
set_option linter.unusedVariables false
set_option linter.unusedSimpArgs false

theorem stepA_clear' (f : Int → Int) (L : List (Int × Int)) (k v : Int) : stepA f L (3, k, v) = [] := by simp [stepA]
theorem runA_cleared (f : Int → Int) (xs1 xs2 : List Act3) (k v : Int) : runA f (xs1 ++ [(3, k, v)] ++ xs2) = runA f xs2 := by
  unfold runA
  rw [List.foldl_append, List.foldl_append]
  simp [stepA_clear']

/-- Two rows of acts, one behind the other. -/
theorem acts_app {w3 : World} {base : Nat} {v2 : Value} {xs1 xs2 : List Act3} {n : Nat} {xs : List Value} (h : w3.ownsRow base 27 3 v2 n xs) (hn : n = xs1.length + xs2.length) (hx : xs = xs1.flatMap encA ++ xs2.flatMap encA) : ActsIn w3 w3.heap.size v2 (xs1 ++ xs2) := by
  subst hn; subst hx
  refine RowIn.of_owns (sz := 3) (base := base) (e := 27) ?_
  rw [List.length_append, List.flatMap_append]
  exact h

theorem mapState_on {w5 : World} {kind m : Int} {v : Value} {acts : List Act3} (hok : OrdOk kind m) {B : Nat} (ha : ActsIn w5 B v acts) (hB : B ≤ w5.heap.size) (hlen : acts.length ≤ 100000) (W : World) (hk : Keep (fun _ => False) w5 W) :
    Calls Try.prog 30 #[.agg #[.int .i64 kind, .int .i64 m], v] W fun e w' => ∃ sv, e = .returned sv ∧ StateIn w' 0 sv (runA (ordf kind m) acts) ∧ Keep (fun _ => False) W w' :=
  (mapState_any hok ((ha.keep hk fun _ _ => id).mono (Nat.le_trans hB hk.size)) hlen).mono fun e w' ⟨sv, he, hs, hk⟩ => ⟨sv, he, hs.mono (Nat.zero_le _), hk⟩

theorem Keep.undrew {S : Nat → Prop} {w w' : World} (h : Keep S w.drew w') : Keep S w w' := ⟨h.os, h.tape, h.output, h.size, h.block⟩
theorem Keep.undrewN {S : Nat → Prop} {w w' : World} {n : Nat} (h : Keep S (w.drewN n) w') : Keep S w w' := ⟨h.os, h.tape, h.output, h.size, h.block⟩

set_option maxRecDepth 100000 in
set_option maxHeartbeats 3200000 in
theorem cleared_main {w : World} {kind m : Int} {v1 v2 : Value} {xs1 xs2 : List Act3} (ha : ActsIn w w.heap.size v1 xs1) (hb : ActsIn w w.heap.size v2 xs2) (hok : OrdOk kind m) (hl1 : xs1.length ≤ 300) (hl2 : xs2.length ≤ 300) :
    Calls Try.prog 4 #[.agg #[.int .i64 kind, .int .i64 m], v1, v2] w fun e w' => e = .returned (.bool true) ∧ Below w.heap.size w w' := by
  obtain ⟨a1, c1, rfl⟩ := ha.len
  obtain ⟨a2, c2, rfl⟩ := hb.len
  have PL := hid (orderOk_any kind m (w.alloc (.cells #[.int .i64 kind, .int .i64 m] 23)))
  rw [decide_eq_true hok] at PL
  have K0 : Keep (fun _ => False) w (w.alloc (.cells #[.int .i64 kind, .int .i64 m] 23)) := (Keep.refl _ _).alloc _
  have HA := hid (ha.keep K0 fun _ _ => id)
  have HB := hid (hb.keep K0 fun _ _ => id)
  have K0 := hid K0
  have HP := hid hok
  obtain ⟨i0, hi, hz0, hz1, hz2⟩ := info_parts info27
  have HI := hid (And.intro hi (And.intro hz0 (And.intro hz1 hz2)))
  clear hi hz0 hz1 hz2 ha hb hok
  go_enter Try.func4, Try.ntmps4
  go_wp2_with (first | (go_at_call 28; refine PL.out.mono ?_; rintro e w1 ⟨rfl, hk⟩; have K1 := hid hk; clear hk) | (at_builtin; refine wpList_app rfl (.tmp 29) (.tmp 30) 24 rfl (w.alloc (.cells #[.int .i64 kind, .int .i64 m] 23)).heap.size 27 i0 _ 3 24 Try.underlying24 HI.out.1 HI.out.2.1 HI.out.2.2.1 HI.out.2.2.2 rfl (by decide) _ 0 [] rfl (World.ownsRow_made _ #[] 0 K1.out.size (by decide) rfl) _ xs1.length _ rfl ((HA.out.keep (K1.out.alloc _) fun _ _ => id).src encA_len encA_one) (by unfold maxLen; omega) (by omega) (by have := K1.out.size; simp at *; omega) ?_; intro v3 w2 hown hgr; have K2 := hid (keep_app (w1 := w1.alloc (.cells #[] 27)) (K1.out.alloc _) (World.ownsRow_made (e := 27) (size := 3) w1 #[] 0 K1.out.size (by decide) rfl) hgr); have O2 := hid hown; clear hown hgr) | (at_builtin; refine wpList_app rfl (.tmp 31) (.tmp 33) 24 rfl (w.alloc (.cells #[.int .i64 kind, .int .i64 m] 23)).heap.size 27 i0 _ 3 24 Try.underlying24 HI.out.1 HI.out.2.1 HI.out.2.2.1 HI.out.2.2.2 rfl (by decide) _ _ _ rfl (O2.out.alloc _) _ 1 _ rfl (src_one _ (encA (3, 0, 0)) 27 1 rfl (encA_one _)) (by unfold maxLen; omega) (by omega) (by have := K2.out.size; simp at *; omega) ?_; intro v4 w3 hown hgr; have K3 := hid (keep_app (K2.out.alloc _) (O2.out.alloc _) hgr); have O3 := hid hown; clear hown hgr) | (at_builtin; refine wpList_app rfl (.tmp 34) (.tmp 35) 24 rfl (w.alloc (.cells #[.int .i64 kind, .int .i64 m] 23)).heap.size 27 i0 _ 3 24 Try.underlying24 HI.out.1 HI.out.2.1 HI.out.2.2.1 HI.out.2.2.2 rfl (by decide) _ _ _ rfl O3.out _ xs2.length _ rfl ((HB.out.keep K3.out fun _ _ => id).src encA_len encA_one) (by unfold maxLen; omega) (by omega) (by have := K3.out.size; simp at *; omega) ?_; intro v5 w4 hown hgr; have K4 := hid (keep_app K3.out O3.out hgr); have O4 := hid hown; clear hown hgr))
  have A5 : ActsIn w4 w4.heap.size v5 (xs1 ++ [(3, 0, 0)] ++ xs2) := acts_app O4.out (by simp) (by simp)
  have ST1 := hid (mapState_on HP.out A5 (Nat.le_refl _) (by simp; omega))
  rw [runA_cleared] at ST1
  have ST2 := hid (mapState_on HP.out (HB.out.keep K4.out fun _ _ => id) (by have h4 := K4.out.size; simp at h4; omega) (by omega : xs2.length ≤ 100000))
  obtain ⟨L, hL⟩ : ∃ L, L = runA (ordf kind m) xs2 := ⟨_, rfl⟩
  have HL := hid (show L.length ≤ 1000000 by rw [hL]; have := runA_len (f := ordf kind m) xs2; omega)
  rw [← hL] at ST1 ST2
  obtain ⟨o40, o41⟩ := ocells K4.out
  have HO := hid (And.intro o40 o41)
  clear hL A5
  clear o40 o41
  go_region_held3 (fun w' => w'.cell? ⟨w.heap.size, 0, none⟩ = some (.int .i64 kind) ∧ w'.cell? ⟨w.heap.size, 1, none⟩ = some (.int .i64 m))
    (first
      | exact HO.out
      | exact ⟨K5.out.cell HO.out.1 id, K5.out.cell HO.out.2 id⟩
      | exact ⟨K6.out.cell HO.out.1 id, K6.out.cell HO.out.2 id⟩
      | exact ⟨K7.out.cell HO.out.1 id, K7.out.cell HO.out.2 id⟩
      | exact ⟨K8.out.cell HO.out.1 id, K8.out.cell HO.out.2 id⟩
      | fail)
    (first
      | (go_at_call 31; refine (keeps_any _).mono ?_; rintro e w8 ⟨rfl, hk⟩; have K8 := hid (K7.out.trans (by first | exact hk | exact hk.undrew | exact hk.undrewN | fail)); clear hk)
      | (go_at_call 29; refine (sameState_any (by first | exact R7.out | exact R7.out.on ((Keep.refl _ _).drew) | fail) (by first | exact R6.out | exact R6.out.on ((Keep.refl _ _).drew) | fail) HL.out).mono ?_; rintro e w7 ⟨rfl, hk⟩; have K7 := hid (K6.out.trans (by first | exact hk | exact hk.undrew | exact hk.undrewN | fail)); clear hk)
      | (go_at_call 30; refine (ST1.out _ (by first | exact (Keep.refl _ _) | exact (Keep.refl _ _).drew | exact (Keep.refl _ _).drewN _ | fail)).mono ?_; rintro e w5 ⟨sv1, rfl, hs, hk⟩; have R5 := hid hs; have K5 := hid (show Keep (fun _ => False) w4 w5 from (by first | exact hk | exact hk.undrew | exact hk.undrewN | fail)); clear hs hk)
      | (go_at_call 30; refine (ST2.out _ (by first | exact K5.out | exact K5.out.drew | exact K5.out.drewN _ | fail)).mono ?_; rintro e w6 ⟨sv2, rfl, hs, hk⟩; have R6 := hid hs; have K6 := hid (K5.out.trans (by first | exact hk | exact hk.undrew | exact hk.undrewN | fail)); have R7 := hid (R5.out.on (by first | exact hk | exact hk.undrew | exact hk.undrewN | fail)); clear hs hk)
      | fail)
  go_wp2_with (fail)
  go_ret
  exact ⟨rfl, (K0.out.trans (K4.out.trans K8.out)).to_below⟩

set_option maxRecDepth 100000 in
set_option maxHeartbeats 1600000 in
theorem fnCleared_walk {w : World} (kind m : Int) (v1 : Value) (xs1 : List Act3) (ha : ActsIn w w.heap.size v1 xs1) (hn : xs1.length ≤ maxLen) (v2 : Value) (xs2 : List Act3) (hb : ActsIn w w.heap.size v2 xs2) (hn2 : xs2.length ≤ maxLen) :
    Calls Try.prog 4 #[.agg #[.int .i64 kind, .int .i64 m], v1, v2] w fun e w' => e = .returned (.bool true) ∧ Below w.heap.size w w' := by
  unfold maxLen at hn hn2
  by_cases hp : OrdOk kind m ∧ xs1.length ≤ 300 ∧ xs2.length ≤ 300
  · exact cleared_main ha hb hp.1 hp.2.1 hp.2.2
  · obtain ⟨a1, c1, rfl⟩ := ha.len
    obtain ⟨a2, c2, rfl⟩ := hb.len
    have PL := hid (orderOk_any kind m (w.alloc (.cells #[.int .i64 kind, .int .i64 m] 23)))
    clear ha hb
    by_cases hb1 : (2147483647 : Int) < xs1.length
    · have d1 : decide ((2147483647 : Int) < xs1.length) = true := decide_eq_true hb1
      clear hp
      go_enter Try.func4, Try.ntmps4
      go_wp2_with (fail)
      go_ret
      exact ⟨rfl, (Below.refl _ _).alloc (Nat.le_refl _) _⟩
    · have d1 : decide ((2147483647 : Int) < xs1.length) = false := decide_eq_false hb1
      by_cases hb2 : (2147483647 : Int) < xs2.length
      · have d2 : decide ((2147483647 : Int) < xs2.length) = true := decide_eq_true hb2
        clear hp
        go_enter Try.func4, Try.ntmps4
        go_wp2_with (fail)
        go_ret
        exact ⟨rfl, (Below.refl _ _).alloc (Nat.le_refl _) _⟩
      · have d2 : decide ((2147483647 : Int) < xs2.length) = false := decide_eq_false hb2
        by_cases hok : OrdOk kind m
        · rw [decide_eq_true hok] at PL
          by_cases h3 : (300 : Int) < xs1.length
          · have d3 : decide ((300 : Int) < xs1.length) = true := decide_eq_true h3
            clear hp hok
            go_enter Try.func4, Try.ntmps4
            go_wp2_with (go_at_call 28; refine PL.out.mono ?_; rintro e w1 ⟨rfl, hk⟩; have K1 := hid (((Keep.refl (fun _ => False) w).alloc _).trans hk); clear hk)
            go_ret
            exact ⟨rfl, K1.out.to_below⟩
          · have h4 : (300 : Int) < xs2.length := by
              refine Classical.byContradiction fun h4 => hp ⟨hok, ?_, ?_⟩ <;> omega
            have d3 : decide ((300 : Int) < xs1.length) = false := decide_eq_false h3
            have d4 : decide ((300 : Int) < xs2.length) = true := decide_eq_true h4
            clear hp hok
            go_enter Try.func4, Try.ntmps4
            go_wp2_with (go_at_call 28; refine PL.out.mono ?_; rintro e w1 ⟨rfl, hk⟩; have K1 := hid (((Keep.refl (fun _ => False) w).alloc _).trans hk); clear hk)
            go_ret
            exact ⟨rfl, K1.out.to_below⟩
        · rw [decide_eq_false hok] at PL
          clear hp hok
          go_enter Try.func4, Try.ntmps4
          go_wp2_with (go_at_call 28; refine PL.out.mono ?_; rintro e w1 ⟨rfl, hk⟩; have K1 := hid (((Keep.refl (fun _ => False) w).alloc _).trans hk); clear hk)
          go_ret
          exact ⟨rfl, K1.out.to_below⟩
end Go.Proofs.Ytdamfannmlncnaa
