/- An iterator moves over the pairs in order: the walk of the law FnExactWalk. -/
import Derived.Test.YtdamfannmlncnaaSpWalk
namespace Go.Proofs.Ytdamfannmlncnaa
open Go.RowKit
set_option linter.unusedVariables false
set_option linter.unusedSimpArgs false
attribute [local go_sem ↓] Go.wp_at_zero Go.wp_at_succ

/-- The three calls of a walk's law: what the map's iterator tells, what the reference tells, and that they are the same. -/
structure WalkKit3 (W0 : World) (kind m : Int) (ao : Option Addr) (n0 cap : Nat) (v3 : Value) (L : List (Int × Int)) (Z : List Seen3) : Prop where
  map : ∀ W, Keep (fun _ => False) W0 W → Calls Try.prog 34 #[.agg #[.int .i64 kind, .int .i64 m], .slice ao n0 cap, v3] W fun e w' => ∃ sv, e = .returned sv ∧ RowIn w' w'.heap.size encS sv Z ∧ Keep (fun _ => False) W w'
  ref : ∀ W lv, RowIn W W.heap.size encP lv L → Keep (fun _ => False) W0 W → Calls Try.prog 35 #[lv, .int .i64 (-1), v3] W fun e w' => ∃ sv, e = .returned sv ∧ RowIn w' w'.heap.size encS sv Z ∧ Keep (fun _ => False) W w'
theorem walkKit {W0 : World} {B : Nat} {kind m : Int} {ao : Option Addr} {cap : Nat} {v3 : Value} {acts ms : List Act3} (hok : OrdOk kind m) (ha : ActsIn W0 B (.slice ao acts.length cap) acts) (hb : RowIn W0 W0.heap.size encA v3 ms) (hB : B ≤ W0.heap.size) (hlen : acts.length ≤ 300) (hlen3 : ms.length ≤ 400) (hmo : MovesOk ms) :
    WalkKit3 W0 kind m ao acts.length cap v3 (runA (ordf kind m) acts) (walkA (runA (ordf kind m) acts) ms).2 := by
  refine ⟨fun W hW => ?_, fun W lv hl hW => ?_⟩
  · exact MapWalk_any (B := W.heap.size) hok ((ha.keep hW fun _ _ => id).mono (Nat.le_trans hB hW.size)) ((hb.keep hW fun _ _ => id).mono hW.size) (Nat.le_refl _) (by omega) (by omega) hmo
  · refine (spWalk_any (ms := ms) hl (hb.keep hW fun _ _ => id) (by have := runA_len (f := ordf kind m) acts; omega) (by omega) hmo).mono ?_
    rintro e w' ⟨sv, he, hr, hk⟩
    exact ⟨sv, he, RowIn.of_owns hr, hk⟩

set_option maxRecDepth 100000 in
set_option maxHeartbeats 3200000 in
theorem exactwalk_main {w : World} {kind m : Int} {v v3 : Value} {acts ms : List Act3} (ha : ActsIn w w.heap.size v acts) (hb : RowIn w w.heap.size encA v3 ms) (hp : kind = 0 ∨ kind = 1) (hlen : acts.length ≤ 300) (hlen3 : ms.length ≤ 300) (hmo : MovesOk ms) :
    Calls Try.prog 8 #[.agg #[.int .i64 kind, .int .i64 m], v, v3] w fun e w' => e = .returned (.bool true) ∧ Below w.heap.size w w' := by
  obtain ⟨ao, cap, rfl⟩ := ha.len
  obtain ⟨a3, c3, rfl⟩ := hb.len
  have PL := hid (Plain_any kind m (w.alloc (.cells #[.int .i64 kind, .int .i64 m] 23)))
  rw [decide_eq_true hp] at PL
  have K0 := hid (show Keep (fun _ => False) w (w.alloc (.cells #[.int .i64 kind, .int .i64 m] 23)) from (Keep.refl _ _).alloc _)
  have HA := hid (ha.keep K0.out fun _ _ => id)
  have HB := hid (hb.keep K0.out fun _ _ => id)
  have HOK := hid (OrdOk.plain hp : OrdOk kind m)
  have OC := hid (fun (W' : World) (hW : Keep (fun _ => False) (w.alloc (.cells #[.int .i64 kind, .int .i64 m] 23)) W') => ocells hW)
  have WK := hid (walkKit (m := m) HOK.out HA.out (HB.out.mono K0.out.size) K0.out.size hlen (by omega) hmo)
  obtain ⟨L, hL⟩ : ∃ L, L = runA (ordf kind m) acts := ⟨_, rfl⟩
  have RN : Hid (∀ W, Keep (fun _ => False) (w.alloc (.cells #[.int .i64 kind, .int .i64 m] 23)) W → Calls Try.prog 32 #[.agg #[.int .i64 kind, .int .i64 m], .slice ao acts.length cap] W fun e w' => ∃ sv, e = .returned sv ∧ RowIn w' w'.heap.size encP sv L ∧ Keep (fun _ => False) W w') :=
    fun W hW => (run_on HOK.out HA.out K0.out.size (by omega : acts.length ≤ 100000) W hW).mono fun e w' ⟨sv, g1, g2, g3⟩ => ⟨sv, g1, by rw [hL]; exact g2, g3⟩
  rw [← hL] at WK
  obtain ⟨Z, hZ⟩ : ∃ Z, Z = (walkA L ms).2 := ⟨_, rfl⟩
  have HZ := hid (show Z.length ≤ 1000000 by rw [hZ, walkA_len]; omega)
  rw [← hZ] at WK
  have MO := hid (fun W (hW : Keep (fun _ => False) (w.alloc (.cells #[.int .i64 kind, .int .i64 m] 23)) W) => movesOk_any (b := true) (HB.out.keep hW fun _ _ => id) (by omega) ⟨fun _ => ⟨hmo, hlen3⟩, fun _ => rfl⟩)
  obtain ⟨r, hr⟩ : ∃ r, ms.length = r := ⟨_, rfl⟩
  rw [hr] at WK MO hlen3 ⊢
  clear ha hb hp hL hZ hmo HA HB hr
  go_enter Try.func8, Try.ntmps8
  go_wp2_with (first
    | (go_at_call 26; refine PL.out.mono ?_; rintro e w1 ⟨rfl, hk⟩; have K1 := hid hk; clear hk)
    | (go_at_call 37; refine (MO.out _ K1.out).mono ?_; rintro e w2 ⟨rfl, hk⟩; have K2 := hid (K1.out.trans hk); clear hk)
    | fail)
  go_region_held3 (fun w' => w'.cell? ⟨w.heap.size, 0, none⟩ = some (.int .i64 kind) ∧ w'.cell? ⟨w.heap.size, 1, none⟩ = some (.int .i64 m))
    (first
      | (refine OC.out _ ?_; (repeat (first | (with_reducible apply Keep.drew) | (with_reducible apply Keep.drewN))); (first | (with_reducible exact K7.out) | (with_reducible exact K6.out) | (with_reducible exact K5.out) | (with_reducible exact K4.out) | (with_reducible exact K3.out) | (with_reducible exact K2.out) | fail))
      | fail)
    (first
      | (go_at_call 34; refine (WK.out.map _ (by (repeat (first | (with_reducible apply Keep.drew) | (with_reducible apply Keep.drewN))); exact K2.out)).mono ?_; rintro e w3 ⟨sv1, rfl, hs, hk⟩; have R3 := hid hs; have K3 := hid (K2.out.trans (by first | exact hk | exact hk.undrew | exact hk.undrewN | fail)); clear hs hk)
      | (go_at_call 32; refine (RN.out _ (by (repeat (first | (with_reducible apply Keep.drew) | (with_reducible apply Keep.drewN))); exact K3.out)).mono ?_; rintro e w4 ⟨sv2, rfl, hs, hk⟩; have R4 := hid hs; have K4 := hid (K3.out.trans (by first | exact hk | exact hk.undrew | exact hk.undrewN | fail)); have S4 := hid (RowIn.on R3.out (by first | exact hk | exact hk.undrew | exact hk.undrewN | fail)); clear hs hk)
      | (go_at_call 35; refine (WK.out.ref _ _ (RowIn.on R4.out (by first | exact Keep.refl _ _ | exact (Keep.refl _ _).drew | exact (Keep.refl _ _).drewN _ | fail)) (by (repeat (first | (with_reducible apply Keep.drew) | (with_reducible apply Keep.drewN))); exact K4.out)).mono ?_; rintro e w5 ⟨sv3, rfl, hs, hk⟩; have R5 := hid hs; have K5 := hid (K4.out.trans (by first | exact hk | exact hk.undrew | exact hk.undrewN | fail)); have S5 := hid (RowIn.on S4.out (by first | exact hk | exact hk.undrew | exact hk.undrewN | fail)); clear hs hk)
      | (go_at_call 33; refine (sameSeen_any (RowIn.on S5.out (by first | exact Keep.refl _ _ | exact (Keep.refl _ _).drew | exact (Keep.refl _ _).drewN _ | fail)) (RowIn.on R5.out (by first | exact Keep.refl _ _ | exact (Keep.refl _ _).drew | exact (Keep.refl _ _).drewN _ | fail)) HZ.out).mono ?_; rintro e w6 ⟨rfl, j6, rfl⟩; have K6 := hid (show Keep (fun _ => False) _ (w5.drewN j6) from K5.out.drewN j6))
      | (go_at_call 31; refine (keeps_any _).mono ?_; rintro e w7 ⟨rfl, hk⟩; have K7 := hid (K6.out.trans (by first | exact hk | exact hk.undrew | exact hk.undrewN | fail)); clear hk)
      | fail)
  all_goals
    (try go_wp2_with (fail))
    go_ret
    exact ⟨rfl, (K0.out.trans K7.out).to_below⟩

set_option maxRecDepth 100000 in
set_option maxHeartbeats 1600000 in
theorem fnExactWalk_walk {w : World} (kind m : Int) (v : Value) (acts : List Act3) (ha : ActsIn w w.heap.size v acts) (hn : acts.length ≤ maxLen) (v3 : Value) (ms : List Act3) (hb : RowIn w w.heap.size encA v3 ms) (hn3 : ms.length ≤ maxLen) :
    Calls Try.prog 8 #[.agg #[.int .i64 kind, .int .i64 m], v, v3] w fun e w' => e = .returned (.bool true) ∧ Below w.heap.size w w' := by
  unfold maxLen at hn hn3
  by_cases hall : (kind = 0 ∨ kind = 1) ∧ acts.length ≤ 300 ∧ MovesOk ms ∧ ms.length ≤ 300
  · exact exactwalk_main ha hb hall.1 hall.2.1 hall.2.2.2 hall.2.2.1
  · obtain ⟨ao, cap, rfl⟩ := ha.len
    obtain ⟨a3, c3, rfl⟩ := hb.len
    have K0 := hid (show Keep (fun _ => False) w (w.alloc (.cells #[.int .i64 kind, .int .i64 m] 23)) from (Keep.refl _ _).alloc _)
    have PL := hid (Plain_any kind m (w.alloc (.cells #[.int .i64 kind, .int .i64 m] 23)))
    have HB := hid (hb.keep K0.out fun _ _ => id)
    clear ha hb
    by_cases hbig : (2147483647 : Int) < acts.length
    · have d1 : decide ((2147483647 : Int) < acts.length) = true := decide_eq_true hbig
      clear hall
      go_enter Try.func8, Try.ntmps8
      go_wp2_with (fail)
      go_ret
      exact ⟨rfl, K0.out.to_below⟩
    · have d1 : decide ((2147483647 : Int) < acts.length) = false := decide_eq_false hbig
      by_cases hbig3 : (2147483647 : Int) < ms.length
      · have d2 : decide ((2147483647 : Int) < ms.length) = true := decide_eq_true hbig3
        clear hall
        go_enter Try.func8, Try.ntmps8
        go_wp2_with (fail)
        go_ret
        exact ⟨rfl, K0.out.to_below⟩
      · have d2 : decide ((2147483647 : Int) < ms.length) = false := decide_eq_false hbig3
        by_cases hp : kind = 0 ∨ kind = 1
        · rw [decide_eq_true hp] at PL
          by_cases h3 : (300 : Int) < acts.length
          · have d3 : decide ((300 : Int) < acts.length) = true := decide_eq_true h3
            clear hall hp
            go_enter Try.func8, Try.ntmps8
            go_wp2_with (first
              | (go_at_call 26; refine PL.out.mono ?_; rintro e w1 ⟨rfl, hk⟩; have K1 := hid hk; clear hk)
              | (go_at_call 37; refine (MO.out _ K1.out).mono ?_; rintro e w2 ⟨rfl, hk⟩; have K1 := hid (K1.out.trans hk); clear hk)
              | fail)
            go_ret
            exact ⟨rfl, (K0.out.trans K1.out).to_below⟩
          · have d3 : decide ((300 : Int) < acts.length) = false := decide_eq_false h3
            have MO := hid (fun W (hW : Keep (fun _ => False) (w.alloc (.cells #[.int .i64 kind, .int .i64 m] 23)) W) => movesOk_any (b := false) (HB.out.keep hW fun _ _ => id) (by omega) ⟨(fun h => by cases h), fun h => absurd ⟨hp, by omega, h.1, h.2⟩ hall⟩)
            clear hall hp
            go_enter Try.func8, Try.ntmps8
            go_wp2_with (first
              | (go_at_call 26; refine PL.out.mono ?_; rintro e w1 ⟨rfl, hk⟩; have K1 := hid hk; clear hk)
              | (go_at_call 37; refine (MO.out _ K1.out).mono ?_; rintro e w2 ⟨rfl, hk⟩; have K1 := hid (K1.out.trans hk); clear hk)
              | fail)
            go_ret
            exact ⟨rfl, (K0.out.trans K1.out).to_below⟩
        · rw [decide_eq_false hp] at PL
          clear hall hp
          go_enter Try.func8, Try.ntmps8
          go_wp2_with (first
            | (go_at_call 26; refine PL.out.mono ?_; rintro e w1 ⟨rfl, hk⟩; have K1 := hid hk; clear hk)
            | (go_at_call 37; refine (MO.out _ K1.out).mono ?_; rintro e w2 ⟨rfl, hk⟩; have K1 := hid (K1.out.trans hk); clear hk)
            | fail)
          go_ret
          exact ⟨rfl, (K0.out.trans K1.out).to_below⟩
end Go.Proofs.Ytdamfannmlncnaa
