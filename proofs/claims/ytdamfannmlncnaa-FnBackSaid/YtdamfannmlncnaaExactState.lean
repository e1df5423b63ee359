/- What a map tells of itself is what its acts come to: the walks of the laws FnExactState and FnStateRest. -/
import Derived.Test.YtdamfannmlncnaaSpState
namespace Go.Proofs.Ytdamfannmlncnaa
open Go.RowKit
set_option linter.unusedVariables false
set_option linter.unusedSimpArgs false
attribute [local go_sem ↓] Go.wp_at_zero Go.wp_at_succ

theorem run_on {w5 : World} {kind m : Int} {v : Value} {acts : List Act3} (hok : OrdOk kind m) {B : Nat} (ha : ActsIn w5 B v acts) (hB : B ≤ w5.heap.size) (hlen : acts.length ≤ 100000) (W : World) (hk : Keep (fun _ => False) w5 W) :
    Calls Try.prog 32 #[.agg #[.int .i64 kind, .int .i64 m], v] W fun e w' => ∃ sv, e = .returned sv ∧ RowIn w' w'.heap.size encP sv (runA (ordf kind m) acts) ∧ Keep (fun _ => False) W w' :=
  (Run_any hok ((ha.keep hk fun _ _ => id).mono (Nat.le_trans hB hk.size)) hlen).mono fun e w' ⟨sv, he, hs, hk⟩ => ⟨sv, he, RowIn.of_owns hs, hk⟩

set_option maxRecDepth 100000 in
set_option maxHeartbeats 3200000 in
theorem exactstate_main {w : World} {kind m : Int} {v : Value} {acts : List Act3} (ha : ActsIn w w.heap.size v acts) (hp : kind = 0 ∨ kind = 1) (hlen : acts.length ≤ 300) :
    Calls Try.prog 7 #[.agg #[.int .i64 kind, .int .i64 m], v] w fun e w' => e = .returned (.bool true) ∧ Below w.heap.size w w' := by
  obtain ⟨ao, cap, rfl⟩ := ha.len
  have PL := hid (Plain_any kind m (w.alloc (.cells #[.int .i64 kind, .int .i64 m] 23)))
  rw [decide_eq_true hp] at PL
  have K0 : Keep (fun _ => False) w (w.alloc (.cells #[.int .i64 kind, .int .i64 m] 23)) := (Keep.refl _ _).alloc _
  have HA := hid (ha.keep K0 fun _ _ => id)
  have K0 := hid K0
  have HOK := hid (OrdOk.plain hp : OrdOk kind m)
  have HLL := hid (show (runA (ordf kind m) acts).length ≤ 300 by have := runA_len (f := ordf kind m) acts; omega)
  clear ha hp
  go_enter Try.func7, Try.ntmps7
  go_wp2_with (go_at_call 26; refine PL.out.mono ?_; rintro e w1 ⟨rfl, hk⟩; have K1 := hid hk; clear hk)
  have ST := hid (mapState_on HOK.out (HA.out.keep K1.out fun _ _ => id) (by have := K1.out.size; simp at this; omega) (by omega : acts.length ≤ 100000))
  have RN := hid (run_on HOK.out (HA.out.keep K1.out fun _ _ => id) (by have := K1.out.size; simp at this; omega) (by omega : acts.length ≤ 100000))
  obtain ⟨L, hL⟩ : ∃ L, L = runA (ordf kind m) acts := ⟨_, rfl⟩
  rw [← hL] at ST RN HLL
  have HO := hid (ocells K1.out)
  clear hL
  go_region_held3 (fun w' => w'.cell? ⟨w.heap.size, 0, none⟩ = some (.int .i64 kind) ∧ w'.cell? ⟨w.heap.size, 1, none⟩ = some (.int .i64 m))
    (first
      | exact HO.out
      | exact ⟨K2.out.cell HO.out.1 id, K2.out.cell HO.out.2 id⟩
      | exact ⟨K3.out.cell HO.out.1 id, K3.out.cell HO.out.2 id⟩
      | exact ⟨K4.out.cell HO.out.1 id, K4.out.cell HO.out.2 id⟩
      | exact ⟨K5.out.cell HO.out.1 id, K5.out.cell HO.out.2 id⟩
      | exact ⟨K6.out.cell HO.out.1 id, K6.out.cell HO.out.2 id⟩
      | fail)
    (first
      | (go_at_call 30; refine (ST.out _ (by first | exact Keep.refl _ _ | exact (Keep.refl _ _).drew | exact (Keep.refl _ _).drewN _ | fail)).mono ?_; rintro e w2 ⟨sv1, rfl, hs, hk⟩; have R2 := hid hs; have K2 := hid (show Keep (fun _ => False) w1 w2 from (by first | exact hk | exact hk.undrew | exact hk.undrewN | fail)); clear hs hk)
      | (go_at_call 32; refine (RN.out _ (by first | exact K2.out | exact K2.out.drew | exact K2.out.drewN _ | fail)).mono ?_; rintro e w3 ⟨sv2, rfl, hs, hk⟩; have R3 := hid hs; have K3 := hid (K2.out.trans (by first | exact hk | exact hk.undrew | exact hk.undrewN | fail)); have S3 := hid (R2.out.on (by first | exact hk | exact hk.undrew | exact hk.undrewN | fail)); clear hs hk)
      | (go_at_call 36; refine (State_any (RowIn.on R3.out (by first | exact Keep.refl _ _ | exact (Keep.refl _ _).drew | exact (Keep.refl _ _).drewN _ | fail)) (by have := HLL.out; omega)).mono ?_; rintro e w4 ⟨sv3, rfl, hs, hk⟩; have R4 := hid (hs.mono (Nat.zero_le _)); have K4 := hid (K3.out.trans (by first | exact hk | exact hk.undrew | exact hk.undrewN | fail)); have S4 := hid (S3.out.on (by first | exact hk | exact hk.undrew | exact hk.undrewN | fail)); clear hs hk)
      | (go_at_call 29; refine (sameState_any (by first | exact S4.out | exact S4.out.on ((Keep.refl _ _).drew) | fail) (by first | exact R4.out | exact R4.out.on ((Keep.refl _ _).drew) | fail) (by have := HLL.out; omega)).mono ?_; rintro e w5 ⟨rfl, hk⟩; have K5 := hid (K4.out.trans (by first | exact hk | exact hk.undrew | exact hk.undrewN | fail)); clear hk)
      | (go_at_call 31; refine (keeps_any _).mono ?_; rintro e w6 ⟨rfl, hk⟩; have K6 := hid (K5.out.trans (by first | exact hk | exact hk.undrew | exact hk.undrewN | fail)); clear hk)
      | fail)
  go_wp2_with (fail)
  go_ret
  exact ⟨rfl, (K0.out.trans (K1.out.trans K6.out)).to_below⟩

set_option maxRecDepth 100000 in
set_option maxHeartbeats 1600000 in
theorem fnExactState_walk {w : World} (kind m : Int) (v : Value) (acts : List Act3) (ha : ActsIn w w.heap.size v acts) (hn : acts.length ≤ maxLen) :
    Calls Try.prog 7 #[.agg #[.int .i64 kind, .int .i64 m], v] w fun e w' => e = .returned (.bool true) ∧ Below w.heap.size w w' := by
  unfold maxLen at hn
  by_cases hp : kind = 0 ∨ kind = 1
  · by_cases h300 : acts.length ≤ 300
    · exact exactstate_main ha hp h300
    · obtain ⟨ao, cap, rfl⟩ := ha.len
      have PL := hid (Plain_any kind m (w.alloc (.cells #[.int .i64 kind, .int .i64 m] 23)))
      rw [decide_eq_true hp] at PL
      have h3 : (300 : Int) < acts.length := by omega
      clear ha hp h300
      by_cases hbig : (2147483647 : Int) < acts.length
      · go_enter Try.func7, Try.ntmps7
        go_wp2_with (fail)
        go_ret
        exact ⟨rfl, (Below.refl _ _).alloc (Nat.le_refl _) _⟩
      · go_enter Try.func7, Try.ntmps7
        go_wp2_with (go_at_call 26; refine PL.out.mono ?_; rintro e w1 ⟨rfl, hk⟩; have K1 := hid (((Keep.refl (fun _ => False) w).alloc _).trans hk); clear hk)
        go_ret
        exact ⟨rfl, K1.out.to_below⟩
  · obtain ⟨ao, cap, rfl⟩ := ha.len
    have PL := hid (Plain_any kind m (w.alloc (.cells #[.int .i64 kind, .int .i64 m] 23)))
    rw [decide_eq_false hp] at PL
    clear ha hp
    by_cases hbig : (2147483647 : Int) < acts.length
    · go_enter Try.func7, Try.ntmps7
      go_wp2_with (fail)
      go_ret
      exact ⟨rfl, (Below.refl _ _).alloc (Nat.le_refl _) _⟩
    · go_enter Try.func7, Try.ntmps7
      go_wp2_with (go_at_call 26; refine PL.out.mono ?_; rintro e w1 ⟨rfl, hk⟩; have K1 := hid (((Keep.refl (fun _ => False) w).alloc _).trans hk); clear hk)
      go_ret
      exact ⟨rfl, K1.out.to_below⟩

set_option maxRecDepth 100000 in
set_option maxHeartbeats 3200000 in
theorem staterest_main {w : World} {kind m : Int} {v : Value} {acts : List Act3} (ha : ActsIn w w.heap.size v acts) (hp : OrdOk kind m) (hlen : acts.length ≤ 300) :
    Calls Try.prog 9 #[.agg #[.int .i64 kind, .int .i64 m], v] w fun e w' => e = .returned (.bool true) ∧ Below w.heap.size w w' := by
  obtain ⟨ao, cap, rfl⟩ := ha.len
  have PL := hid (orderOk_any kind m (w.alloc (.cells #[.int .i64 kind, .int .i64 m] 23)))
  rw [decide_eq_true hp] at PL
  have K0 : Keep (fun _ => False) w (w.alloc (.cells #[.int .i64 kind, .int .i64 m] 23)) := (Keep.refl _ _).alloc _
  have HA := hid (ha.keep K0 fun _ _ => id)
  have K0 := hid K0
  have HOK := hid (hp : OrdOk kind m)
  have HLL := hid (show (runA (ordf kind m) acts).length ≤ 300 by have := runA_len (f := ordf kind m) acts; omega)
  clear ha hp
  go_enter Try.func9, Try.ntmps9
  go_wp2_with (go_at_call 28; refine PL.out.mono ?_; rintro e w1 ⟨rfl, hk⟩; have K1 := hid hk; clear hk)
  have ST := hid (mapState_on HOK.out (HA.out.keep K1.out fun _ _ => id) (by have := K1.out.size; simp at this; omega) (by omega : acts.length ≤ 100000))
  have RN := hid (run_on HOK.out (HA.out.keep K1.out fun _ _ => id) (by have := K1.out.size; simp at this; omega) (by omega : acts.length ≤ 100000))
  obtain ⟨L, hL⟩ : ∃ L, L = runA (ordf kind m) acts := ⟨_, rfl⟩
  rw [← hL] at ST RN HLL
  have HO := hid (ocells K1.out)
  clear hL
  go_region_held3 (fun w' => w'.cell? ⟨w.heap.size, 0, none⟩ = some (.int .i64 kind) ∧ w'.cell? ⟨w.heap.size, 1, none⟩ = some (.int .i64 m))
    (first
      | exact HO.out
      | exact ⟨K2.out.cell HO.out.1 id, K2.out.cell HO.out.2 id⟩
      | exact ⟨K3.out.cell HO.out.1 id, K3.out.cell HO.out.2 id⟩
      | exact ⟨K4.out.cell HO.out.1 id, K4.out.cell HO.out.2 id⟩
      | exact ⟨K5.out.cell HO.out.1 id, K5.out.cell HO.out.2 id⟩
      | exact ⟨K6.out.cell HO.out.1 id, K6.out.cell HO.out.2 id⟩
      | fail)
    (first
      | (go_at_call 30; refine (ST.out _ (by first | exact Keep.refl _ _ | exact (Keep.refl _ _).drew | exact (Keep.refl _ _).drewN _ | fail)).mono ?_; rintro e w2 ⟨sv1, rfl, hs, hk⟩; have R2 := hid hs; have K2 := hid (show Keep (fun _ => False) w1 w2 from (by first | exact hk | exact hk.undrew | exact hk.undrewN | fail)); clear hs hk)
      | (go_at_call 32; refine (RN.out _ (by first | exact K2.out | exact K2.out.drew | exact K2.out.drewN _ | fail)).mono ?_; rintro e w3 ⟨sv2, rfl, hs, hk⟩; have R3 := hid hs; have K3 := hid (K2.out.trans (by first | exact hk | exact hk.undrew | exact hk.undrewN | fail)); have S3 := hid (R2.out.on (by first | exact hk | exact hk.undrew | exact hk.undrewN | fail)); clear hs hk)
      | (go_at_call 36; refine (State_any (RowIn.on R3.out (by first | exact Keep.refl _ _ | exact (Keep.refl _ _).drew | exact (Keep.refl _ _).drewN _ | fail)) (by have := HLL.out; omega)).mono ?_; rintro e w4 ⟨sv3, rfl, hs, hk⟩; have R4 := hid (hs.mono (Nat.zero_le _)); have K4 := hid (K3.out.trans (by first | exact hk | exact hk.undrew | exact hk.undrewN | fail)); have S4 := hid (S3.out.on (by first | exact hk | exact hk.undrew | exact hk.undrewN | fail)); clear hs hk)
      | (go_at_call 29; refine (sameState_any (by first | exact S4.out | exact S4.out.on ((Keep.refl _ _).drew) | fail) (by first | exact R4.out | exact R4.out.on ((Keep.refl _ _).drew) | fail) (by have := HLL.out; omega)).mono ?_; rintro e w5 ⟨rfl, hk⟩; have K5 := hid (K4.out.trans (by first | exact hk | exact hk.undrew | exact hk.undrewN | fail)); clear hk)
      | (go_at_call 31; refine (keeps_any _).mono ?_; rintro e w6 ⟨rfl, hk⟩; have K6 := hid (K5.out.trans (by first | exact hk | exact hk.undrew | exact hk.undrewN | fail)); clear hk)
      | fail)
  go_wp2_with (fail)
  go_ret
  exact ⟨rfl, (K0.out.trans (K1.out.trans K6.out)).to_below⟩

set_option maxRecDepth 100000 in
set_option maxHeartbeats 1600000 in
theorem fnStateRest_walk {w : World} (kind m : Int) (v : Value) (acts : List Act3) (ha : ActsIn w w.heap.size v acts) (hn : acts.length ≤ maxLen) :
    Calls Try.prog 9 #[.agg #[.int .i64 kind, .int .i64 m], v] w fun e w' => e = .returned (.bool true) ∧ Below w.heap.size w w' := by
  unfold maxLen at hn
  by_cases hp : OrdOk kind m
  · by_cases h300 : acts.length ≤ 300
    · exact staterest_main ha hp h300
    · obtain ⟨ao, cap, rfl⟩ := ha.len
      have PL := hid (orderOk_any kind m (w.alloc (.cells #[.int .i64 kind, .int .i64 m] 23)))
      rw [decide_eq_true hp] at PL
      have h3 : (300 : Int) < acts.length := by omega
      clear ha hp h300
      by_cases hbig : (2147483647 : Int) < acts.length
      · go_enter Try.func9, Try.ntmps9
        go_wp2_with (fail)
        go_ret
        exact ⟨rfl, (Below.refl _ _).alloc (Nat.le_refl _) _⟩
      · go_enter Try.func9, Try.ntmps9
        go_wp2_with (go_at_call 28; refine PL.out.mono ?_; rintro e w1 ⟨rfl, hk⟩; have K1 := hid (((Keep.refl (fun _ => False) w).alloc _).trans hk); clear hk)
        go_ret
        exact ⟨rfl, K1.out.to_below⟩
  · obtain ⟨ao, cap, rfl⟩ := ha.len
    have PL := hid (orderOk_any kind m (w.alloc (.cells #[.int .i64 kind, .int .i64 m] 23)))
    rw [decide_eq_false hp] at PL
    clear ha hp
    by_cases hbig : (2147483647 : Int) < acts.length
    · go_enter Try.func9, Try.ntmps9
      go_wp2_with (fail)
      go_ret
      exact ⟨rfl, (Below.refl _ _).alloc (Nat.le_refl _) _⟩
    · go_enter Try.func9, Try.ntmps9
      go_wp2_with (go_at_call 28; refine PL.out.mono ?_; rintro e w1 ⟨rfl, hk⟩; have K1 := hid (((Keep.refl (fun _ => False) w).alloc _).trans hk); clear hk)
      go_ret
      exact ⟨rfl, K1.out.to_below⟩
end Go.Proofs.Ytdamfannmlncnaa
