/- Min and Max return the first and the last pair: the walks of the laws FnExactMin and FnExactMax. -/
import Derived.Test.YtdamfannmlncnaaSpFind
namespace Go.Proofs.Ytdamfannmlncnaa
open Go.RowKit
set_option linter.unusedVariables false
set_option linter.unusedSimpArgs false
attribute [local go_sem ↓] Go.wp_at_zero Go.wp_at_succ

theorem row_at' {w : World} {B : Nat} {a0 : Option Addr} {n c0 k : Nat} {L : List (Int × Int)} {e : Int × Int} (h : RowIn w B encP (.slice a0 n c0) L) (hk : L[k]? = some e) :
    ∃ b off, a0 = some ⟨b, off, none⟩ ∧ w.cell? ⟨b, off + k * 2, none⟩ = some (.int .i64 e.1) ∧ w.cell? ⟨b, off + k * 2 + 1, none⟩ = some (.int .i64 e.2) := by
  obtain ⟨hl, rfl⟩ := List.getElem?_eq_some_iff.1 hk
  exact row_at h hl

set_option maxRecDepth 100000 in
set_option maxHeartbeats 3200000 in
theorem exactmin_main {w : World} {kind m : Int} {v : Value} {acts : List Act3} (ha : ActsIn w w.heap.size v acts) (hp : kind = 0 ∨ kind = 1) (hlen : acts.length ≤ 300) :
    Calls Try.prog 10 #[.agg #[.int .i64 kind, .int .i64 m], v] w fun e w' => e = .returned (.bool true) ∧ Below w.heap.size w w' := by
  obtain ⟨ao, cap, rfl⟩ := ha.len
  have PL := hid (Plain_any kind m (w.alloc (.cells #[.int .i64 kind, .int .i64 m] 23)))
  rw [decide_eq_true hp] at PL
  have K0 : Keep (fun _ => False) w (w.alloc (.cells #[.int .i64 kind, .int .i64 m] 23)) := (Keep.refl _ _).alloc _
  have HA := hid (ha.keep K0 fun _ _ => id)
  have HOK := hid (OrdOk.plain (m := m) hp)
  have MM := hid (fun W (hW : Keep (fun _ => False) (w.alloc (.cells #[.int .i64 kind, .int .i64 m] 23)) W) => MapMin_any HOK.out (HA.out.keep hW fun _ _ => id) (Nat.le_trans (Nat.le_succ _) (by have := hW.size; simpa using this)) (by omega : acts.length ≤ 100000))
  have RN := hid (fun W (hW : Keep (fun _ => False) (w.alloc (.cells #[.int .i64 kind, .int .i64 m] 23)) W) => run_on HOK.out HA.out (by simp) (by omega : acts.length ≤ 100000) W hW)
  have K0 := hid K0
  have HLL := hid (show (runA (ordf kind m) acts).length ≤ 300 by have := runA_len (f := ordf kind m) acts; omega)
  obtain ⟨L, hL⟩ : ∃ L, L = runA (ordf kind m) acts := ⟨_, rfl⟩
  rw [← hL] at MM RN HLL
  clear ha hp hL HA
  rcases L with _ | ⟨e0, l⟩
  · have MM : Hid (∀ W, Keep (fun _ => False) (w.alloc (.cells #[.int .i64 kind, .int .i64 m] 23)) W → Calls Try.prog 38 #[.agg #[.int .i64 kind, .int .i64 m], .slice ao acts.length cap] W fun e w' => e = .returned (.agg #[.int .i64 0, .int .i64 0, .bool false]) ∧ Keep (fun _ => False) W w') := MM
    simp only [List.length_nil] at HLL
    go_enter Try.func10, Try.ntmps10
    go_wp2_with (first | (go_at_call 26; refine PL.out.mono ?_; rintro e w1 ⟨rfl, hk⟩; have K1 := hid hk; obtain ⟨o0, o1⟩ := ocells hk; clear hk) | (go_at_call 32; refine (RN.out _ K1.out).mono ?_; rintro e w2 ⟨sv, rfl, hs, hk⟩; have K2 := hid (K1.out.trans hk); have R2 := hid hs; obtain ⟨a2, c2, rfl⟩ := hs.len; clear hs hk o0 o1; obtain ⟨o0, o1⟩ := ocells K2.out) | fail)
    refine (MM.out _ K2.out).mono ?_
    rintro e w3 ⟨rfl, hk⟩
    have K3 := hid (K2.out.trans hk)
    clear hk o0 o1
    go_wp2_with (go_at_call 31; refine (keeps_any _).mono ?_; rintro e w4 ⟨rfl, hk⟩; have K4 := hid (K3.out.trans hk); clear hk)
    go_ret
    exact ⟨rfl, (K0.out.trans K4.out).to_below⟩
  · obtain ⟨x, y⟩ := e0
    have MM : Hid (∀ W, Keep (fun _ => False) (w.alloc (.cells #[.int .i64 kind, .int .i64 m] 23)) W → Calls Try.prog 38 #[.agg #[.int .i64 kind, .int .i64 m], .slice ao acts.length cap] W fun e w' => e = .returned (.agg #[.int .i64 x, .int .i64 y, .bool true]) ∧ Keep (fun _ => False) W w') := MM
    obtain ⟨n, hn⟩ : ∃ n, n = ((x, y) :: l).length := ⟨_, rfl⟩
    have h0 : 0 < n := by rw [hn]; simp
    have hidx : ((x, y) :: l)[0]? = some (x, y) := rfl
    have hne : (((n : Nat) : Int) == 0) = false := by simp; omega
    have hnb : n ≤ 300 := by rw [hn]; exact HLL.out
    have HIX := hid (And.intro hn hidx)
    have RN : Hid (∀ W, Keep (fun _ => False) (w.alloc (.cells #[.int .i64 kind, .int .i64 m] 23)) W → Calls Try.prog 32 #[.agg #[.int .i64 kind, .int .i64 m], .slice ao acts.length cap] W fun e w' => ∃ sv, e = .returned sv ∧ RowIn w' w'.heap.size encP sv ((x, y) :: l) ∧ (∃ a c, sv = .slice a n c) ∧ Keep (fun _ => False) W w') :=
      fun W hW => (RN.out W hW).mono fun e w' ⟨sv, h1, h2, h3⟩ => ⟨sv, h1, h2, by rw [hn]; exact h2.len, h3⟩
    clear hn hidx
    go_enter Try.func10, Try.ntmps10
    go_wp2_with (first | (go_at_call 26; refine PL.out.mono ?_; rintro e w1 ⟨rfl, hk⟩; have K1 := hid hk; obtain ⟨o0, o1⟩ := ocells hk; clear hk) | (go_at_call 32; refine (RN.out _ K1.out).mono ?_; rintro e w2 ⟨sv, rfl, hs, hsl, hk⟩; have K2 := hid (K1.out.trans hk); have R2 := hid hs; obtain ⟨a2, c2, rfl⟩ := hsl; clear hs hk o0 o1; obtain ⟨o0, o1⟩ := ocells K2.out) | fail)
    obtain ⟨b, off, ha2, hc0, hc1⟩ := row_at' R2.out HIX.out.2
    obtain rfl := ha2
    have HO := hid (show (w2.cell? ⟨w.heap.size, 0, none⟩ = some (.int .i64 kind) ∧ w2.cell? ⟨w.heap.size, 1, none⟩ = some (.int .i64 m) ∧ w2.cell? ⟨b, off, none⟩ = some (.int .i64 x) ∧ w2.cell? ⟨b, off + 1, none⟩ = some (.int .i64 y)) from by simpa using And.intro o0 (And.intro o1 (And.intro hc0 hc1)))
    have TD := hid (fun W => Told_any (some (x, y)) 0 0 W)
    simp only [Option.getD, Option.isSome, pairV] at TD
    have ex : (x == x) = true := by simp
    have ey : (y == y) = true := by simp
    have hk1 : (0 : Int) < (n : Int) := by omega
    clear hc0 hc1 o0 o1
    go_region_held3 (fun w' => w'.cell? ⟨w.heap.size, 0, none⟩ = some (.int .i64 kind) ∧ w'.cell? ⟨w.heap.size, 1, none⟩ = some (.int .i64 m) ∧ w'.cell? ⟨b, off, none⟩ = some (.int .i64 x) ∧ w'.cell? ⟨b, off + 1, none⟩ = some (.int .i64 y))
      (first
        | exact HO.out
        | exact ⟨K3.out.cell HO.out.1 id, K3.out.cell HO.out.2.1 id, K3.out.cell HO.out.2.2.1 id, K3.out.cell HO.out.2.2.2 id⟩
        | exact ⟨K4.out.cell HO.out.1 id, K4.out.cell HO.out.2.1 id, K4.out.cell HO.out.2.2.1 id, K4.out.cell HO.out.2.2.2 id⟩
        | fail)
      (first
        | (go_at_call 38; refine (MM.out _ (by first | exact K2.out | exact K2.out.drew | exact K2.out.drewN _ | fail)).mono ?_; rintro e w3 ⟨rfl, hk⟩; have K3 := hid (show Keep (fun _ => False) w2 w3 from (by first | exact hk | exact hk.undrew | exact hk.undrewN | fail)); clear hk)
        | (go_at_call 39; refine (TD.out _).mono ?_; rintro e w4 ⟨rfl, hk⟩; have K4 := hid (K3.out.trans (by first | exact hk | exact hk.undrew | exact hk.undrewN | fail)); clear hk)
        | fail)
    all_goals
      (try go_wp2_with (fail))
      go_ret
      exact ⟨rfl, (K0.out.trans (K2.out.trans K4.out)).to_below⟩

set_option maxRecDepth 100000 in
set_option maxHeartbeats 1600000 in
theorem fnExactMin_walk {w : World} (kind m : Int) (v : Value) (acts : List Act3) (ha : ActsIn w w.heap.size v acts) (hn : acts.length ≤ maxLen) :
    Calls Try.prog 10 #[.agg #[.int .i64 kind, .int .i64 m], v] w fun e w' => e = .returned (.bool true) ∧ Below w.heap.size w w' := by
  unfold maxLen at hn
  by_cases hp : kind = 0 ∨ kind = 1
  · by_cases h300 : acts.length ≤ 300
    · exact exactmin_main ha hp h300
    · obtain ⟨ao, cap, rfl⟩ := ha.len
      have PL := hid (Plain_any kind m (w.alloc (.cells #[.int .i64 kind, .int .i64 m] 23)))
      rw [decide_eq_true hp] at PL
      have h3 : (300 : Int) < acts.length := by omega
      clear ha hp h300
      by_cases hbig : (2147483647 : Int) < acts.length
      · go_enter Try.func10, Try.ntmps10
        go_wp2_with (fail)
        go_ret
        exact ⟨rfl, (Below.refl _ _).alloc (Nat.le_refl _) _⟩
      · go_enter Try.func10, Try.ntmps10
        go_wp2_with (go_at_call 26; refine PL.out.mono ?_; rintro e w1 ⟨rfl, hk⟩; have K1 := hid (((Keep.refl (fun _ => False) w).alloc _).trans hk); clear hk)
        go_ret
        exact ⟨rfl, K1.out.to_below⟩
  · obtain ⟨ao, cap, rfl⟩ := ha.len
    have PL := hid (Plain_any kind m (w.alloc (.cells #[.int .i64 kind, .int .i64 m] 23)))
    rw [decide_eq_false hp] at PL
    clear ha hp
    by_cases hbig : (2147483647 : Int) < acts.length
    · go_enter Try.func10, Try.ntmps10
      go_wp2_with (fail)
      go_ret
      exact ⟨rfl, (Below.refl _ _).alloc (Nat.le_refl _) _⟩
    · go_enter Try.func10, Try.ntmps10
      go_wp2_with (go_at_call 26; refine PL.out.mono ?_; rintro e w1 ⟨rfl, hk⟩; have K1 := hid (((Keep.refl (fun _ => False) w).alloc _).trans hk); clear hk)
      go_ret
      exact ⟨rfl, K1.out.to_below⟩

set_option maxRecDepth 100000 in
set_option maxHeartbeats 3200000 in
theorem exactmax_main {w : World} {kind m : Int} {v : Value} {acts : List Act3} (ha : ActsIn w w.heap.size v acts) (hp : kind = 0 ∨ kind = 1) (hlen : acts.length ≤ 300) :
    Calls Try.prog 14 #[.agg #[.int .i64 kind, .int .i64 m], v] w fun e w' => e = .returned (.bool true) ∧ Below w.heap.size w w' := by
  obtain ⟨ao, cap, rfl⟩ := ha.len
  have PL := hid (Plain_any kind m (w.alloc (.cells #[.int .i64 kind, .int .i64 m] 23)))
  rw [decide_eq_true hp] at PL
  have K0 : Keep (fun _ => False) w (w.alloc (.cells #[.int .i64 kind, .int .i64 m] 23)) := (Keep.refl _ _).alloc _
  have HA := hid (ha.keep K0 fun _ _ => id)
  have HOK := hid (OrdOk.plain (m := m) hp)
  have MM := hid (fun W (hW : Keep (fun _ => False) (w.alloc (.cells #[.int .i64 kind, .int .i64 m] 23)) W) => MapMax_any HOK.out (HA.out.keep hW fun _ _ => id) (Nat.le_trans (Nat.le_succ _) (by have := hW.size; simpa using this)) (by omega : acts.length ≤ 100000))
  have RN := hid (fun W (hW : Keep (fun _ => False) (w.alloc (.cells #[.int .i64 kind, .int .i64 m] 23)) W) => run_on HOK.out HA.out (by simp) (by omega : acts.length ≤ 100000) W hW)
  have K0 := hid K0
  have HLL := hid (show (runA (ordf kind m) acts).length ≤ 300 by have := runA_len (f := ordf kind m) acts; omega)
  obtain ⟨L, hL⟩ : ∃ L, L = runA (ordf kind m) acts := ⟨_, rfl⟩
  rw [← hL] at MM RN HLL
  clear ha hp hL HA
  rcases List.eq_nil_or_concat L with rfl | ⟨l, e0, rfl⟩
  rotate_left
  simp only [List.concat_eq_append] at MM RN HLL
  rotate_left
  · have MM : Hid (∀ W, Keep (fun _ => False) (w.alloc (.cells #[.int .i64 kind, .int .i64 m] 23)) W → Calls Try.prog 41 #[.agg #[.int .i64 kind, .int .i64 m], .slice ao acts.length cap] W fun e w' => e = .returned (.agg #[.int .i64 0, .int .i64 0, .bool false]) ∧ Keep (fun _ => False) W w') := MM
    simp only [List.length_nil] at HLL
    go_enter Try.func14, Try.ntmps14
    go_wp2_with (first | (go_at_call 26; refine PL.out.mono ?_; rintro e w1 ⟨rfl, hk⟩; have K1 := hid hk; obtain ⟨o0, o1⟩ := ocells hk; clear hk) | (go_at_call 32; refine (RN.out _ K1.out).mono ?_; rintro e w2 ⟨sv, rfl, hs, hk⟩; have K2 := hid (K1.out.trans hk); have R2 := hid hs; obtain ⟨a2, c2, rfl⟩ := hs.len; clear hs hk o0 o1; obtain ⟨o0, o1⟩ := ocells K2.out) | fail)
    refine (MM.out _ K2.out).mono ?_
    rintro e w3 ⟨rfl, hk⟩
    have K3 := hid (K2.out.trans hk)
    clear hk o0 o1
    go_wp2_with (go_at_call 31; refine (keeps_any _).mono ?_; rintro e w4 ⟨rfl, hk⟩; have K4 := hid (K3.out.trans hk); clear hk)
    go_ret
    exact ⟨rfl, (K0.out.trans K4.out).to_below⟩
  · obtain ⟨x, y⟩ := e0
    have MM : Hid (∀ W, Keep (fun _ => False) (w.alloc (.cells #[.int .i64 kind, .int .i64 m] 23)) W → Calls Try.prog 41 #[.agg #[.int .i64 kind, .int .i64 m], .slice ao acts.length cap] W fun e w' => e = .returned (.agg #[.int .i64 x, .int .i64 y, .bool true]) ∧ Keep (fun _ => False) W w') := by simpa [pairV] using MM
    obtain ⟨k, hk⟩ : ∃ k, k = l.length := ⟨_, rfl⟩
    have hn : k + 1 = (l ++ [(x, y)]).length := by rw [hk]; simp
    have hidx : (l ++ [(x, y)])[k]? = some (x, y) := by simp [hk]
    have hne : ((((k + 1) : Nat) : Int) == 0) = false := by simp; omega
    have hnb : (k + 1) ≤ 300 := by rw [hn]; exact HLL.out
    have HIX := hid (And.intro hn hidx)
    have RN : Hid (∀ W, Keep (fun _ => False) (w.alloc (.cells #[.int .i64 kind, .int .i64 m] 23)) W → Calls Try.prog 32 #[.agg #[.int .i64 kind, .int .i64 m], .slice ao acts.length cap] W fun e w' => ∃ sv, e = .returned sv ∧ RowIn w' w'.heap.size encP sv (l ++ [(x, y)]) ∧ (∃ a c, sv = .slice a (k + 1) c) ∧ Keep (fun _ => False) W w') :=
      fun W hW => (RN.out W hW).mono fun e w' ⟨sv, h1, h2, h3⟩ => ⟨sv, h1, h2, by rw [hn]; exact h2.len, h3⟩
    clear hn hidx hk
    go_enter Try.func14, Try.ntmps14
    go_wp2_with (first | (go_at_call 26; refine PL.out.mono ?_; rintro e w1 ⟨rfl, hk⟩; have K1 := hid hk; obtain ⟨o0, o1⟩ := ocells hk; clear hk) | (go_at_call 32; refine (RN.out _ K1.out).mono ?_; rintro e w2 ⟨sv, rfl, hs, hsl, hk⟩; have K2 := hid (K1.out.trans hk); have R2 := hid hs; obtain ⟨a2, c2, rfl⟩ := hsl; clear hs hk o0 o1; obtain ⟨o0, o1⟩ := ocells K2.out) | fail)
    obtain ⟨b, off, ha2, hc0, hc1⟩ := row_at' R2.out HIX.out.2
    obtain rfl := ha2
    have HO := hid (show (w2.cell? ⟨w.heap.size, 0, none⟩ = some (.int .i64 kind) ∧ w2.cell? ⟨w.heap.size, 1, none⟩ = some (.int .i64 m) ∧ w2.cell? ⟨b, off + k * 2, none⟩ = some (.int .i64 x) ∧ w2.cell? ⟨b, off + k * 2 + 1, none⟩ = some (.int .i64 y)) from by simpa using And.intro o0 (And.intro o1 (And.intro hc0 hc1)))
    have TD := hid (fun W => Told_any (some (x, y)) 0 0 W)
    simp only [Option.getD, Option.isSome, pairV] at TD
    have ex : (x == x) = true := by simp
    have ey : (y == y) = true := by simp
    have hw : IntKind.i64.wrap (((k + 1 : Nat) : Int) - 1) = (k : Int) := by rw [IntWalk.i64_in _ (by omega)]; omega
    have hw2 : IntKind.i64.wrap ((k : Int) + 1 - 1) = (k : Int) := by rw [IntWalk.i64_in _ (by omega)]; omega
    have hw3 : IntKind.i64.wrap (k : Int) = (k : Int) := by rw [IntWalk.i64_in _ (by omega)]
    have hk0 : (0 : Int) ≤ (k : Int) := by omega
    have hk1 : (k : Int) < ((k + 1 : Nat) : Int) := by omega
    have hk2 : (k : Int) < (k : Int) + 1 := by omega
    have hk3 : k < k + 1 := by omega
    have hk4 : ((k + 1 : Nat) : Int) - 1 = (k : Int) := by omega
    have hk5 : (k : Int) + 1 - 1 = (k : Int) := by omega
    clear hc0 hc1 o0 o1
    go_region_held3 (fun w' => w'.cell? ⟨w.heap.size, 0, none⟩ = some (.int .i64 kind) ∧ w'.cell? ⟨w.heap.size, 1, none⟩ = some (.int .i64 m) ∧ w'.cell? ⟨b, off + k * 2, none⟩ = some (.int .i64 x) ∧ w'.cell? ⟨b, off + k * 2 + 1, none⟩ = some (.int .i64 y))
      (first
        | exact HO.out
        | exact ⟨K3.out.cell HO.out.1 id, K3.out.cell HO.out.2.1 id, K3.out.cell HO.out.2.2.1 id, K3.out.cell HO.out.2.2.2 id⟩
        | exact ⟨K4.out.cell HO.out.1 id, K4.out.cell HO.out.2.1 id, K4.out.cell HO.out.2.2.1 id, K4.out.cell HO.out.2.2.2 id⟩
        | fail)
      (first
        | (go_at_call 41; refine (MM.out _ (by first | exact K2.out | exact K2.out.drew | exact K2.out.drewN _ | fail)).mono ?_; rintro e w3 ⟨rfl, hk⟩; have K3 := hid (show Keep (fun _ => False) w2 w3 from (by first | exact hk | exact hk.undrew | exact hk.undrewN | fail)); clear hk)
        | (go_at_call 39; refine (TD.out _).mono ?_; rintro e w4 ⟨rfl, hk⟩; have K4 := hid (K3.out.trans (by first | exact hk | exact hk.undrew | exact hk.undrewN | fail)); clear hk)
        | fail)
    all_goals
      (try go_wp2_with (fail))
      go_ret
      exact ⟨rfl, (K0.out.trans (K2.out.trans K4.out)).to_below⟩

set_option maxRecDepth 100000 in
set_option maxHeartbeats 1600000 in
theorem fnExactMax_walk {w : World} (kind m : Int) (v : Value) (acts : List Act3) (ha : ActsIn w w.heap.size v acts) (hn : acts.length ≤ maxLen) :
    Calls Try.prog 14 #[.agg #[.int .i64 kind, .int .i64 m], v] w fun e w' => e = .returned (.bool true) ∧ Below w.heap.size w w' := by
  unfold maxLen at hn
  by_cases hp : kind = 0 ∨ kind = 1
  · by_cases h300 : acts.length ≤ 300
    · exact exactmax_main ha hp h300
    · obtain ⟨ao, cap, rfl⟩ := ha.len
      have PL := hid (Plain_any kind m (w.alloc (.cells #[.int .i64 kind, .int .i64 m] 23)))
      rw [decide_eq_true hp] at PL
      have h3 : (300 : Int) < acts.length := by omega
      clear ha hp h300
      by_cases hbig : (2147483647 : Int) < acts.length
      · go_enter Try.func14, Try.ntmps14
        go_wp2_with (fail)
        go_ret
        exact ⟨rfl, (Below.refl _ _).alloc (Nat.le_refl _) _⟩
      · go_enter Try.func14, Try.ntmps14
        go_wp2_with (go_at_call 26; refine PL.out.mono ?_; rintro e w1 ⟨rfl, hk⟩; have K1 := hid (((Keep.refl (fun _ => False) w).alloc _).trans hk); clear hk)
        go_ret
        exact ⟨rfl, K1.out.to_below⟩
  · obtain ⟨ao, cap, rfl⟩ := ha.len
    have PL := hid (Plain_any kind m (w.alloc (.cells #[.int .i64 kind, .int .i64 m] 23)))
    rw [decide_eq_false hp] at PL
    clear ha hp
    by_cases hbig : (2147483647 : Int) < acts.length
    · go_enter Try.func14, Try.ntmps14
      go_wp2_with (fail)
      go_ret
      exact ⟨rfl, (Below.refl _ _).alloc (Nat.le_refl _) _⟩
    · go_enter Try.func14, Try.ntmps14
      go_wp2_with (go_at_call 26; refine PL.out.mono ?_; rintro e w1 ⟨rfl, hk⟩; have K1 := hid (((Keep.refl (fun _ => False) w).alloc _).trans hk); clear hk)
      go_ret
      exact ⟨rfl, K1.out.to_below⟩
end Go.Proofs.Ytdamfannmlncnaa
