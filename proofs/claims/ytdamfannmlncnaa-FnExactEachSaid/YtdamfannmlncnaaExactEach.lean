/- Each tells all pairs, in order, once: the walk of the law FnExactEach. -/
import Derived.Test.YtdamfannmlncnaaEach
import Derived.Test.YtdamfannmlncnaaFindAll
namespace Go.Proofs.Ytdamfannmlncnaa
open Go.RowKit
set_option linter.unusedVariables false
set_option linter.unusedSimpArgs false
attribute [local go_sem ↓] Go.wp_at_zero Go.wp_at_succ

theorem told_at {w : World} {B : Nat} {a0 : Option Addr} {n c0 k : Nat} {l : List (Int × Int)} {e : Int × Int} (h : RowIn w B encT (.slice a0 n c0) l) (hk : l[k]? = some e) :
    ∃ b off, a0 = some ⟨b, off, none⟩ ∧ w.cell? ⟨b, off + k * 3, none⟩ = some (.int .i64 e.1) ∧ w.cell? ⟨b, off + k * 3 + 1, none⟩ = some (.int .i64 e.2) ∧ w.cell? ⟨b, off + k * 3 + 2, none⟩ = some (.bool true) := by
  obtain ⟨hl, rfl⟩ := List.getElem?_eq_some_iff.1 hk
  rcases h with ⟨rfl, -⟩ | ⟨b, off, cap, hv, hb, hc⟩
  · simp at hl
  · simp only [Value.slice.injEq] at hv
    obtain ⟨rfl, -, -⟩ := hv
    exact ⟨b, off, rfl, hc (k * 3) _ (flat_get encT_len l k hl 0 (by omega)), hc (k * 3 + 1) _ (flat_get encT_len l k hl 1 (by omega)), hc (k * 3 + 2) _ (flat_get encT_len l k hl 2 (by omega))⟩

set_option maxRecDepth 100000 in
set_option maxHeartbeats 3200000 in
theorem exacteach_main {w : World} {kind m : Int} {v : Value} {acts : List Act3} (ha : ActsIn w w.heap.size v acts) (hp : kind = 0 ∨ kind = 1) (hlen : acts.length ≤ 300) :
    Calls Try.prog 16 #[.agg #[.int .i64 kind, .int .i64 m], v] w fun e w' => e = .returned (.bool true) ∧ Below w.heap.size w w' := by
  obtain ⟨ao, cap, rfl⟩ := ha.len
  have PL := hid (Plain_any kind m (w.alloc (.cells #[.int .i64 kind, .int .i64 m] 23)))
  rw [decide_eq_true hp] at PL
  have K0 := hid (show Keep (fun _ => False) w (w.alloc (.cells #[.int .i64 kind, .int .i64 m] 23)) from (Keep.refl _ _).alloc _)
  have HA := hid (ha.keep K0.out fun _ _ => id)
  have HOK := hid (OrdOk.plain hp : OrdOk kind m)
  have OC := hid (fun (W' : World) (hW : Keep (fun _ => False) (w.alloc (.cells #[.int .i64 kind, .int .i64 m] 23)) W') => ocells hW)
  obtain ⟨L, hL⟩ : ∃ L, L = runA (ordf kind m) acts := ⟨_, rfl⟩
  obtain ⟨n, hn⟩ : ∃ n, L.length = n := ⟨_, rfl⟩
  have hn3 : n ≤ 300 := by rw [← hn, hL]; have := runA_len (f := ordf kind m) acts; omega
  have RN : Hid (∀ W, Keep (fun _ => False) (w.alloc (.cells #[.int .i64 kind, .int .i64 m] 23)) W → Calls Try.prog 32 #[.agg #[.int .i64 kind, .int .i64 m], .slice ao acts.length cap] W fun e w' => ∃ sv, e = .returned sv ∧ RowIn w' w'.heap.size encP sv L ∧ (∃ a c, sv = .slice a n c) ∧ Keep (fun _ => False) W w') :=
    fun W hW => (run_on HOK.out HA.out K0.out.size (by omega : acts.length ≤ 100000) W hW).mono fun e w' ⟨sv, g1, g2, g3⟩ => ⟨sv, g1, by rw [hL]; exact g2, by rw [← hn, hL]; exact g2.len, g3⟩
  have MM : Hid (∀ W, Keep (fun _ => False) (w.alloc (.cells #[.int .i64 kind, .int .i64 m] 23)) W → Calls Try.prog 44 #[.agg #[.int .i64 kind, .int .i64 m], .slice ao acts.length cap] W fun e w' => ∃ sv, e = .returned sv ∧ RowIn w' w'.heap.size encT sv L ∧ (∃ a c, sv = .slice a n c) ∧ Keep (fun _ => False) W w') :=
    fun W hW => (MapEach_any HOK.out (HA.out.keep hW fun _ _ => id) (Nat.le_trans K0.out.size hW.size) (by omega : acts.length ≤ 100000)).mono fun e w' ⟨sv, g1, g2, g3⟩ => ⟨sv, g1, by rw [hL]; exact RowIn.of_owns g2, by rw [← hn, hL]; exact owns_len g2, g3⟩
  have HN := hid hn
  clear ha hp hL hn HA
  go_enter Try.func16, Try.ntmps16
  go_wp2_with (first
    | (go_at_call 26; refine PL.out.mono ?_; rintro e w1 ⟨rfl, hk⟩; have K1 := hid hk; obtain ⟨o0, o1⟩ := OC.out _ hk; clear hk)
    | (go_at_call 44; refine (MM.out _ K1.out).mono ?_; rintro e w2 ⟨sv, rfl, hs, hsl, hk⟩; have K2 := hid (K1.out.trans hk); have R2 := hid hs; obtain ⟨a2, c2, rfl⟩ := hsl; clear hs hk o0 o1; obtain ⟨o0, o1⟩ := OC.out _ K2.out)
    | (go_at_call 32; refine (RN.out _ K2.out).mono ?_; rintro e w3 ⟨sv, rfl, hs, hsl, hk⟩; have K3 := hid (K2.out.trans hk); have R3 := hid hs; have R23 := hid (R2.out.on hk); obtain ⟨a3, c3, rfl⟩ := hsl; clear hs hk o0 o1)
    | fail)
  go_loopw [32] (fun i wr => ∃ k : Nat, k ≤ n ∧ i = .int .i64 k ∧ Keep (fun _ => False) w3 wr) (fun i _ => n - (intOf i).toNat)
  case atStart => exact ⟨0, Nat.zero_le _, rfl, Keep.refl _ _⟩
  case round =>
    obtain ⟨k, hk, rfl, hkr⟩ := hrel
    have KR := hid hkr
    clear hkr
    by_cases hlt : k < n
    · obtain ⟨e0, he0⟩ : ∃ e0, L[k]? = some e0 := ⟨_, List.getElem?_eq_getElem (by rw [HN.out]; exact hlt)⟩
      obtain ⟨x, y⟩ := e0
      obtain ⟨b3, f3, hv3, hc0, hc1⟩ := row_at' R3.out he0
      obtain ⟨b2, f2, hv2, hd0, hd1, hd2⟩ := told_at R23.out he0
      subst hv3
      subst hv2
      have HC := hid (fun (W : World) (hW : Keep (fun _ => False) w3 W) => And.intro (hW.cell hc0 id) (And.intro (hW.cell hc1 id) (And.intro (hW.cell hd0 id) (And.intro (hW.cell hd1 id) (hW.cell hd2 id)))))
      have TD := hid (fun W => Told_any (some (x, y)) 0 0 W)
      simp only [Option.getD, Option.isSome, pairV] at TD
      have ex : (x == x) = true := by simp
      have ey : (y == y) = true := by simp
      have n1 : (0 : Int) ≤ (k : Int) := by omega
      have n2 : (k : Int) < (n : Int) := by omega
      clear he0 hc0 hc1 hd0 hd1 hd2
      go_wp2_with (fail)
      go_region_held3 (fun w' => w'.cell? ⟨b3, f3 + k * 2, none⟩ = some (.int .i64 x) ∧ w'.cell? ⟨b3, f3 + k * 2 + 1, none⟩ = some (.int .i64 y) ∧ w'.cell? ⟨b2, f2 + k * 3, none⟩ = some (.int .i64 x) ∧ w'.cell? ⟨b2, f2 + k * 3 + 1, none⟩ = some (.int .i64 y) ∧ w'.cell? ⟨b2, f2 + k * 3 + 2, none⟩ = some (.bool true))
        (first
          | (refine HC.out _ ?_; (repeat (first | (with_reducible apply Keep.drew) | (with_reducible apply Keep.drewN))); (first | (with_reducible exact K4.out) | (with_reducible exact KR.out) | fail))
          | fail)
        (first
          | (go_at_call 39; refine (TD.out _).mono ?_; rintro e w4 ⟨rfl, hk⟩; have K4 := hid (KR.out.trans (by first | exact hk | exact hk.undrew | exact hk.undrewN | fail)); clear hk)
          | fail)
      all_goals
        (try go_wp2_with (fail))
        go_roundw
        case rel => exact ⟨k + 1, by omega, by go_num, K4.out⟩
        case measure => simp [intOf]; omega
    · obtain rfl : n = k := by omega
      go_wp2_with (go_at_call 31; refine (keeps_any _).mono ?_; rintro e w6 ⟨rfl, hk⟩; have K6 := hid (K3.out.trans (KR.out.trans hk)); clear hk)
      go_ret
      exact ⟨rfl, (K0.out.trans K6.out).to_below⟩

set_option maxRecDepth 100000 in
set_option maxHeartbeats 1600000 in
theorem fnExactEach_walk {w : World} (kind m : Int) (v : Value) (acts : List Act3) (ha : ActsIn w w.heap.size v acts) (hn : acts.length ≤ maxLen) :
    Calls Try.prog 16 #[.agg #[.int .i64 kind, .int .i64 m], v] w fun e w' => e = .returned (.bool true) ∧ Below w.heap.size w w' := by
  unfold maxLen at hn
  by_cases hp : kind = 0 ∨ kind = 1
  · by_cases h300 : acts.length ≤ 300
    · exact exacteach_main ha hp h300
    · obtain ⟨ao, cap, rfl⟩ := ha.len
      have PL := hid (Plain_any kind m (w.alloc (.cells #[.int .i64 kind, .int .i64 m] 23)))
      rw [decide_eq_true hp] at PL
      have h3 : (300 : Int) < acts.length := by omega
      clear ha hp h300
      by_cases hbig : (2147483647 : Int) < acts.length
      · go_enter Try.func16, Try.ntmps16
        go_wp2_with (fail)
        go_ret
        exact ⟨rfl, (Below.refl _ _).alloc (Nat.le_refl _) _⟩
      · go_enter Try.func16, Try.ntmps16
        go_wp2_with (go_at_call 26; refine PL.out.mono ?_; rintro e w1 ⟨rfl, hk⟩; have K1 := hid (((Keep.refl (fun _ => False) w).alloc _).trans hk); clear hk)
        go_ret
        exact ⟨rfl, K1.out.to_below⟩
  · obtain ⟨ao, cap, rfl⟩ := ha.len
    have PL := hid (Plain_any kind m (w.alloc (.cells #[.int .i64 kind, .int .i64 m] 23)))
    rw [decide_eq_false hp] at PL
    clear ha hp
    by_cases hbig : (2147483647 : Int) < acts.length
    · go_enter Try.func16, Try.ntmps16
      go_wp2_with (fail)
      go_ret
      exact ⟨rfl, (Below.refl _ _).alloc (Nat.le_refl _) _⟩
    · go_enter Try.func16, Try.ntmps16
      go_wp2_with (go_at_call 26; refine PL.out.mono ?_; rintro e w1 ⟨rfl, hk⟩; have K1 := hid (((Keep.refl (fun _ => False) w).alloc _).trans hk); clear hk)
      go_ret
      exact ⟨rfl, K1.out.to_below⟩
end Go.Proofs.Ytdamfannmlncnaa
