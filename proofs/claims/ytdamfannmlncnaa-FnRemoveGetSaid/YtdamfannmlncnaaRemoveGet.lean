/- What was taken out is not found, and all other keys are as they were: the walk of the law FnRemoveGet. -/
import Derived.Test.YtdamfannmlncnaaSame
import Derived.Test.YtdamfannmlncnaaLaws
namespace Go.Proofs.Ytdamfannmlncnaa
open Go.RowKit
set_option linter.unusedVariables false
set_option linter.unusedSimpArgs false

theorem mget_del_same (kind m : Int) (acts : List Act3) (key : Int) : mget kind m (acts ++ [(2, key, 0)]) key = (0, false) := by
  unfold mget; rw [runA_snoc, stepA_del, look_del_same (runA_srt acts)]; rfl
theorem mget_del_other {kind m : Int} (hp : kind = 0 ∨ kind = 1) (acts : List Act3) {key k : Int} (h : ¬ k = key) : mget kind m (acts ++ [(2, key, 0)]) k = mget kind m acts k := by
  unfold mget; rw [runA_snoc, stepA_del, look_del_other (fun e => h (ordf_inj hp e)) (runA_srt acts)]

set_option maxRecDepth 100000 in
set_option maxHeartbeats 3200000 in
theorem removeget_main {w : World} {kind m : Int} {v : Value} {acts : List Act3} (ha : ActsIn w w.heap.size v acts) (hp : kind = 0 ∨ kind = 1) (hlen : acts.length ≤ 300) (key other : Int) :
    Calls Try.prog 13 #[.agg #[.int .i64 kind, .int .i64 m], v, .int .i64 key, .int .i64 other] w fun e w' => e = .returned (.bool true) ∧ Below w.heap.size w w' := by
  obtain ⟨ao, cap, rfl⟩ := ha.len
  have PL := hid (Plain_any kind m (w.alloc (.cells #[.int .i64 kind, .int .i64 m] 23)))
  rw [decide_eq_true hp] at PL
  have K0 : Keep (fun _ => False) w (w.alloc (.cells #[.int .i64 kind, .int .i64 m] 23)) := (Keep.refl _ _).alloc _
  have HA := hid (ha.keep K0 fun _ _ => id)
  have K0 := hid K0
  have HP := hid hp
  obtain ⟨i0, hi, hz0, hz1, hz2⟩ := info_parts info27
  have HI := hid (And.intro hi (And.intro hz0 (And.intro hz1 hz2)))
  clear hi hz0 hz1 hz2 ha hp
  go_enter Try.func13, Try.ntmps13
  go_wp2_with (first | (go_at_call 26; refine PL.out.mono ?_; rintro e w1 ⟨rfl, hk⟩; have K1 := hid hk; clear hk) | (at_builtin; refine wpList_app rfl (.tmp 27) (.tmp 28) 24 rfl (w.alloc (.cells #[.int .i64 kind, .int .i64 m] 23)).heap.size 27 i0 _ 3 24 Try.underlying24 HI.out.1 HI.out.2.1 HI.out.2.2.1 HI.out.2.2.2 rfl (by decide) _ 0 [] rfl (World.ownsRow_made _ #[] 0 K1.out.size (by decide) rfl) _ acts.length _ rfl ((HA.out.keep (K1.out.alloc _) fun _ _ => id).src encA_len encA_one) (by unfold maxLen; omega) (by omega) (by have := K1.out.size; simp at *; omega) ?_; intro v1 w2 hown hgr; have K2 := hid (keep_app (w1 := w1.alloc (.cells #[] 27)) (K1.out.alloc _) (World.ownsRow_made (e := 27) (size := 3) w1 #[] 0 K1.out.size (by decide) rfl) hgr); have O2 := hid hown; clear hown hgr) | (at_builtin; refine wpList_app rfl (.tmp 29) (.tmp 32) 24 rfl (w.alloc (.cells #[.int .i64 kind, .int .i64 m] 23)).heap.size 27 i0 _ 3 24 Try.underlying24 HI.out.1 HI.out.2.1 HI.out.2.2.1 HI.out.2.2.2 rfl (by decide) _ _ _ rfl (O2.out.alloc _) _ 1 _ rfl (src_one _ (encA (2, key, 0)) 27 1 rfl (encA_one _)) (by unfold maxLen; omega) (by omega) (by have := K2.out.size; simp at *; omega) ?_; intro v2 w3 hown hgr; have K3 := hid (keep_app (K2.out.alloc _) (O2.out.alloc _) hgr); have O3 := hid hown; obtain ⟨o30, o31⟩ := ocells K3.out; clear hown hgr))
  have OK := OrdOk.plain (m := m) HP.out
  have A3 : ActsIn w3 w3.heap.size v2 (acts ++ [(2, key, 0)]) := acts_snoc O3.out (by omega) (by simp)
  have G1 := MapGet_any key OK A3 (Nat.le_refl _) (by simp; omega)
  rw [mget_del_same] at G1
  refine G1.mono ?_
  rintro e w4 ⟨rfl, hk4⟩
  have K4 := hid (KeepFrom.keep K3.out hk4)
  obtain ⟨o40, o41⟩ := ocells K4.out
  have A4 := hid (A3.keep hk4 fun i hi => by omega)
  have hk4s := hid hk4.size
  clear o30 o31 G1 A3 hk4 OK
  go_wp2_with (fail)
  have OK := OrdOk.plain (m := m) HP.out
  have G2 := MapGet_any other OK (HA.out.keep K4.out fun _ _ => id) (by have h4 := K4.out.size; simp at h4; omega) (by omega)
  obtain ⟨x, was, hx⟩ : ∃ x was, mget kind m acts other = (x, was) := ⟨_, _, rfl⟩
  rw [hx] at G2
  refine G2.mono ?_
  rintro e w5 ⟨rfl, hk5⟩
  have K5 := hid (KeepFrom.keep K4.out hk5)
  obtain ⟨o50, o51⟩ := ocells K5.out
  have A5 := hid (A4.out.keep hk5 fun i hi => by have := hk4s.out; omega)
  have HX := hid hx
  have hk5s := hid (show w3.heap.size ≤ w5.heap.size from Nat.le_trans hk4s.out hk5.size)
  clear o40 o41 G2 hk5 OK hx
  go_wp2_with (fail)
  by_cases ho : other = key
  · subst ho
    have OK := OrdOk.plain (m := m) HP.out
    have G3 := MapGet_any other OK A5.out (by have := hk5s.out; omega) (by simp; omega)
    rw [mget_del_same] at G3
    refine G3.mono ?_
    rintro e w6 ⟨rfl, hk6⟩
    have K6 := hid (KeepFrom.keep K5.out hk6)
    clear o50 o51 G3 hk6 OK
    go_wp2_with (go_at_call 31; refine (keeps_any _).mono ?_; rintro e w7 ⟨rfl, hk⟩; have K7 := hid (K6.out.trans hk); clear hk)
    go_ret
    exact ⟨rfl, (K0.out.trans K7.out).to_below⟩
  · have OK := OrdOk.plain (m := m) HP.out
    have G3 := MapGet_any other OK A5.out (by have := hk5s.out; omega) (by simp; omega)
    rw [mget_del_other HP.out acts ho, HX.out] at G3
    refine G3.mono ?_
    rintro e w6 ⟨rfl, hk6⟩
    have K6 := hid (KeepFrom.keep K5.out hk6)
    have bo : (other == key) = false := by simpa using ho
    have e1 : (x == x) = true := by simp
    have e2 : (was == was) = true := by simp
    clear o50 o51 G3 hk6 OK ho
    go_wp2_with (go_at_call 31; refine (keeps_any _).mono ?_; rintro e w7 ⟨rfl, hk⟩; have K7 := hid (K6.out.trans hk); clear hk)
    go_ret
    exact ⟨rfl, (K0.out.trans K7.out).to_below⟩

set_option maxRecDepth 100000 in
set_option maxHeartbeats 1600000 in
theorem fnRemoveGet_walk {w : World} (kind m : Int) (v : Value) (acts : List Act3) (ha : ActsIn w w.heap.size v acts) (hn : acts.length ≤ maxLen) (key other : Int) :
    Calls Try.prog 13 #[.agg #[.int .i64 kind, .int .i64 m], v, .int .i64 key, .int .i64 other] w fun e w' => e = .returned (.bool true) ∧ Below w.heap.size w w' := by
  unfold maxLen at hn
  by_cases hp : kind = 0 ∨ kind = 1
  · by_cases h300 : acts.length ≤ 300
    · exact removeget_main ha hp h300 key other
    · obtain ⟨ao, cap, rfl⟩ := ha.len
      have PL := hid (Plain_any kind m (w.alloc (.cells #[.int .i64 kind, .int .i64 m] 23)))
      rw [decide_eq_true hp] at PL
      have h3 : (300 : Int) < acts.length := by omega
      clear ha hp h300
      by_cases hbig : (2147483647 : Int) < acts.length
      · go_enter Try.func13, Try.ntmps13
        go_wp2_with (fail)
        go_ret
        exact ⟨rfl, (Below.refl _ _).alloc (Nat.le_refl _) _⟩
      · go_enter Try.func13, Try.ntmps13
        go_wp2_with (go_at_call 26; refine PL.out.mono ?_; rintro e w1 ⟨rfl, hk⟩; have K1 := hid (((Keep.refl (fun _ => False) w).alloc _).trans hk); clear hk)
        go_ret
        exact ⟨rfl, K1.out.to_below⟩
  · obtain ⟨ao, cap, rfl⟩ := ha.len
    have PL := hid (Plain_any kind m (w.alloc (.cells #[.int .i64 kind, .int .i64 m] 23)))
    rw [decide_eq_false hp] at PL
    clear ha hp
    by_cases hbig : (2147483647 : Int) < acts.length
    · go_enter Try.func13, Try.ntmps13
      go_wp2_with (fail)
      go_ret
      exact ⟨rfl, (Below.refl _ _).alloc (Nat.le_refl _) _⟩
    · go_enter Try.func13, Try.ntmps13
      go_wp2_with (go_at_call 26; refine PL.out.mono ?_; rintro e w1 ⟨rfl, hk⟩; have K1 := hid (((Keep.refl (fun _ => False) w).alloc _).trans hk); clear hk)
      go_ret
      exact ⟨rfl, K1.out.to_below⟩
end Go.Proofs.Ytdamfannmlncnaa
