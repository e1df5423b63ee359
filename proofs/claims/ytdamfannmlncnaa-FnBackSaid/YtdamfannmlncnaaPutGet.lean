/- What was put in is found, with its value, and all other keys are as they were: the walk of the law FnPutGet, for every order, all acts, and all three numbers. -/
import Derived.Test.YtdamfannmlncnaaGet
import Derived.Test.YtdamfannmlncnaaPlain
import Derived.Deep.DeepMust
namespace Go.Proofs.Ytdamfannmlncnaa
open Go.RowKit
set_option linter.unusedVariables false
set_option linter.unusedSimpArgs false

theorem info27 : (Try.prog.info? 27).map (fun i => (i.zero, i.size, i.bytes)) = some (some (.agg #[.int .i64 0, .int .i64 0, .int .i64 0]), 3, 24) := by kernel_rfl

theorem ordf_inj {kind m a b : Int} (hp : kind = 0 ∨ kind = 1) (h : ordf kind m a = ordf kind m b) : a = b := by
  rcases hp with rfl | rfl
  · simpa [ordf] using h
  · have : -a = -b := by simpa [ordf] using h
    omega
theorem OrdOk.plain {kind m : Int} (hp : kind = 0 ∨ kind = 1) : OrdOk kind m := by rcases hp with rfl | rfl; exact .inl rfl; exact .inr (.inl rfl)

/-- An append onto a row of the call's own touches nothing that was there at first. -/
theorem keep_app {w w1 w2 : World} {e : TypeId} {sz n : Nat} {v : Value} {xs : List Value} (h : Keep (fun _ => False) w w1) (hown : w1.ownsRow w.heap.size e sz v n xs) (hg : w1.grownBy w2 v.ownBlock) : Keep (fun _ => False) w w2 :=
  h.then (Keep.grown (S := fun i => w.heap.size ≤ i) hg fun k hk _ => (hown.lt k hk).1) fun i hi hs => absurd hi (by omega)
/-- One element, just laid, as the source of an append. -/
theorem src_one (w : World) (news : List Value) (e : TypeId) (c : Nat) {size : Nat} (hl : news.length = size) (h1 : ∀ u ∈ news, u.oneCell' = true) :
    SrcRow (w.alloc (.cells news.toArray e)) size (.slice (some ⟨w.heap.size, 0, none⟩) 1 c) 1 news :=
  SrcRow.one hl (fun j u hu => by rw [add_off, Nat.zero_add, World.cell?_alloc_new]; simpa using hu) h1
theorem KeepFrom.keep {w w1 w2 : World} (h : Keep (fun _ => False) w w1) (k : KeepFrom w1.heap.size w1 w2) : Keep (fun _ => False) w w2 :=
  h.then k fun i hi hs => by have := h.size; omega

theorem mget_put_same (kind m : Int) (acts : List Act3) (key val : Int) : mget kind m (acts ++ [(1, key, val)]) key = (val, true) := by
  unfold mget; rw [runA_snoc, stepA_put, look_put_same]; rfl
theorem mget_put_other {kind m : Int} (hp : kind = 0 ∨ kind = 1) (acts : List Act3) {key k : Int} (val : Int) (h : ¬ k = key) : mget kind m (acts ++ [(1, key, val)]) k = mget kind m acts k := by
  unfold mget; rw [runA_snoc, stepA_put, look_put_other _ (fun e => h (ordf_inj hp e))]

/-- Acts, and one act more, appended in new memory. -/
theorem acts_snoc {w3 : World} {base : Nat} {v2 : Value} {acts : List Act3} {a : Act3} {n : Nat} {xs : List Value} (h : w3.ownsRow base 27 3 v2 n xs) (hn : n = acts.length + 1) (hx : xs = acts.flatMap encA ++ encA a) : ActsIn w3 w3.heap.size v2 (acts ++ [a]) := by
  subst hn; subst hx
  refine RowIn.of_owns (sz := 3) (base := base) (e := 27) ?_
  rw [List.length_append, List.flatMap_append]
  simpa using h

/-- The law's own order, boxed at its start, reads as it did. -/
theorem ocells {w w' : World} {kind m : Int} (h : Keep (fun _ => False) (w.alloc (.cells #[.int .i64 kind, .int .i64 m] 23)) w') :
    w'.cell? ⟨w.heap.size, 0, none⟩ = some (.int .i64 kind) ∧ w'.cell? ⟨w.heap.size, 1, none⟩ = some (.int .i64 m) :=
  ⟨h.cell (by rw [World.cell?_alloc_new]; rfl) id, h.cell (by rw [World.cell?_alloc_new]; rfl) id⟩

set_option maxRecDepth 100000 in
set_option maxHeartbeats 3200000 in
theorem putget_main {w : World} {kind m : Int} {v : Value} {acts : List Act3} (key val other : Int) (ha : ActsIn w w.heap.size v acts) (hp : kind = 0 ∨ kind = 1) (hlen : acts.length ≤ 300) :
    Calls Try.prog 3 #[.agg #[.int .i64 kind, .int .i64 m], v, .int .i64 key, .int .i64 val, .int .i64 other] w fun e w' => e = .returned (.bool true) ∧ Below w.heap.size w w' := by
  obtain ⟨ao, cap, rfl⟩ := ha.len
  have PL := hid (Plain_any kind m (w.alloc (.cells #[.int .i64 kind, .int .i64 m] 23)))
  rw [decide_eq_true hp] at PL
  have K0 : Keep (fun _ => False) w (w.alloc (.cells #[.int .i64 kind, .int .i64 m] 23)) := (Keep.refl _ _).alloc _
  have HA := hid (ha.keep K0 fun _ _ => id)
  have K0 := hid K0
  have HP := hid hp
  obtain ⟨i0, hi, hz0, hz1, hz2⟩ := info_parts info27
  have HI := hid (And.intro hi (And.intro hz0 (And.intro hz1 hz2)))
  clear hi hz0 hz1 hz2 ha hp
  go_enter Try.func3, Try.ntmps3
  go_wp2_with (first | (go_at_call 26; refine PL.out.mono ?_; rintro e w1 ⟨rfl, hk⟩; have K1 := hid hk; clear hk) | (at_builtin; refine wpList_app rfl (.tmp 29) (.tmp 30) 24 rfl (w.alloc (.cells #[.int .i64 kind, .int .i64 m] 23)).heap.size 27 i0 _ 3 24 Try.underlying24 HI.out.1 HI.out.2.1 HI.out.2.2.1 HI.out.2.2.2 rfl (by decide) _ 0 [] rfl (World.ownsRow_made _ #[] 0 K1.out.size (by decide) rfl) _ acts.length _ rfl ((HA.out.keep (K1.out.alloc _) fun _ _ => id).src encA_len encA_one) (by unfold maxLen; omega) (by omega) (by have := K1.out.size; simp at *; omega) ?_; intro v1 w2 hown hgr; have K2 := hid (keep_app (w1 := w1.alloc (.cells #[] 27)) (K1.out.alloc _) (World.ownsRow_made (e := 27) (size := 3) w1 #[] 0 K1.out.size (by decide) rfl) hgr); have O2 := hid hown; clear hown hgr) | (at_builtin; refine wpList_app rfl (.tmp 31) (.tmp 35) 24 rfl (w.alloc (.cells #[.int .i64 kind, .int .i64 m] 23)).heap.size 27 i0 _ 3 24 Try.underlying24 HI.out.1 HI.out.2.1 HI.out.2.2.1 HI.out.2.2.2 rfl (by decide) _ _ _ rfl (O2.out.alloc _) _ 1 _ rfl (src_one _ (encA (1, key, val)) 27 1 rfl (encA_one _)) (by unfold maxLen; omega) (by omega) (by have := K2.out.size; simp at *; omega) ?_; intro v2 w3 hown hgr; have K3 := hid (keep_app (K2.out.alloc _) (O2.out.alloc _) hgr); have O3 := hid hown; obtain ⟨o30, o31⟩ := ocells K3.out; clear hown hgr))
  have OK := OrdOk.plain (m := m) HP.out
  have A3 : ActsIn w3 w3.heap.size v2 (acts ++ [(1, key, val)]) := acts_snoc O3.out (by omega) (by simp)
  have G1 := MapGet_any key OK A3 (Nat.le_refl _) (by simp; omega)
  rw [mget_put_same] at G1
  refine G1.mono ?_
  rintro e w4 ⟨rfl, hk4⟩
  have K4 := hid (KeepFrom.keep K3.out hk4)
  obtain ⟨o40, o41⟩ := ocells K4.out
  have A4 := hid (A3.keep hk4 fun i hi => by omega)
  have hk4s := hid hk4.size
  clear o30 o31 G1 A3 hk4 OK
  go_wp2_with (fail)
  have OK := OrdOk.plain (m := m) HP.out
  have G2 := MapGet_any other OK (HA.out.keep K4.out fun _ _ => id) (by have h4 := K4.out.size; simp at h4; omega) (by omega)
  obtain ⟨x, was, hx⟩ : ∃ x was, mget kind m acts other = (x, was) := ⟨_, _, rfl⟩
  rw [hx] at G2
  refine G2.mono ?_
  rintro e w5 ⟨rfl, hk5⟩
  have K5 := hid (KeepFrom.keep K4.out hk5)
  obtain ⟨o50, o51⟩ := ocells K5.out
  have A5 := hid (A4.out.keep hk5 fun i hi => by have := hk4s.out; omega)
  have HX := hid hx
  have hk5s := hid (show w3.heap.size ≤ w5.heap.size from Nat.le_trans hk4s.out hk5.size)
  clear o40 o41 G2 hk5 OK hx
  go_wp2_with (fail)
  by_cases ho : other = key
  · subst ho
    have OK := OrdOk.plain (m := m) HP.out
    have G3 := MapGet_any other OK A5.out (by have := hk5s.out; omega) (by simp; omega)
    rw [mget_put_same] at G3
    refine G3.mono ?_
    rintro e w6 ⟨rfl, hk6⟩
    have K6 := hid (KeepFrom.keep K5.out hk6)
    clear o50 o51 G3 hk6 OK
    go_wp2_with (fail)
    go_ret
    exact ⟨rfl, (K0.out.trans K6.out).to_below⟩
  · have OK := OrdOk.plain (m := m) HP.out
    have G3 := MapGet_any other OK A5.out (by have := hk5s.out; omega) (by simp; omega)
    rw [mget_put_other HP.out acts val ho, HX.out] at G3
    refine G3.mono ?_
    rintro e w6 ⟨rfl, hk6⟩
    have K6 := hid (KeepFrom.keep K5.out hk6)
    have bo : (other == key) = false := by simpa using ho
    clear o50 o51 G3 hk6 OK ho
    go_wp2_with (fail)
    go_ret
    exact ⟨rfl, (K0.out.trans K6.out).to_below⟩

set_option maxRecDepth 100000 in
set_option maxHeartbeats 1600000 in
theorem fnPutGet_walk {w : World} (kind m : Int) (v : Value) (acts : List Act3) (ha : ActsIn w w.heap.size v acts) (hn : acts.length ≤ maxLen) (key val other : Int) :
    Calls Try.prog 3 #[.agg #[.int .i64 kind, .int .i64 m], v, .int .i64 key, .int .i64 val, .int .i64 other] w fun e w' => e = .returned (.bool true) ∧ Below w.heap.size w w' := by
  unfold maxLen at hn
  by_cases hp : kind = 0 ∨ kind = 1
  · by_cases h300 : acts.length ≤ 300
    · exact putget_main key val other ha hp h300
    · obtain ⟨ao, cap, rfl⟩ := ha.len
      have PL := hid (Plain_any kind m (w.alloc (.cells #[.int .i64 kind, .int .i64 m] 23)))
      rw [decide_eq_true hp] at PL
      have h3 : (300 : Int) < acts.length := by omega
      clear ha hp h300
      by_cases hbig : (2147483647 : Int) < acts.length
      · go_enter Try.func3, Try.ntmps3
        go_wp2_with (fail)
        go_ret
        exact ⟨rfl, (Below.refl _ _).alloc (Nat.le_refl _) _⟩
      · go_enter Try.func3, Try.ntmps3
        go_wp2_with (go_at_call 26; refine PL.out.mono ?_; rintro e w1 ⟨rfl, hk⟩; have K1 := hid (((Keep.refl (fun _ => False) w).alloc _).trans hk); clear hk)
        go_ret
        exact ⟨rfl, K1.out.to_below⟩
  · obtain ⟨ao, cap, rfl⟩ := ha.len
    have PL := hid (Plain_any kind m (w.alloc (.cells #[.int .i64 kind, .int .i64 m] 23)))
    rw [decide_eq_false hp] at PL
    clear ha hp
    by_cases hbig : (2147483647 : Int) < acts.length
    · go_enter Try.func3, Try.ntmps3
      go_wp2_with (fail)
      go_ret
      exact ⟨rfl, (Below.refl _ _).alloc (Nat.le_refl _) _⟩
    · go_enter Try.func3, Try.ntmps3
      go_wp2_with (go_at_call 26; refine PL.out.mono ?_; rintro e w1 ⟨rfl, hk⟩; have K1 := hid (((Keep.refl (fun _ => False) w).alloc _).trans hk); clear hk)
      go_ret
      exact ⟨rfl, K1.out.to_below⟩
end Go.Proofs.Ytdamfannmlncnaa
