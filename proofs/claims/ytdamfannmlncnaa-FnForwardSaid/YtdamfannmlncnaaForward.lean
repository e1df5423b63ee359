/- From its beginning on, Next tells all pairs; from its end on, Prev: the walks of the laws FnForward and FnBack. -/
import Derived.Test.YtdamfannmlncnaaExactWalk
import Derived.Laws.MakeOwn
namespace Go.Proofs.Ytdamfannmlncnaa
open Go.RowKit
set_option linter.unusedVariables false
set_option linter.unusedSimpArgs false
attribute [local go_sem ↓] Go.wp_at_zero Go.wp_at_succ

theorem info42 : (Try.prog.info? 42).map (fun i => (i.zero, i.size, i.bytes)) = some (some (.agg #[.int .i64 0, .int .i64 0, .int .i64 0]), 3, 24) := by kernel_rfl
theorem parts42 : ∃ i, Try.prog.info? 42 = some i ∧ i.zero = some (.agg #[.int .i64 0, .int .i64 0, .int .i64 0]) ∧ i.size = 3 ∧ i.bytes = 24 := by
  have h := info42
  cases hi : Try.prog.info? 42 with
  | none => rw [hi] at h; cases h
  | some i => rw [hi] at h; simp only [Option.map_some, Option.some.injEq, Prod.mk.injEq] at h; exact ⟨i, rfl, h.1, h.2.1, h.2.2⟩

/-- Moves whose kinds a function tells. -/
def movesOf (f : Nat → Int) (N : Nat) : List Act3 := (List.range N).map fun j => (f j, 0, 0)
theorem movesOf_len (f : Nat → Int) (N : Nat) : (movesOf f N).length = N := by simp [movesOf]
theorem movesOf_get {f : Nat → Int} {N j : Nat} (h : j < N) : (movesOf f N)[j]? = some (f j, 0, 0) := by
  simp [movesOf, List.getElem?_range h]
theorem movesOf_ok {f : Nat → Int} {N : Nat} (h : ∀ j, j < N → f j ≠ 7 ∧ f j ≠ 8) : MovesOk (movesOf f N) := by
  intro a ha h7
  simp only [movesOf, List.mem_map, List.mem_range] at ha
  obtain ⟨j, hj, rfl⟩ := ha
  have := h j hj
  simp only at h7
  rcases h7 with h7 | h7
  · exact absurd h7 this.1
  · exact absurd h7 this.2

theorem cell_ofb {W : World} {g o : Nat} {cs : Array Value} {e : TypeId} {fr : Nat × Nat} (h : W.heap[g]? = some (.cells cs e fr)) : W.cell? ⟨g, o, none⟩ = cs[o]? := by simp [World.cell?, h]
/-- Moves in the making, in a block of their own. -/
structure MvRel (g N : Nat) (f : Nat → Int) (W0 wr : World) : Prop where
  row : ∃ cs : Array Value, wr.heap[g]? = some (.cells cs 42 (0, 0)) ∧ ∀ j, j < N → cs[j * 3]? = some (.int .i64 (f j)) ∧ cs[j * 3 + 1]? = some (.int .i64 0) ∧ cs[j * 3 + 2]? = some (.int .i64 0)
  keep : Keep (fun i => i = g) W0 wr
section
variable {g N : Nat} {f f' : Nat → Int} {W0 wr w' : World}
theorem MvRel.plain (h : MvRel g N f W0 wr) : Plain wr g := by obtain ⟨cs, hc, -⟩ := h.row; exact ⟨_, _, hc⟩
theorem MvRel.cell (h : MvRel g N f W0 wr) {j : Nat} (hj : j < N) : wr.cell? ⟨g, j * 3, none⟩ = some (.int .i64 (f j)) := by
  obtain ⟨cs, hc, hr⟩ := h.row
  rw [cell_ofb hc]
  exact (hr j hj).1
theorem MvRel.congr (h : MvRel g N f W0 wr) (hf : ∀ j, j < N → f j = f' j) : MvRel g N f' W0 wr := by
  obtain ⟨cs, hc, hr⟩ := h.row
  exact ⟨⟨cs, hc, fun j hj => by rw [← hf j hj]; exact hr j hj⟩, h.keep⟩
theorem MvRel.set (h : MvRel g N f W0 wr) {i : Nat} (hi : i < N) (c : Int) : MvRel g N (fun j => if j = i then c else f j) W0 (wr.setCell ⟨g, i * 3, none⟩ (.int .i64 c)) := by
  obtain ⟨cs, hc, hr⟩ := h.row
  refine ⟨⟨_, heap_set (a := ⟨g, i * 3, none⟩) hc rfl, fun j hj => ?_⟩, h.keep.setCell ⟨g, i * 3, none⟩ (fun _ => rfl) _⟩
  have hsz : i * 3 < cs.size := (Array.getElem?_eq_some_iff.1 (hr i hi).1).1
  simp only [Array.getElem?_setIfInBounds]
  refine ⟨?_, ?_, ?_⟩
  · by_cases e : j = i
    · subst e; simp [hsz]
    · rw [if_neg (by omega), if_neg e]; exact (hr j hj).1
  · rw [if_neg (by omega)]; exact (hr j hj).2.1
  · rw [if_neg (by omega)]; exact (hr j hj).2.2
theorem MvRel.on (h : MvRel g N f W0 wr) : RowIn wr (g + 1) encA (.slice (some ⟨g, 0, none⟩) N N) (movesOf f N) := by
  obtain ⟨cs, hc, hr⟩ := h.row
  refine .inr ⟨g, 0, N, by rw [movesOf_len], Nat.lt_succ_self _, fun j u hu => ?_⟩
  have hj : j < N * 3 := by
    have := (List.getElem?_eq_some_iff.1 hu).1
    rw [flat_length encA_len, movesOf_len] at this
    exact this
  have hi : j / 3 < (movesOf f N).length := by rw [movesOf_len]; omega
  have e := flat_get encA_len (movesOf f N) (j / 3) hi (j % 3) (Nat.mod_lt _ (by decide))
  rw [show j / 3 * 3 + j % 3 = j by omega] at e
  rw [e] at hu
  have hg := movesOf_get (f := f) (N := N) (j := j / 3) (by omega)
  rw [List.getElem?_eq_getElem hi] at hg
  rw [Option.some.inj hg] at hu
  have h3 := hr (j / 3) (by omega)
  rw [Nat.zero_add, cell_ofb hc]
  have hm : j % 3 = 0 ∨ j % 3 = 1 ∨ j % 3 = 2 := by omega
  rcases hm with hm | hm | hm <;> rw [hm] at hu
  · rw [show j = j / 3 * 3 by omega, h3.1]; exact hu
  · rw [show j = j / 3 * 3 + 1 by omega, h3.2.1]; exact hu
  · rw [show j = j / 3 * 3 + 2 by omega, h3.2.2]; exact hu
theorem MvRel.start (W : World) (hN : N ≤ 1000) : MvRel W.heap.size N (fun _ => 0) W (W.alloc (.cells (madeCells (Value.agg #[.int .i64 0, .int .i64 0, .int .i64 0]).cells (N * 3)) 42)) := by
  refine ⟨⟨_, heap_alloc_new W _, fun j hj => ?_⟩, (Keep.refl _ _).alloc _⟩
  have e : ∀ r, r < 3 → (madeCells (Value.agg #[.int .i64 0, .int .i64 0, .int .i64 0]).cells (N * 3))[j * 3 + r]? = some (.int .i64 0) := fun r hr => by
    have hc : (Value.agg #[.int .i64 0, .int .i64 0, .int .i64 0]).cells = #[.int .i64 0, .int .i64 0, .int .i64 0] := rfl
    have hm : (j * 3 + r) % 3 = r := by omega
    rw [hc]
    simp only [madeCells, Array.getElem?_map, Array.getElem?_range]
    rw [if_pos (by omega)]
    simp only [Option.map_some, List.size_toArray, List.length_cons, List.length_nil]
    have : (j * 3 + r) % (0 + 1 + 1 + 1) = r := hm
    rw [this]
    have hr3 : r = 0 ∨ r = 1 ∨ r = 2 := by omega
    rcases hr3 with rfl | rfl | rfl <;> rfl
  exact ⟨e 0 (by omega), e 1 (by omega), e 2 (by omega)⟩
end

set_option maxRecDepth 100000 in
set_option maxHeartbeats 3200000 in
theorem forward_main {w : World} {kind m : Int} {v : Value} {acts : List Act3} (ha : ActsIn w w.heap.size v acts) (hp : kind = 0 ∨ kind = 1) (hlen : acts.length ≤ 300) :
    Calls Try.prog 11 #[.agg #[.int .i64 kind, .int .i64 m], v] w fun e w' => e = .returned (.bool true) ∧ Below w.heap.size w w' := by
  obtain ⟨ao, cap, rfl⟩ := ha.len
  have PL := hid (Plain_any kind m (w.alloc (.cells #[.int .i64 kind, .int .i64 m] 23)))
  rw [decide_eq_true hp] at PL
  have K0 := hid (show Keep (fun _ => False) w (w.alloc (.cells #[.int .i64 kind, .int .i64 m] 23)) from (Keep.refl _ _).alloc _)
  have HA := hid (ha.keep K0.out fun _ _ => id)
  have HOK := hid (OrdOk.plain hp : OrdOk kind m)
  have OC := hid (fun (W' : World) (hW : Keep (fun _ => False) (w.alloc (.cells #[.int .i64 kind, .int .i64 m] 23)) W') => ocells hW)
  obtain ⟨L, hL⟩ : ∃ L, L = runA (ordf kind m) acts := ⟨_, rfl⟩
  obtain ⟨n, hn⟩ : ∃ n, L.length = n := ⟨_, rfl⟩
  have hn3 : n ≤ 300 := by rw [← hn, hL]; have := runA_len (f := ordf kind m) acts; omega
  have RN : Hid (∀ W, Keep (fun _ => False) (w.alloc (.cells #[.int .i64 kind, .int .i64 m] 23)) W → Calls Try.prog 32 #[.agg #[.int .i64 kind, .int .i64 m], .slice ao acts.length cap] W fun e w' => ∃ sv, e = .returned sv ∧ RowIn w' w'.heap.size encP sv L ∧ (∃ a c, sv = .slice a n c) ∧ Keep (fun _ => False) W w') :=
    fun W hW => (run_on HOK.out HA.out K0.out.size (by omega : acts.length ≤ 100000) W hW).mono fun e w' ⟨sv, g1, g2, g3⟩ => ⟨sv, g1, by rw [hL]; exact g2, by rw [← hn, hL]; exact g2.len, g3⟩
  obtain ⟨N, hN⟩ : ∃ N, N = n + 1 := ⟨_, rfl⟩
  obtain ⟨ZC, hZC⟩ : ∃ ZC, ZC = madeCells (Value.agg #[.int .i64 0, .int .i64 0, .int .i64 0]).cells (N * 3) := ⟨_, rfl⟩
  have hmk : ∀ W, (Instr.makeSlice 40 (.int .i64 ((n : Int) + 1)) (.int .i64 ((n : Int) + 1))).run Try.prog W = .ok (.slice (some ⟨W.heap.size, 0, none⟩) N N) (W.alloc (.cells ZC 42)) := by
    intro W
    obtain ⟨i0, hi, hz0, hz1, hz2⟩ := parts42
    have h := run_make (P := Try.prog) W 40 42 i0 _ Try.underlying40 hi hz0 .i64 .i64 ((n : Int) + 1) ((n : Int) + 1) (by omega) (Int.le_refl _) (by rw [hz2]; omega) (by omega)
    rw [hz1, show ((n : Int) + 1).toNat = N by omega, ← hZC] at h
    exact h
  have HN := hid (And.intro hN hZC)
  have hNb : N ≤ 302 := by omega
  have hN0 : 0 < N := by omega
  have HL := hid hL
  clear ha hp hL hn hN hZC
  go_enter Try.func11, Try.ntmps11
  go_wp2_with (first
    | (go_at_call 26; refine PL.out.mono ?_; rintro e w1 ⟨rfl, hk⟩; have K1 := hid hk; obtain ⟨o0, o1⟩ := OC.out _ hk; clear hk)
    | (go_at_call 32; refine (RN.out _ K1.out).mono ?_; rintro e w3 ⟨sv, rfl, hs, hsl, hk⟩; have K3 := hid (K1.out.trans hk); have R3 := hid hs; obtain ⟨a2, c2, rfl⟩ := hsl; clear hs hk o0 o1)
    | fail)
  have ST := hid (show MvRel w3.heap.size N (fun j => if j < 0 then 1 else 0) w3 (w3.alloc (.cells ZC 42)) from by
    have h := MvRel.start (N := N) w3 (by omega)
    rw [← HN.out.2] at h
    exact h.congr fun j _ => by simp)
  go_loopw [28] (fun i wr => ∃ k : Nat, k ≤ N ∧ i = .int .i64 k ∧ MvRel w3.heap.size N (fun j => if j < k then 1 else 0) w3 wr) (fun i _ => N - (intOf i).toNat)
  case atStart => exact ⟨0, Nat.zero_le _, rfl, ST.out⟩
  case round =>
    obtain ⟨k, hk, rfl, hrel⟩ := hrel
    have HR := hid hrel
    by_cases hlt : k < N
    · have z0 := hrel.cell hlt
      have pl := hrel.plain
      obtain ⟨y0, hy0⟩ : ∃ y0 : Int, (if k < k then 1 else 0) = y0 := ⟨_, rfl⟩
      rw [hy0] at z0
      clear hrel hy0
      go_wp2_with (fail)
      go_roundw
      case rel => exact ⟨k + 1, by omega, by go_num, (HR.out.set hlt 1).congr fun j hj => by
        by_cases e : j = k
        · subst e; simp
        · simp only [e, if_false]
          by_cases h : j < k
          · rw [if_pos h, if_pos (by omega)]
          · rw [if_neg h, if_neg (by omega)]⟩
      case measure => simp [intOf]; omega
    · obtain rfl : N = k := by omega
      have HM0 := hid (show MvRel w3.heap.size N (fun _ => 1) w3 wr from HR.out.congr fun j hj => by rw [if_pos hj])
      clear hrel
      obtain ⟨wm, hwm⟩ : ∃ wm, wm = wr := ⟨_, rfl⟩
      rw [← hwm] at HM0 ⊢
      clear hwm
      have HM := HM0
      have KW := hid (show Keep (fun _ => False) (w.alloc (.cells #[.int .i64 kind, .int .i64 m] 23)) wm from K3.out.then HM.out.keep fun i hi e => by have := K3.out.size; omega)
      have RM := hid (HM.out.on.mono (Nat.succ_le_of_lt HM.out.plain.lt))
      have RL := hid (show RowIn wm wm.heap.size encP (.slice a2 n c2) L from (R3.out.keep HM.out.keep fun i hi e => by omega).mono HM.out.keep.size)
      have WK := hid (walkKit (m := m) HOK.out (HA.out.keep KW.out fun _ _ => id) RM.out (Nat.le_trans K0.out.size KW.out.size) hlen (by rw [movesOf_len]; omega) (movesOf_ok (by intro j _; simp)))
      rw [← HL.out] at WK
      obtain ⟨Z, hZ⟩ : ∃ Z, Z = (walkA L (movesOf (fun _ => 1) N)).2 := ⟨_, rfl⟩
      have HZ := hid (show Z.length ≤ 1000000 by rw [hZ, walkA_len, movesOf_len]; omega)
      rw [← hZ] at WK
      obtain ⟨o0, o1⟩ := OC.out _ KW.out
      clear hZ
      go_wp2_with (first
        | (go_at_call 34; refine (WK.out.map _ (Keep.refl _ _)).mono ?_; rintro e w4 ⟨sv1, rfl, hs, hk⟩; have R4 := hid hs; have K4 := hid hk; have RL4 := hid (RowIn.on RL.out hk); clear hs hk o0 o1)
        | (go_at_call 35; refine (WK.out.ref _ _ RL4.out K4.out).mono ?_; rintro e w5 ⟨sv2, rfl, hs, hk⟩; have R5 := hid hs; have K5 := hid (K4.out.trans hk); have R45 := hid (RowIn.on R4.out hk); clear hs hk)
        | (go_at_call 33; refine (sameSeen_any R45.out R5.out HZ.out).mono ?_; rintro e w6 ⟨rfl, j6, rfl⟩; have K6 := hid (show Keep (fun _ => False) _ (w5.drewN j6) from K5.out.drewN j6))
        | (go_at_call 31; refine (keeps_any _).mono ?_; rintro e w7 ⟨rfl, hk⟩; have K7 := hid (K6.out.trans hk); clear hk)
        | fail)
      go_ret
      exact ⟨rfl, (K0.out.trans (KW.out.trans K7.out)).to_below⟩

set_option maxRecDepth 100000 in
set_option maxHeartbeats 1600000 in
theorem fnForward_walk {w : World} (kind m : Int) (v : Value) (acts : List Act3) (ha : ActsIn w w.heap.size v acts) (hn : acts.length ≤ maxLen) :
    Calls Try.prog 11 #[.agg #[.int .i64 kind, .int .i64 m], v] w fun e w' => e = .returned (.bool true) ∧ Below w.heap.size w w' := by
  unfold maxLen at hn
  by_cases hp : kind = 0 ∨ kind = 1
  · by_cases h300 : acts.length ≤ 300
    · exact forward_main ha hp h300
    · obtain ⟨ao, cap, rfl⟩ := ha.len
      have PL := hid (Plain_any kind m (w.alloc (.cells #[.int .i64 kind, .int .i64 m] 23)))
      rw [decide_eq_true hp] at PL
      have h3 : (300 : Int) < acts.length := by omega
      clear ha hp h300
      by_cases hbig : (2147483647 : Int) < acts.length
      · go_enter Try.func11, Try.ntmps11
        go_wp2_with (fail)
        go_ret
        exact ⟨rfl, (Below.refl _ _).alloc (Nat.le_refl _) _⟩
      · go_enter Try.func11, Try.ntmps11
        go_wp2_with (go_at_call 26; refine PL.out.mono ?_; rintro e w1 ⟨rfl, hk⟩; have K1 := hid (((Keep.refl (fun _ => False) w).alloc _).trans hk); clear hk)
        go_ret
        exact ⟨rfl, K1.out.to_below⟩
  · obtain ⟨ao, cap, rfl⟩ := ha.len
    have PL := hid (Plain_any kind m (w.alloc (.cells #[.int .i64 kind, .int .i64 m] 23)))
    rw [decide_eq_false hp] at PL
    clear ha hp
    by_cases hbig : (2147483647 : Int) < acts.length
    · go_enter Try.func11, Try.ntmps11
      go_wp2_with (fail)
      go_ret
      exact ⟨rfl, (Below.refl _ _).alloc (Nat.le_refl _) _⟩
    · go_enter Try.func11, Try.ntmps11
      go_wp2_with (go_at_call 26; refine PL.out.mono ?_; rintro e w1 ⟨rfl, hk⟩; have K1 := hid (((Keep.refl (fun _ => False) w).alloc _).trans hk); clear hk)
      go_ret
      exact ⟨rfl, K1.out.to_below⟩

set_option maxRecDepth 100000 in
set_option maxHeartbeats 3200000 in
theorem back_main {w : World} {kind m : Int} {v : Value} {acts : List Act3} (ha : ActsIn w w.heap.size v acts) (hp : kind = 0 ∨ kind = 1) (hlen : acts.length ≤ 300) :
    Calls Try.prog 5 #[.agg #[.int .i64 kind, .int .i64 m], v] w fun e w' => e = .returned (.bool true) ∧ Below w.heap.size w w' := by
  obtain ⟨ao, cap, rfl⟩ := ha.len
  have PL := hid (Plain_any kind m (w.alloc (.cells #[.int .i64 kind, .int .i64 m] 23)))
  rw [decide_eq_true hp] at PL
  have K0 := hid (show Keep (fun _ => False) w (w.alloc (.cells #[.int .i64 kind, .int .i64 m] 23)) from (Keep.refl _ _).alloc _)
  have HA := hid (ha.keep K0.out fun _ _ => id)
  have HOK := hid (OrdOk.plain hp : OrdOk kind m)
  have OC := hid (fun (W' : World) (hW : Keep (fun _ => False) (w.alloc (.cells #[.int .i64 kind, .int .i64 m] 23)) W') => ocells hW)
  obtain ⟨L, hL⟩ : ∃ L, L = runA (ordf kind m) acts := ⟨_, rfl⟩
  obtain ⟨n, hn⟩ : ∃ n, L.length = n := ⟨_, rfl⟩
  have hn3 : n ≤ 300 := by rw [← hn, hL]; have := runA_len (f := ordf kind m) acts; omega
  have RN : Hid (∀ W, Keep (fun _ => False) (w.alloc (.cells #[.int .i64 kind, .int .i64 m] 23)) W → Calls Try.prog 32 #[.agg #[.int .i64 kind, .int .i64 m], .slice ao acts.length cap] W fun e w' => ∃ sv, e = .returned sv ∧ RowIn w' w'.heap.size encP sv L ∧ (∃ a c, sv = .slice a n c) ∧ Keep (fun _ => False) W w') :=
    fun W hW => (run_on HOK.out HA.out K0.out.size (by omega : acts.length ≤ 100000) W hW).mono fun e w' ⟨sv, g1, g2, g3⟩ => ⟨sv, g1, by rw [hL]; exact g2, by rw [← hn, hL]; exact g2.len, g3⟩
  obtain ⟨N, hN⟩ : ∃ N, N = n + 2 := ⟨_, rfl⟩
  obtain ⟨ZC, hZC⟩ : ∃ ZC, ZC = madeCells (Value.agg #[.int .i64 0, .int .i64 0, .int .i64 0]).cells (N * 3) := ⟨_, rfl⟩
  have hmk : ∀ W, (Instr.makeSlice 40 (.int .i64 ((n : Int) + 2)) (.int .i64 ((n : Int) + 2))).run Try.prog W = .ok (.slice (some ⟨W.heap.size, 0, none⟩) N N) (W.alloc (.cells ZC 42)) := by
    intro W
    obtain ⟨i0, hi, hz0, hz1, hz2⟩ := parts42
    have h := run_make (P := Try.prog) W 40 42 i0 _ Try.underlying40 hi hz0 .i64 .i64 ((n : Int) + 2) ((n : Int) + 2) (by omega) (Int.le_refl _) (by rw [hz2]; omega) (by omega)
    rw [hz1, show ((n : Int) + 2).toNat = N by omega, ← hZC] at h
    exact h
  have HN := hid (And.intro hN hZC)
  have hNb : N ≤ 302 := by omega
  have hN0 : 0 < N := by omega
  have HL := hid hL
  clear ha hp hL hn hN hZC
  go_enter Try.func5, Try.ntmps5
  go_wp2_with (first
    | (go_at_call 26; refine PL.out.mono ?_; rintro e w1 ⟨rfl, hk⟩; have K1 := hid hk; obtain ⟨o0, o1⟩ := OC.out _ hk; clear hk)
    | (go_at_call 32; refine (RN.out _ K1.out).mono ?_; rintro e w3 ⟨sv, rfl, hs, hsl, hk⟩; have K3 := hid (K1.out.trans hk); have R3 := hid hs; obtain ⟨a2, c2, rfl⟩ := hsl; clear hs hk o0 o1)
    | fail)
  have ST := hid (show MvRel w3.heap.size N (fun j => if j < 0 then 2 else 0) w3 (w3.alloc (.cells ZC 42)) from by
    have h := MvRel.start (N := N) w3 (by omega)
    rw [← HN.out.2] at h
    exact h.congr fun j _ => by simp)
  go_loopw [28] (fun i wr => ∃ k : Nat, k ≤ N ∧ i = .int .i64 k ∧ MvRel w3.heap.size N (fun j => if j < k then 2 else 0) w3 wr) (fun i _ => N - (intOf i).toNat)
  case atStart => exact ⟨0, Nat.zero_le _, rfl, ST.out⟩
  case round =>
    obtain ⟨k, hk, rfl, hrel⟩ := hrel
    have HR := hid hrel
    by_cases hlt : k < N
    · have z0 := hrel.cell hlt
      have pl := hrel.plain
      obtain ⟨y0, hy0⟩ : ∃ y0 : Int, (if k < k then 2 else 0) = y0 := ⟨_, rfl⟩
      rw [hy0] at z0
      clear hrel hy0
      go_wp2_with (fail)
      go_roundw
      case rel => exact ⟨k + 1, by omega, by go_num, (HR.out.set hlt 2).congr fun j hj => by
        by_cases e : j = k
        · subst e; simp
        · simp only [e, if_false]
          by_cases h : j < k
          · rw [if_pos h, if_pos (by omega)]
          · rw [if_neg h, if_neg (by omega)]⟩
      case measure => simp [intOf]; omega
    · obtain rfl : N = k := by omega
      have HM0 := hid (show MvRel w3.heap.size N (fun _ => 2) w3 wr from HR.out.congr fun j hj => by rw [if_pos hj])
      clear hrel
      have z0 : wr.cell? ⟨w3.heap.size, 0, none⟩ = some (.int .i64 2) := by have h := HM0.out.cell hN0; simpa using h
      have pl := HM0.out.plain
      go_upto_region 13 with (fail)
      have HM := hid (show MvRel w3.heap.size N (fun j => if j = 0 then 6 else 2) w3 (wr.setCell ⟨w3.heap.size, 0, none⟩ (.int .i64 6)) from HM0.out.set hN0 6)
      obtain ⟨wm, hwm⟩ : ∃ wm, wm = wr.setCell ⟨w3.heap.size, 0, none⟩ (.int .i64 6) := ⟨_, rfl⟩
      rw [← hwm] at HM ⊢
      clear hwm z0 pl
      have KW := hid (show Keep (fun _ => False) (w.alloc (.cells #[.int .i64 kind, .int .i64 m] 23)) wm from K3.out.then HM.out.keep fun i hi e => by have := K3.out.size; omega)
      have RM := hid (HM.out.on.mono (Nat.succ_le_of_lt HM.out.plain.lt))
      have RL := hid (show RowIn wm wm.heap.size encP (.slice a2 n c2) L from (R3.out.keep HM.out.keep fun i hi e => by omega).mono HM.out.keep.size)
      have WK := hid (walkKit (m := m) HOK.out (HA.out.keep KW.out fun _ _ => id) RM.out (Nat.le_trans K0.out.size KW.out.size) hlen (by rw [movesOf_len]; omega) (movesOf_ok (by intro j _; by_cases e : j = 0; (simp [e]); (simp [e]))))
      rw [← HL.out] at WK
      obtain ⟨Z, hZ⟩ : ∃ Z, Z = (walkA L (movesOf (fun j => if j = 0 then 6 else 2) N)).2 := ⟨_, rfl⟩
      have HZ := hid (show Z.length ≤ 1000000 by rw [hZ, walkA_len, movesOf_len]; omega)
      rw [← hZ] at WK
      obtain ⟨o0, o1⟩ := OC.out _ KW.out
      clear hZ
      go_wp2_with (first
        | (go_at_call 34; refine (WK.out.map _ (Keep.refl _ _)).mono ?_; rintro e w4 ⟨sv1, rfl, hs, hk⟩; have R4 := hid hs; have K4 := hid hk; have RL4 := hid (RowIn.on RL.out hk); clear hs hk o0 o1)
        | (go_at_call 35; refine (WK.out.ref _ _ RL4.out K4.out).mono ?_; rintro e w5 ⟨sv2, rfl, hs, hk⟩; have R5 := hid hs; have K5 := hid (K4.out.trans hk); have R45 := hid (RowIn.on R4.out hk); clear hs hk)
        | (go_at_call 33; refine (sameSeen_any R45.out R5.out HZ.out).mono ?_; rintro e w6 ⟨rfl, j6, rfl⟩; have K6 := hid (show Keep (fun _ => False) _ (w5.drewN j6) from K5.out.drewN j6))
        | (go_at_call 31; refine (keeps_any _).mono ?_; rintro e w7 ⟨rfl, hk⟩; have K7 := hid (K6.out.trans hk); clear hk)
        | fail)
      go_ret
      exact ⟨rfl, (K0.out.trans (KW.out.trans K7.out)).to_below⟩

set_option maxRecDepth 100000 in
set_option maxHeartbeats 1600000 in
theorem fnBack_walk {w : World} (kind m : Int) (v : Value) (acts : List Act3) (ha : ActsIn w w.heap.size v acts) (hn : acts.length ≤ maxLen) :
    Calls Try.prog 5 #[.agg #[.int .i64 kind, .int .i64 m], v] w fun e w' => e = .returned (.bool true) ∧ Below w.heap.size w w' := by
  unfold maxLen at hn
  by_cases hp : kind = 0 ∨ kind = 1
  · by_cases h300 : acts.length ≤ 300
    · exact back_main ha hp h300
    · obtain ⟨ao, cap, rfl⟩ := ha.len
      have PL := hid (Plain_any kind m (w.alloc (.cells #[.int .i64 kind, .int .i64 m] 23)))
      rw [decide_eq_true hp] at PL
      have h3 : (300 : Int) < acts.length := by omega
      clear ha hp h300
      by_cases hbig : (2147483647 : Int) < acts.length
      · go_enter Try.func5, Try.ntmps5
        go_wp2_with (fail)
        go_ret
        exact ⟨rfl, (Below.refl _ _).alloc (Nat.le_refl _) _⟩
      · go_enter Try.func5, Try.ntmps5
        go_wp2_with (go_at_call 26; refine PL.out.mono ?_; rintro e w1 ⟨rfl, hk⟩; have K1 := hid (((Keep.refl (fun _ => False) w).alloc _).trans hk); clear hk)
        go_ret
        exact ⟨rfl, K1.out.to_below⟩
  · obtain ⟨ao, cap, rfl⟩ := ha.len
    have PL := hid (Plain_any kind m (w.alloc (.cells #[.int .i64 kind, .int .i64 m] 23)))
    rw [decide_eq_false hp] at PL
    clear ha hp
    by_cases hbig : (2147483647 : Int) < acts.length
    · go_enter Try.func5, Try.ntmps5
      go_wp2_with (fail)
      go_ret
      exact ⟨rfl, (Below.refl _ _).alloc (Nat.le_refl _) _⟩
    · go_enter Try.func5, Try.ntmps5
      go_wp2_with (go_at_call 26; refine PL.out.mono ?_; rintro e w1 ⟨rfl, hk⟩; have K1 := hid (((Keep.refl (fun _ => False) w).alloc _).trans hk); clear hk)
      go_ret
      exact ⟨rfl, K1.out.to_below⟩
end Go.Proofs.Ytdamfannmlncnaa
