/- Downwards it is what it is upwards, from the other end: the walk of the law FnTurned. -/
import Derived.Test.YtdamfannmlncnaaFloor
namespace Go.Proofs.Ytdamfannmlncnaa
open Go.RowKit
set_option linter.unusedVariables false
set_option linter.unusedSimpArgs false
attribute [local go_sem ↓] Go.wp_at_zero Go.wp_at_succ

theorem pairV_form (o : Option (Int × Int)) : ∃ x y b, pairV o = .agg #[.int .i64 x, .int .i64 y, .bool b] := by
  cases o with
  | none => exact ⟨_, _, _, rfl⟩
  | some e => exact ⟨_, _, _, rfl⟩

/-- MapState's value written out, its rows in memory. -/
def StOut (n : Nat) (L : List (Int × Int)) (W : World) (e : Ending) (w' : World) : Prop :=
  ∃ a1 c1 a2 c2, e = .returned (.agg #[.slice a1 n c1, .slice a2 n c2, .int .i64 n, .bool (n == 0)]) ∧ RowIn w' w'.heap.size encN (.slice a1 n c1) (L.map (·.1)) ∧ RowIn w' w'.heap.size encN (.slice a2 n c2) (L.map (·.2)) ∧ Keep (fun _ => False) W w'
theorem mapState_out {w5 : World} {kind m : Int} {v : Value} {acts : List Act3} (hok : OrdOk kind m) {B : Nat} (ha : ActsIn w5 B v acts) (hB : B ≤ w5.heap.size) (hlen : acts.length ≤ 100000) {L : List (Int × Int)} (hL : runA (ordf kind m) acts = L) {n : Nat} (hn : L.length = n) (W : World) (hk : Keep (fun _ => False) w5 W) :
    Calls Try.prog 30 #[.agg #[.int .i64 kind, .int .i64 m], v] W (StOut n L W) := by
  refine (mapState_on hok ha hB hlen W hk).mono ?_
  rintro e w' ⟨sv, rfl, ⟨a1, c1, a2, c2, rfl, r1, r2⟩, hk⟩
  subst hL
  subst hn
  exact ⟨a1, c1, a2, c2, rfl, RowIn.of_owns (sz := 1) (by rw [List.length_map]; exact r1), RowIn.of_owns (sz := 1) (by rw [List.length_map]; exact r2), hk⟩
/-- A number at a place of a row. -/
theorem num_at {w : World} {B : Nat} {a0 : Option Addr} {n c0 k : Nat} {l : List Int} {x : Int} (h : RowIn w B encN (.slice a0 n c0) l) (hk : l[k]? = some x) :
    ∃ b off, a0 = some ⟨b, off, none⟩ ∧ w.cell? ⟨b, off + k, none⟩ = some (.int .i64 x) := by
  obtain ⟨hl, rfl⟩ := List.getElem?_eq_some_iff.1 hk
  rcases h with ⟨rfl, -⟩ | ⟨b, off, cap, hv, hb, hc⟩
  · simp at hl
  · simp only [Value.slice.injEq] at hv
    exact ⟨b, off, hv.1, one_cells encN_len hc hl rfl⟩
theorem state_box {W w' : World} {v0 v1 v2 v3 : Value} (hk : Keep (fun _ => False) (W.alloc (.cells #[v0, v1, v2, v3] 34)) w') :
    w'.cell? ⟨W.heap.size, 0, none⟩ = some v0 ∧ w'.cell? ⟨W.heap.size, 1, none⟩ = some v1 ∧ w'.cell? ⟨W.heap.size, 2, none⟩ = some v2 ∧ w'.cell? ⟨W.heap.size, 3, none⟩ = some v3 := by
  have h := hk.get (heap_alloc_new W _) id
  refine ⟨?_, ?_, ?_, ?_⟩ <;> simp [World.cell?, h]

theorem rev_at {l : List Int} {k q : Nat} (h : k + q + 1 = l.length) : l.reverse[q]? = l[k]? := by
  rw [List.getElem?_reverse (by omega)]
  congr 1
  omega

set_option maxRecDepth 100000 in
set_option maxHeartbeats 3200000 in
theorem turned_main {w : World} {v : Value} {acts : List Act3} (ha : ActsIn w w.heap.size v acts) (hlen : acts.length ≤ 300) :
    Calls Try.prog 18 #[v] w fun e w' => e = .returned (.bool true) ∧ Below w.heap.size w w' := by
  obtain ⟨ao, cap, rfl⟩ := ha.len
  obtain ⟨L, hL⟩ : ∃ L, runA (ordf 0 0) acts = L := ⟨_, rfl⟩
  have hL1 : runA (ordf 1 0) acts = L.reverse := by rw [runA_turned 0 0, hL]
  obtain ⟨n, hn⟩ : ∃ n, L.length = n := ⟨_, rfl⟩
  have hn3 : n ≤ 300 := by rw [← hn, ← hL]; have := runA_len (f := ordf 0 0) acts; omega
  have o0 : OrdOk 0 0 := .inl rfl
  have o1 : OrdOk 1 0 := .inr (.inl rfl)
  have S0 := hid (mapState_out o0 ha (Nat.le_refl _) (by omega) hL hn)
  have S1 := hid (mapState_out (n := n) o1 ha (Nat.le_refl _) (by omega) hL1 (by rw [List.length_reverse, hn]))
  have MI := hid (fun W (hW : Keep (fun _ => False) w W) => MapMin_any o0 (ha.keep hW fun _ _ => id) hW.size (by omega : acts.length ≤ 100000))
  have MA := hid (fun W (hW : Keep (fun _ => False) w W) => MapMax_any o1 (ha.keep hW fun _ _ => id) hW.size (by omega : acts.length ≤ 100000))
  rw [hL] at MI
  rw [hL1, List.getLast?_reverse] at MA
  obtain ⟨px, py, pb, hp⟩ := pairV_form L.head?
  rw [hp] at MI MA
  have ex : (px == px) = true := by simp
  have ey : (py == py) = true := by simp
  have eb : (pb == pb) = true := by simp
  have HN := hid hn
  clear ha hL hL1 hn o0 o1 hp
  go_enter Try.func18, Try.ntmps18
  go_wp2_with (fail)
  refine (S0.out _ (Keep.refl _ _)).mono ?_
  rintro e w1 ⟨a1, c1, a2, c2, rfl, r1, r2, hk⟩
  have K1 := hid hk
  have R1 := hid (And.intro r1 r2)
  clear hk r1 r2
  go_wp2_with (fail)
  have KB1 := hid (K1.out.alloc (.cells #[.slice a1 n c1, .slice a2 n c2, .int .i64 n, .bool (n == 0)] 34))
  refine (S1.out _ KB1.out).mono ?_
  rintro e w2 ⟨a3, c3, a4, c4, rfl, r3, r4, hk⟩
  have K2 := hid hk
  obtain ⟨W, hW⟩ : ∃ W, W = w2.alloc (.cells #[.slice a3 n c3, .slice a4 n c4, .int .i64 n, .bool (n == 0)] 34) := ⟨_, rfl⟩
  have KB3 : Keep (fun _ => False) w2 W := by rw [hW]; exact (Keep.refl _ _).alloc _
  have KB2 := hid (K2.out.trans KB3)
  have X1 := state_box KB2.out
  have X2 := state_box (Keep.refl (fun _ => False) (w2.alloc (.cells #[.slice a3 n c3, .slice a4 n c4, .int .i64 n, .bool (n == 0)] 34)))
  rw [← hW] at X2
  have HX := hid (And.intro X1 X2)
  have KW := hid (show Keep (fun _ => False) w W from KB1.out.trans KB2.out)
  have Q1 := hid (RowIn.on (RowIn.on R1.out.1 ((Keep.refl _ _).alloc _)) KB2.out)
  have Q2 := hid (RowIn.on (RowIn.on R1.out.2 ((Keep.refl _ _).alloc _)) KB2.out)
  have Q3 := hid (RowIn.on r3 KB3)
  have Q4 := hid (RowIn.on r4 KB3)
  rw [hW] at X1 X2
  obtain ⟨x10, x11, -, -⟩ := X1
  obtain ⟨x20, x21, -, -⟩ := X2
  have HW := hid hW
  clear hk r3 r4 KB3 hW
  go_wp2_with (fail)
  rw [← HW.out]
  rw [← HW.out] at x10 x11 x20 x21
  go_loopw [47] (fun i wr => ∃ k j : Nat, k ≤ n ∧ i = .int .i64 k ∧ wr = W.drewN j) (fun i _ => n - (intOf i).toNat)
  case atStart => exact ⟨0, 0, Nat.zero_le _, rfl, rfl⟩
  case round =>
    obtain ⟨k, j, hk, rfl, hw⟩ := hrel
    by_cases hlt : k < n
    · obtain ⟨q, hq⟩ : ∃ q, k + q + 1 = n := ⟨n - 1 - k, by omega⟩
      obtain ⟨e0, he⟩ : ∃ e0, L[k]? = some e0 := ⟨_, List.getElem?_eq_getElem (by rw [HN.out]; exact hlt)⟩
      obtain ⟨x, y⟩ := e0
      have hr : L.reverse[q]? = some (x, y) := by
        have hl := HN.out
        rw [List.getElem?_reverse (by omega), show L.length - 1 - q = k by omega, he]
      obtain ⟨b1, f1, g1, t1⟩ := num_at (k := k) (x := x) Q1.out (by rw [List.getElem?_map, he]; rfl)
      obtain ⟨b2, f2, g2, t2⟩ := num_at (k := k) (x := y) Q2.out (by rw [List.getElem?_map, he]; rfl)
      obtain ⟨b3, f3, g3, t3⟩ := num_at (k := q) (x := x) Q3.out (by rw [List.getElem?_map, hr]; rfl)
      obtain ⟨b4, f4, g4, t4⟩ := num_at (k := q) (x := y) Q4.out (by rw [List.getElem?_map, hr]; rfl)
      subst g1 g2 g3 g4
      have y10 : wr.cell? ⟨w1.heap.size, 0, none⟩ = some (.slice (some ⟨b1, f1, none⟩) n c1) := by rw [hw]; exact HX.out.1.1
      have y11 : wr.cell? ⟨w1.heap.size, 1, none⟩ = some (.slice (some ⟨b2, f2, none⟩) n c2) := by rw [hw]; exact HX.out.1.2.1
      have y20 : wr.cell? ⟨w2.heap.size, 0, none⟩ = some (.slice (some ⟨b3, f3, none⟩) n c3) := by rw [hw]; exact HX.out.2.1
      have y21 : wr.cell? ⟨w2.heap.size, 1, none⟩ = some (.slice (some ⟨b4, f4, none⟩) n c4) := by rw [hw]; exact HX.out.2.2.1
      have u1 : wr.cell? ⟨b1, f1 + k, none⟩ = some (.int .i64 x) := by rw [hw]; exact t1
      have u2 : wr.cell? ⟨b2, f2 + k, none⟩ = some (.int .i64 y) := by rw [hw]; exact t2
      have u3 : wr.cell? ⟨b3, f3 + q, none⟩ = some (.int .i64 x) := by rw [hw]; exact t3
      have u4 : wr.cell? ⟨b4, f4 + q, none⟩ = some (.int .i64 y) := by rw [hw]; exact t4
      have HWR := hid hw
      have i1 : (k : Int) < (n : Int) := by omega
      have i2 : (q : Int) < (n : Int) := by omega
      have i3 : (0 : Int) ≤ (q : Int) := by omega
      have i4 : (n : Int) - 1 - (k : Int) = (q : Int) := by omega
      clear hw he hr t1 t2 t3 t4 x10 x11 x20 x21
      go_wp2_with (fail)
      go_quiet (fail)
      go_wp2_with (fail)
      go_roundw
      case rel => exact ⟨k + 1, j + nq, by omega, by go_num, by rw [HWR.out, World.drewN_drewN]⟩
      case measure => simp [intOf]; omega
    · obtain rfl : n = k := by omega
      have HWR := hid hw
      have MI2 := hid (MI.out wr (by rw [hw]; exact KW.out.drewN j))
      clear hw x10 x11 x20 x21
      go_wp2_with (fail)
      refine MI2.out.mono ?_
      rintro e w5 ⟨rfl, hk5⟩
      have K5 := hid (show Keep (fun _ => False) w w5 from (show Keep (fun _ => False) w wr by rw [HWR.out]; exact KW.out.drewN j).trans hk5)
      clear hk5
      go_wp2_with (fail)
      refine (MA.out _ K5.out).mono ?_
      rintro e w6 ⟨rfl, hk6⟩
      have K6 := hid (K5.out.trans hk6)
      clear hk6
      go_wp2_with (go_at_call 31; refine (keeps_any _).mono ?_; rintro e w7 ⟨rfl, hk⟩; have K7 := hid (K6.out.trans hk); clear hk)
      go_ret
      exact ⟨rfl, K7.out.to_below⟩

set_option maxRecDepth 100000 in
set_option maxHeartbeats 1600000 in
theorem fnTurned_walk {w : World} (v : Value) (acts : List Act3) (ha : ActsIn w w.heap.size v acts) (hn : acts.length ≤ maxLen) :
    Calls Try.prog 18 #[v] w fun e w' => e = .returned (.bool true) ∧ Below w.heap.size w w' := by
  unfold maxLen at hn
  by_cases h300 : acts.length ≤ 300
  · exact turned_main ha h300
  · obtain ⟨ao, cap, rfl⟩ := ha.len
    have h3 : (300 : Int) < acts.length := by omega
    clear ha h300
    by_cases hbig : (2147483647 : Int) < acts.length
    · go_enter Try.func18, Try.ntmps18
      go_wp2_with (fail)
      go_ret
      exact ⟨rfl, Below.refl _ _⟩
    · go_enter Try.func18, Try.ntmps18
      go_wp2_with (fail)
      go_ret
      exact ⟨rfl, Below.refl _ _⟩
end Go.Proofs.Ytdamfannmlncnaa
