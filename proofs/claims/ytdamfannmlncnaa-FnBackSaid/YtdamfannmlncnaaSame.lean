/- Two states that tell the same are the same. A key that is put in is there. -/
import Derived.Test.YtdamfannmlncnaaState
namespace Go.Proofs.Ytdamfannmlncnaa
open Go.RowKit
set_option linter.unusedVariables false
set_option linter.unusedSimpArgs false
set_option maxHeartbeats 1600000

instance (kind m : Int) : Decidable (OrdOk kind m) := by unfold OrdOk; infer_instance

section
variable {w : World}
theorem same_any {v1 v2 : Value} {l : List Int} (h1 : RowIn w w.heap.size encN v1 l) (h2 : RowIn w w.heap.size encN v2 l) (hlen : l.length ≤ 1000000) :
    Calls Try.prog 57 #[v1, v2] w fun e w' => e = .returned (.bool true) ∧ ∃ k, w' = w.drewN k := by
  obtain ⟨a1, c1, rfl⟩ := h1.len
  obtain ⟨a2, c2, rfl⟩ := h2.len
  rcases h1 with ⟨rfl, _⟩ | ⟨b1, o1, cap1, e1, hb1, hc1⟩
  · go_enter Try.func57, Try.ntmps57
    go_wp2_with (fail)
    refine wp_loop_rounds 1 ?_
    rw [rounds_succ]
    go_wp2_with (fail)
    go_ret
    exact ⟨rfl, 0, rfl⟩
  · rcases h2 with ⟨rfl, _⟩ | ⟨b2, o2, cap2, e2, hb2, hc2⟩
    · go_enter Try.func57, Try.ntmps57
      go_wp2_with (fail)
      refine wp_loop_rounds 1 ?_
      rw [rounds_succ]
      go_wp2_with (fail)
      go_ret
      exact ⟨rfl, 0, rfl⟩
    · simp only [Value.slice.injEq] at e1 e2
      obtain ⟨rfl, -, rfl⟩ := e1
      obtain ⟨rfl, -, rfl⟩ := e2
      have HC := hid (And.intro hc1 hc2)
      have HL := hid hlen
      obtain ⟨n, hn⟩ : ∃ n, n = l.length := ⟨_, rfl⟩
      have HN := hid hn
      rw [← hn]
      clear hb1 hb2 hc1 hc2 hlen hn
      go_enter Try.func57, Try.ntmps57
      go_wp2_with (fail)
      go_loopw [5, 13] (fun x i wr => ∃ k j : Nat, k ≤ n ∧ i = .int .i64 k ∧ wr = w.drewN j) (fun _ i _ => n - (intOf i).toNat)
      case atStart => exact ⟨0, 0, Nat.zero_le _, rfl, rfl⟩
      case round =>
        obtain ⟨k, j, hk, rfl, hw⟩ := hrel
        by_cases hlt : k < n
        · have hk' : k < l.length := by rw [← HN.out]; exact hlt
          have hb : n ≤ 1000000 := by have := HL.out; have := HN.out; omega
          have z1 : wr.cell? ⟨b1, o1 + k, none⟩ = some (.int .i64 l[k]) := by rw [hw]; exact one_cells encN_len HC.out.1 hk' rfl
          have z2 : wr.cell? ⟨b2, o2 + k, none⟩ = some (.int .i64 l[k]) := by rw [hw]; exact one_cells encN_len HC.out.2 hk' rfl
          obtain ⟨x, hx⟩ : ∃ x, l[k] = x := ⟨_, rfl⟩
          rw [hx] at z1 z2
          have HW := hid hw
          have hi : (k : Int) < (n : Int) := by omega
          clear hx hk' hw
          go_wp2_with (fail)
          go_quiet (fail)
          go_wp2_with (fail)
          go_roundw
          case rel => exact ⟨k + 1, j + nq, by omega, by go_num, by rw [HW.out, World.drewN_drewN]⟩
          case measure => simp [intOf]; omega
        · obtain rfl : n = k := by omega
          go_wp2_with (fail)
          go_ret
          exact ⟨rfl, j, rfl⟩
/-- A call that only reads, at every later world. -/
theorem same_on {b : Nat} {v1 v2 : Value} {l : List Int} (h1 : w.ownsRow b 3 1 v1 l.length (l.flatMap encN)) {b2 : Nat} (h2 : w.ownsRow b2 3 1 v2 l.length (l.flatMap encN)) (hlen : l.length ≤ 1000000) (w2 : World) (hk : Keep (fun _ => False) w w2) :
    Calls Try.prog 57 #[v1, v2] w2 fun e w' => e = .returned (.bool true) ∧ Keep (fun _ => False) w2 w' :=
  (same_any (RowIn.of_owns (ownsRow.on h1 hk)) (RowIn.of_owns (ownsRow.on h2 hk)) hlen).mono fun e w' ⟨he, k, hw⟩ => ⟨he, by rw [hw]; exact (Keep.refl _ _).drewN k⟩

theorem sameState_any {b1 b2 : Nat} {v1 v2 : Value} {L : List (Int × Int)} (h1 : StateIn w b1 v1 L) (h2 : StateIn w b2 v2 L) (hlen : L.length ≤ 1000000) :
    Calls Try.prog 29 #[v1, v2] w fun e w' => e = .returned (.bool true) ∧ Keep (fun _ => False) w w' := by
  obtain ⟨a1, c1, a2, c2, rfl, r1, r2⟩ := h1
  obtain ⟨a3, c3, a4, c4, rfl, r3, r4⟩ := h2
  have S1 := hid (same_on (by rw [List.length_map]; exact r1) (by rw [List.length_map]; exact r3) (by rw [List.length_map]; exact hlen))
  have S2 := hid (same_on (by rw [List.length_map]; exact r2) (by rw [List.length_map]; exact r4) (by rw [List.length_map]; exact hlen))
  obtain ⟨n, hn⟩ : ∃ n, n = L.length := ⟨_, rfl⟩
  rw [← hn] at S1 S2 ⊢
  clear r1 r2 r3 r4 hlen hn
  obtain ⟨y, hy⟩ : ∃ y, y = (n == 0) := ⟨_, rfl⟩
  rw [← hy]
  clear hy
  have yy : (y == y) = true := by simp
  go_enter Try.func29, Try.ntmps29
  go_wp2_with (fail)
  have K0 := hid (((Keep.refl (fun _ => False) w).alloc (.cells #[.slice a1 n c1, .slice a2 n c2, .int .i64 n, .bool y] 34)).alloc (.cells #[.slice a3 n c3, .slice a4 n c4, .int .i64 n, .bool y] 34))
  refine (S1.out _ K0.out).mono ?_
  rintro e w1 ⟨rfl, hk⟩
  have K1 := hid (K0.out.trans hk)
  have hB1 : w1.heap[w.heap.size]? = some (.cells #[.slice a1 n c1, .slice a2 n c2, .int .i64 n, .bool y] 34 (0, 0)) := hk.get (by rw [Below.heap_alloc _ _ _ (by simp)]; exact heap_alloc_new w _) id
  have hB2 : w1.heap[w.heap.size + 1]? = some (.cells #[.slice a3 n c3, .slice a4 n c4, .int .i64 n, .bool y] 34 (0, 0)) := hk.get (by have := heap_alloc_new (w.alloc (.cells #[.slice a1 n c1, .slice a2 n c2, .int .i64 n, .bool y] 34)) (.cells #[.slice a3 n c3, .slice a4 n c4, .int .i64 n, .bool y] 34); simpa using this) id
  have HB := hid (And.intro hB1 hB2)
  have p1 : w1.cell? ⟨w.heap.size, 1, none⟩ = some (.slice a2 n c2) := by simp [World.cell?, hB1]
  have q1 : w1.cell? ⟨w.heap.size + 1, 1, none⟩ = some (.slice a4 n c4) := by simp [World.cell?, hB2]
  clear hk hB1 hB2
  go_wp2_with (fail)
  refine (S2.out _ K1.out).mono ?_
  rintro e w2 ⟨rfl, hk⟩
  have K2 := hid (K1.out.trans hk)
  have hB1 := hk.get HB.out.1 id
  have hB2 := hk.get HB.out.2 id
  have p2 : w2.cell? ⟨w.heap.size, 2, none⟩ = some (.int .i64 n) := by simp [World.cell?, hB1]
  have q2 : w2.cell? ⟨w.heap.size + 1, 2, none⟩ = some (.int .i64 n) := by simp [World.cell?, hB2]
  have p3 : w2.cell? ⟨w.heap.size, 3, none⟩ = some (.bool y) := by simp [World.cell?, hB1]
  have q3 : w2.cell? ⟨w.heap.size + 1, 3, none⟩ = some (.bool y) := by simp [World.cell?, hB2]
  clear hk hB1 hB2 p1 q1
  go_wp2_with (fail)
  go_ret
  exact ⟨rfl, K2.out⟩

theorem orderOk_any (kind m : Int) (w : World) : Calls Try.prog 28 #[.agg #[.int .i64 kind, .int .i64 m]] w fun e w' => e = .returned (.bool (decide (OrdOk kind m))) ∧ Keep (fun _ => False) w w' := by
  have fin : ∀ b : Bool, (b = true ↔ OrdOk kind m) → decide (OrdOk kind m) = b := by
    intro b hb
    cases b with
    | true => exact decide_eq_true (hb.1 rfl)
    | false => exact decide_eq_false fun h => by have := hb.2 h; cases this
  by_cases h0 : kind = 0
  · rw [fin true (by simp [OrdOk, h0])]
    subst h0
    clear fin
    go_enter Try.func28, Try.ntmps28
    go_wp2
    go_ret
    exact ⟨rfl, (Keep.refl _ _).alloc _⟩
  · by_cases h1 : kind = 1
    · rw [fin true (by simp [OrdOk, h1])]
      subst h1
      clear fin h0
      go_enter Try.func28, Try.ntmps28
      go_wp2
      go_ret
      exact ⟨rfl, (Keep.refl _ _).alloc _⟩
    · by_cases h2 : kind = 2
      · subst h2
        by_cases h3 : 1 ≤ m
        · by_cases h4 : m ≤ 1000
          · rw [fin true (by simp [OrdOk, h3, h4])]
            clear fin h0 h1
            have d3 : decide (1 ≤ m) = true := decide_eq_true h3
            have d4 : decide (m ≤ 1000) = true := decide_eq_true h4
            go_enter Try.func28, Try.ntmps28
            go_wp2
            go_ret
            exact ⟨rfl, (Keep.refl _ _).alloc _⟩
          · rw [fin false (by simp [OrdOk, h4])]
            clear fin h0 h1
            have d3 : decide (1 ≤ m) = true := decide_eq_true h3
            have d4 : decide (m ≤ 1000) = false := decide_eq_false h4
            go_enter Try.func28, Try.ntmps28
            go_wp2
            go_ret
            exact ⟨rfl, (Keep.refl _ _).alloc _⟩
        · rw [fin false (by simp [OrdOk, h3])]
          clear fin h0 h1
          have d3 : decide (1 ≤ m) = false := decide_eq_false h3
          go_enter Try.func28, Try.ntmps28
          go_wp2
          go_ret
          exact ⟨rfl, (Keep.refl _ _).alloc _⟩
      · rw [fin false (by simp [OrdOk, h0, h1, h2])]
        have b0 : (kind == 0) = false := by simpa using h0
        have b1 : (kind == 1) = false := by simpa using h1
        have b2 : (kind == 2) = false := by simpa using h2
        clear fin h0 h1 h2
        go_enter Try.func28, Try.ntmps28
        go_wp2
        go_ret
        exact ⟨rfl, (Keep.refl _ _).alloc _⟩

theorem keeps_any (w : World) : Calls Try.prog 31 #[] w fun e w' => e = .returned (.bool true) ∧ Keep (fun _ => False) w w' := by
  have HA : ActsIn (w.alloc (.cells #[.int .i64 1, .int .i64 5, .int .i64 6] 27)) (w.alloc (.cells #[.int .i64 1, .int .i64 5, .int .i64 6] 27)).heap.size (.slice (some ⟨w.heap.size, 0, none⟩) 1 1) [(1, 5, 6)] := by
    refine .inr ⟨w.heap.size, 0, 1, rfl, by simp, fun j u hu => ?_⟩
    rw [Nat.zero_add, World.cell?_alloc_new]
    simpa [encA] using hu
  have ST := hid (mapState_any (kind := 0) (m := 0) (.inl rfl) HA (by decide))
  clear HA
  go_enter Try.func31, Try.ntmps31
  go_wp2_with (fail)
  refine ST.out.mono ?_
  rintro e w1 ⟨sv, rfl, hs, hk⟩
  have K1 := hid (((Keep.refl (fun _ => False) w).alloc _).trans hk)
  have hL : runA (ordf 0 0) [(1, 5, 6)] = [(5, 6)] := rfl
  rw [hL] at hs
  obtain ⟨a1, c1, a2, c2, rfl, r1, r2⟩ := hs
  rcases r1.2 with ⟨h0, -⟩ | ⟨g, cap, cur, he, hb, hg, r⟩
  · simp at h0
  · simp only [Value.slice.injEq] at he
    obtain ⟨rfl, -, rfl⟩ := he
    have gc : w1.cell? ⟨g, 0, none⟩ = some (.int .i64 5) := (r1.cellAt 0 (by simp)).trans rfl
    have glt : g < w1.heap.size := World.block_lt_of_cell? _ _ gc
    have gn : ¬ w1.heap.size = g := by omega
    have gn' : ¬ g = w1.heap.size := by omega
    have gA : ∀ O, (w1.alloc O).cell? ⟨g, 0, none⟩ = some (.int .i64 5) := fun O => (World.cell?_alloc_lt _ _ _ glt).trans gc
    clear r1 r2 hk hL hb hg r
    go_wp2_with (fail)
    go_ret
    exact ⟨rfl, K1.out.alloc _⟩
end
end Go.Proofs.Ytdamfannmlncnaa
