/- MapWalk walked; two walks compared; moves looked at. -/
import Derived.Test.YtdamfannmlncnaaWalked
namespace Go.Proofs.Ytdamfannmlncnaa
open Go.RowKit
set_option linter.unusedVariables false
set_option linter.unusedSimpArgs false
set_option maxHeartbeats 1600000
attribute [local go_sem ↓] Go.wp_at_zero Go.wp_at_succ

set_option maxRecDepth 100000 in
theorem MapWalk_any {w : World} {B : Nat} {kind m : Int} {v v3 : Value} {acts ms : List Act3} (hok : OrdOk kind m) (ha : ActsIn w B v acts) (hb : RowIn w B encA v3 ms) (hB : B ≤ w.heap.size) (hlen : acts.length ≤ 100000) (hlen3 : ms.length ≤ 100000) (hmo : MovesOk ms) :
    Calls Try.prog 34 #[.agg #[.int .i64 kind, .int .i64 m], v, v3] w fun e w' => ∃ sv, e = .returned sv ∧ RowIn w' w'.heap.size encS sv (walkA (runA (ordf kind m) acts) ms).2 ∧ Keep (fun _ => False) w w' := by
  have K0 := hid (show Keep (fun _ => False) w (w.alloc (.cells #[.int .i64 kind, .int .i64 m] 23)) from (Keep.refl _ _).alloc _)
  have BT := hid (built_any hok (ha.keep K0.out fun _ _ => id) (Nat.le_trans hB K0.out.size) hlen)
  have HB := hid (And.intro (hb.keep K0.out fun _ _ => id) (And.intro hB (And.intro hlen3 hmo)))
  obtain ⟨L, hL⟩ : ∃ L, L = runA (ordf kind m) acts := ⟨_, rfl⟩
  rw [← hL] at BT ⊢
  clear hok ha hb hB hlen hlen3 hmo hL
  go_enter Try.func34, Try.ntmps34
  go_wp2_with (fail)
  refine BT.out.mono ?_
  rintro e w1 ⟨mb, ob, rfl, hm, hk⟩
  have K1 := hid (show Keep (fun _ => False) (w.alloc (.cells #[.int .i64 kind, .int .i64 m] 23)) w1 from hk.mono fun i hi hs => by omega)
  obtain ⟨tb, t, hmb, htm, hL, -⟩ := hm
  have IT := hid (mapIterator_any hmb)
  have HT := hid (And.intro htm hL)
  clear hk hmb htm hL
  go_wp2_with (fail)
  refine IT.out.mono ?_
  rintro e w2 ⟨rfl, hk⟩
  have K2 := hid (K1.out.trans hk)
  have hsz := hid K2.out.size
  have T2 := hid (HT.out.1.tree.keep (hk.alloc (.cells #[.pointer (some ⟨tb, 0, none⟩), .pointer none, .int .u8 0] 96)) id (fun _ _ => id))
  have WK := hid (walked_any (w := w2.alloc (.cells #[.pointer (some ⟨tb, 0, none⟩), .pointer none, .int .u8 0] 96)) (ib := w2.heap.size) (itIn_begin.2 (heap_alloc_new w2 _)) T2.out
    (by have := lt_of_heap HT.out.1.tree.head; have := hk.size; omega) (fun hx => by have := HT.out.1.tree.lt hx; have := hk.size; omega)
    (HB.out.1.keep (K2.out.alloc _) fun _ _ => id) (by have := HB.out.2.1; have := hsz.out; simp at this; omega) HB.out.2.2.1 HB.out.2.2.2)
  rw [HT.out.2] at WK
  clear hk
  go_wp2_with (fail)
  refine WK.out.mono ?_
  rintro e w3 ⟨sv, rfl, hrow, hk⟩
  have HF := hid (And.intro hrow hk)
  clear hrow hk
  go_wp2_with (fail)
  go_ret
  exact ⟨_, rfl, RowIn.of_owns HF.out.1, ((K0.out.trans K2.out).alloc _).freshKeep (by have := (K0.out.trans K2.out).size; omega) HF.out.2⟩

theorem seen_at {w : World} {B : Nat} {b off n c0 k : Nat} {l : List Seen3} {e : Seen3} (h : ∀ j u, (l.flatMap encS)[j]? = some u → w.cell? ⟨b, off + j, none⟩ = some u) (hk : l[k]? = some e) :
    w.cell? ⟨b, off + k * 3, none⟩ = some (.bool e.1) ∧ w.cell? ⟨b, off + k * 3 + 1, none⟩ = some (.int .i64 e.2.1) ∧ w.cell? ⟨b, off + k * 3 + 2, none⟩ = some (.int .i64 e.2.2) := by
  obtain ⟨hl, rfl⟩ := List.getElem?_eq_some_iff.1 hk
  exact ⟨h (k * 3) _ (flat_get encS_len l k hl 0 (by omega)), h (k * 3 + 1) _ (flat_get encS_len l k hl 1 (by omega)), h (k * 3 + 2) _ (flat_get encS_len l k hl 2 (by omega))⟩

set_option maxRecDepth 100000 in
theorem sameSeen_any {w : World} {v1 v2 : Value} {l : List Seen3} (h1 : RowIn w w.heap.size encS v1 l) (h2 : RowIn w w.heap.size encS v2 l) (hlen : l.length ≤ 1000000) :
    Calls Try.prog 33 #[v1, v2] w fun e w' => e = .returned (.bool true) ∧ ∃ k, w' = w.drewN k := by
  obtain ⟨a1, c1, rfl⟩ := h1.len
  obtain ⟨a2, c2, rfl⟩ := h2.len
  rcases h1 with ⟨rfl, _⟩ | ⟨b1, o1, cap1, e1, hb1, hc1⟩
  · go_enter Try.func33, Try.ntmps33
    go_wp2_with (fail)
    refine wp_loop_rounds 1 ?_
    rw [rounds_succ]
    go_wp2_with (fail)
    go_ret
    exact ⟨rfl, 0, rfl⟩
  · rcases h2 with ⟨rfl, _⟩ | ⟨b2, o2, cap2, e2, hb2, hc2⟩
    · go_enter Try.func33, Try.ntmps33
      go_wp2_with (fail)
      refine wp_loop_rounds 1 ?_
      rw [rounds_succ]
      go_wp2_with (fail)
      go_ret
      exact ⟨rfl, 0, rfl⟩
    · simp only [Value.slice.injEq] at e1 e2
      obtain ⟨rfl, -, rfl⟩ := e1
      obtain ⟨rfl, -, rfl⟩ := e2
      have HC := hid (And.intro hc1 hc2)
      have HL := hid hlen
      obtain ⟨n, hn⟩ : ∃ n, n = l.length := ⟨_, rfl⟩
      have HN := hid hn
      rw [← hn]
      clear hb1 hb2 hc1 hc2 hlen hn
      go_enter Try.func33, Try.ntmps33
      go_wp2_with (fail)
      go_loopw [5, 13] (fun x i wr => ∃ k j : Nat, k ≤ n ∧ i = .int .i64 k ∧ wr = w.drewN j) (fun _ i _ => n - (intOf i).toNat)
      case atStart => exact ⟨0, 0, Nat.zero_le _, rfl, rfl⟩
      case round =>
        obtain ⟨k, j, hk, rfl, hw⟩ := hrel
        by_cases hlt : k < n
        · obtain ⟨e, he⟩ : ∃ e : Seen3, l[k]? = some e := ⟨_, List.getElem?_eq_getElem (by rw [← HN.out]; exact hlt)⟩
          have hb : n ≤ 1000000 := by have := HL.out; have := HN.out; omega
          obtain ⟨z0, z1, z2⟩ := seen_at (B := 0) (n := 0) (c0 := 0) HC.out.1 he
          obtain ⟨y0, y1, y2⟩ := seen_at (B := 0) (n := 0) (c0 := 0) HC.out.2 he
          obtain ⟨eb, ex, ey⟩ := e
          have z0 : wr.cell? ⟨b1, o1 + k * 3, none⟩ = some (.bool eb) := by rw [hw]; exact z0
          have z1 : wr.cell? ⟨b1, o1 + k * 3 + 1, none⟩ = some (.int .i64 ex) := by rw [hw]; exact z1
          have z2 : wr.cell? ⟨b1, o1 + k * 3 + 2, none⟩ = some (.int .i64 ey) := by rw [hw]; exact z2
          have y0 : wr.cell? ⟨b2, o2 + k * 3, none⟩ = some (.bool eb) := by rw [hw]; exact y0
          have y1 : wr.cell? ⟨b2, o2 + k * 3 + 1, none⟩ = some (.int .i64 ex) := by rw [hw]; exact y1
          have y2 : wr.cell? ⟨b2, o2 + k * 3 + 2, none⟩ = some (.int .i64 ey) := by rw [hw]; exact y2
          have q0 : (eb == eb) = true := by simp
          have q1 : (ex == ex) = true := by simp
          have q2 : (ey == ey) = true := by simp
          have HW := hid hw
          have hi : (k : Int) < (n : Int) := by omega
          clear he hw
          go_wp2_with (fail)
          go_quiet (fail)
          go_wp2_with (fail)
          go_roundw
          case rel => exact ⟨k + 1, j + nq, by omega, by go_num, by rw [HW.out, World.drewN_drewN]⟩
          case measure => simp [intOf]; omega
        · obtain rfl : n = k := by omega
          go_wp2_with (fail)
          go_ret
          exact ⟨rfl, j, rfl⟩

theorem movesOk_snoc {ms : List Act3} {k : Nat} {a : Act3} (ht : ms.take (k + 1) = ms.take k ++ [a]) (h : MovesOk (ms.take k)) (ha : (a.1 = 7 ∨ a.1 = 8) → 1 ≤ a.2.1 ∧ a.2.1 ≤ 1000) : MovesOk (ms.take (k + 1)) := by
  rw [ht]
  intro x hx
  rcases List.mem_append.1 hx with hx | hx
  · exact h x hx
  · rw [List.mem_singleton.1 hx]; exact ha
theorem movesOk_bad {ms : List Act3} {k : Nat} {a : Act3} (hk : ms[k]? = some a) (h7 : a.1 = 7 ∨ a.1 = 8) (hb : ¬ (1 ≤ a.2.1 ∧ a.2.1 ≤ 1000)) : ¬ MovesOk ms := fun h => hb (h a (List.mem_of_getElem? hk) h7)

set_option maxRecDepth 100000 in
theorem movesOk_any {w : World} {B : Nat} {v : Value} {ms : List Act3} (h : RowIn w B encA v ms) (hlen : ms.length ≤ 2147483647) {b : Bool} (hb : b = true ↔ MovesOk ms ∧ ms.length ≤ 300) :
    Calls Try.prog 37 #[v] w fun e w' => e = .returned (.bool b) ∧ Keep (fun _ => False) w w' := by
  obtain ⟨a0, c0, rfl⟩ := h.len
  obtain ⟨n, hn⟩ : ∃ n, ms.length = n := ⟨_, rfl⟩
  have HN := hid hn
  have HB := hid hb
  have HH := hid h
  rw [hn] at hlen ⊢
  clear h hb hn
  go_enter Try.func37, Try.ntmps37
  go_wp2_with (fail)
  go_loopw [7] (fun i wr => ∃ k : Nat, k ≤ n ∧ i = .int .i64 k ∧ MovesOk (ms.take k) ∧ Keep (fun _ => False) w wr) (fun i _ => n - (intOf i).toNat)
  case atStart => exact ⟨0, Nat.zero_le _, rfl, (fun a ha => by simp at ha), Keep.refl _ _⟩
  case round =>
    obtain ⟨k, hk, rfl, hmo, hkr⟩ := hrel
    have KR := hid hkr
    have HM := hid hmo
    clear hkr hmo
    by_cases hlt : k < n
    · obtain ⟨a, hak⟩ : ∃ a : Act3, ms[k]? = some a := ⟨_, List.getElem?_eq_getElem (by rw [HN.out]; exact hlt)⟩
      have htk : ms.take (k + 1) = ms.take k ++ [a] := by obtain ⟨hl, rfl⟩ := List.getElem?_eq_some_iff.1 hak; exact List.take_succ_eq_append_getElem hl
      obtain ⟨g, off, hv, hc0, hc1, hc2⟩ := move_at HH.out hak
      subst hv
      have HE := hid (And.intro hak htk)
      obtain ⟨o, mm, mr⟩ := a
      have z0 := KR.out.cell hc0 id
      have z1 := KR.out.cell hc1 id
      have z2 := KR.out.cell hc2 id
      obtain ⟨x0, x1, x2⟩ := mobj_cells (w := wr.alloc (.cells #[.int .i64 o, .int .i64 mm, .int .i64 mr] 42)) (a := (o, mm, mr)) (heap_alloc_new wr _)
      clear hak htk hc0 hc1 hc2
      have bad : (o = 7 ∨ o = 8) → ¬ (1 ≤ mm ∧ mm ≤ 1000) → b = false := fun h7 h8 => by
        cases hbb : b with
        | false => rfl
        | true => exact absurd (HB.out.1 hbb).1 (movesOk_bad HE.out.1 h7 h8)
      have BAD := hid bad
      clear bad
      by_cases h7 : o = 7
      · subst h7
        by_cases h1 : mm < 1
        · have e1 := BAD.out (.inl rfl) (by omega)
          subst e1
          go_wp2_with (fail)
          go_ret
          exact ⟨rfl, KR.out.alloc _⟩
        · by_cases h2 : 1000 < mm
          · have e1 := BAD.out (.inl rfl) (by omega)
            subst e1
            go_wp2_with (fail)
            go_ret
            exact ⟨rfl, KR.out.alloc _⟩
          · have HO := hid (movesOk_snoc HE.out.2 HM.out (fun _ => (show 1 ≤ mm ∧ mm ≤ 1000 from ⟨by omega, by omega⟩)))
            go_wp2_with (fail)
            go_roundw
            case rel => exact ⟨k + 1, by omega, by go_num, HO.out, KR.out.alloc _⟩
            case measure => simp [intOf]; omega
      · by_cases h8 : o = 8
        · subst h8
          by_cases h1 : mm < 1
          · have e1 := BAD.out (.inr rfl) (by omega)
            subst e1
            go_wp2_with (fail)
            go_ret
            exact ⟨rfl, KR.out.alloc _⟩
          · by_cases h2 : 1000 < mm
            · have e1 := BAD.out (.inr rfl) (by omega)
              subst e1
              go_wp2_with (fail)
              go_ret
              exact ⟨rfl, KR.out.alloc _⟩
            · have HO := hid (movesOk_snoc HE.out.2 HM.out (fun _ => (show 1 ≤ mm ∧ mm ≤ 1000 from ⟨by omega, by omega⟩)))
              go_wp2_with (fail)
              go_roundw
              case rel => exact ⟨k + 1, by omega, by go_num, HO.out, KR.out.alloc _⟩
              case measure => simp [intOf]; omega
        · have HO := hid (movesOk_snoc HE.out.2 HM.out (fun h => by rcases h with h | h; exact absurd h h7; exact absurd h h8))
          have b7 : (o == 7) = false := by simpa using h7
          have b8 : (o == 8) = false := by simpa using h8
          clear h7 h8
          go_wp2_with (fail)
          go_roundw
          case rel => exact ⟨k + 1, by omega, by go_num, HO.out, KR.out.alloc _⟩
          case measure => simp [intOf]; omega
    · obtain rfl : n = k := by omega
      have hd : decide ((n : Int) ≤ 300) = b := by
        have hm := HM.out
        rw [List.take_of_length_le (by rw [HN.out]; omega)] at hm
        have h := HB.out
        rw [HN.out] at h
        cases b with
        | true => exact decide_eq_true (by have := (h.1 rfl).2; omega)
        | false => exact decide_eq_false fun h2 => by have := h.2 ⟨hm, by omega⟩; cases this
      go_wp2_with (fail)
      go_ret
      exact ⟨rfl, KR.out⟩
end Go.Proofs.Ytdamfannmlncnaa
