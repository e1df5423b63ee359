/- The reference's Find, Floor, Ceiling, Told, walked. -/
import Derived.Test.YtdamfannmlncnaaEnds
namespace Go.Proofs.Ytdamfannmlncnaa
open Go.RowKit
set_option linter.unusedVariables false
set_option linter.unusedSimpArgs false
set_option maxHeartbeats 1600000
attribute [local go_sem ↓] Go.wp_at_zero Go.wp_at_succ

/-- A pair, and whether there is one. -/
def foundV : Option (Int × Int) → Value
  | none => .tuple #[.agg #[.int .i64 0, .int .i64 0], .bool false]
  | some e => .tuple #[.agg #[.int .i64 e.1, .int .i64 e.2], .bool true]

theorem find_boxes (w : World) (kind m : Int) :
    ((w.alloc (.cells #[.int .i64 kind, .int .i64 m] 23)).alloc (.cells #[.int .i64 0, .int .i64 0] 57)).heap[w.heap.size]? = some (.cells #[.int .i64 kind, .int .i64 m] 23 (0, 0)) ∧
    ((w.alloc (.cells #[.int .i64 kind, .int .i64 m] 23)).alloc (.cells #[.int .i64 0, .int .i64 0] 57)).heap[w.heap.size + 1]? = some (.cells #[.int .i64 0, .int .i64 0] 57 (0, 0)) := by
  refine ⟨?_, blk_second' w _ _ _ _⟩
  rw [Below.heap_alloc _ _ _ (by simp)]; exact heap_alloc_new _ _
theorem find_kept {w W W' : World} {kind m : Int} (h : W.heap[w.heap.size]? = some (.cells #[.int .i64 kind, .int .i64 m] 23 (0, 0)) ∧ W.heap[w.heap.size + 1]? = some (.cells #[.int .i64 0, .int .i64 0] 57 (0, 0))) (hk : Keep (fun _ => False) W W') :
    (W'.cell? ⟨w.heap.size, 0, none⟩ = some (.int .i64 kind) ∧ W'.cell? ⟨w.heap.size, 1, none⟩ = some (.int .i64 m)) ∧
    (W'.cell? ⟨w.heap.size + 1, 0, none⟩ = some (.int .i64 0) ∧ W'.cell? ⟨w.heap.size + 1, 1, none⟩ = some (.int .i64 0)) ∧ Plain W' (w.heap.size + 1) := by
  have h1 := hk.get h.1 id
  have h2 := hk.get h.2 id
  refine ⟨⟨?_, ?_⟩, ⟨?_, ?_⟩, ⟨_, _, h2⟩⟩ <;> simp [World.cell?, h1, h2]
/-- The pair at a place of a row, in memory. -/
theorem row_at {w : World} {B : Nat} {a0 : Option Addr} {n c0 k : Nat} {L : List (Int × Int)} (h : RowIn w B encP (.slice a0 n c0) L) (hk : k < L.length) :
    ∃ b off, a0 = some ⟨b, off, none⟩ ∧ w.cell? ⟨b, off + k * 2, none⟩ = some (.int .i64 L[k].1) ∧ w.cell? ⟨b, off + k * 2 + 1, none⟩ = some (.int .i64 L[k].2) := by
  rcases h with ⟨rfl, -⟩ | ⟨b, off, cap, hv, hb, hc⟩
  · simp at hk
  · simp only [Value.slice.injEq] at hv
    exact ⟨b, off, hv.1, pair_cells hc k hk⟩

theorem Told_any (o : Option (Int × Int)) (x y : Int) (w : World) :
    Calls Try.prog 39 #[.agg #[.int .i64 (o.getD (x, y)).1, .int .i64 (o.getD (x, y)).2], .bool o.isSome] w fun e w' => e = .returned (pairV o) ∧ Keep (fun _ => False) w w' := by
  cases o with
  | none =>
    simp only [Option.getD, Option.isSome, pairV]
    go_enter Try.func39, Try.ntmps39
    go_wp2_with (fail)
    refine bodyPost_ret (v := .agg #[.int .i64 0, .int .i64 0, .bool false]) (by simp [results, Try.results39, go_sem]) rfl ?_
    exact ⟨rfl, by first | exact ((Keep.refl _ _).alloc _).alloc _ | repeat (first | exact Keep.refl _ _ | apply Keep.drew | apply Keep.alloc | (refine Keep.freshSet ?_ (by simp) _ _))⟩
  | some e0 =>
    obtain ⟨k, v⟩ := e0
    simp only [Option.getD, Option.isSome, pairV]
    go_enter Try.func39, Try.ntmps39
    go_wp2_with (fail)
    refine bodyPost_ret (v := .agg #[.int .i64 k, .int .i64 v, .bool true]) (by simp [results, Try.results39, go_sem]) rfl ?_
    exact ⟨rfl, by first | exact ((Keep.refl _ _).alloc _).alloc _ | repeat (first | exact Keep.refl _ _ | apply Keep.drew | apply Keep.alloc | (refine Keep.freshSet ?_ (by simp) _ _))⟩

set_option maxRecDepth 100000 in
theorem Find_any {w : World} {kind m : Int} {v : Value} {L : List (Int × Int)} (hok : OrdOk kind m) (h : RowIn w w.heap.size encP v L) (hlen : L.length ≤ 1000000) (key : Int) :
    Calls Try.prog 40 #[.agg #[.int .i64 kind, .int .i64 m], v, .int .i64 key] w fun e w' => e = .returned (foundV (look (ordf kind m) key L)) ∧ Keep (fun _ => False) w w' := by
  have K0 := hid (show Keep (fun _ => False) w ((w.alloc (.cells #[.int .i64 kind, .int .i64 m] 23)).alloc (.cells #[.int .i64 0, .int .i64 0] 57)) from ((Keep.refl _ _).alloc _).alloc _)
  have HOK := hid hok
  have H := hid h
  have HLEN := hid hlen
  have BX := hid (find_boxes w kind m)
  obtain ⟨a0, c0, rfl⟩ := h.len
  obtain ⟨n, hn⟩ : ∃ n, n = L.length := ⟨_, rfl⟩
  obtain ⟨r, hr⟩ : ∃ r, r = rank (ordf kind m) key L := ⟨_, rfl⟩
  have hrn : r ≤ n := by rw [hr, hn]; exact rank_le key L
  have hnb : n ≤ 1000000 := by rw [hn]; exact hlen
  have HR := hid hr
  have HN := hid hn
  have AT := hid (At_any HOK.out (RowIn.on H.out K0.out) HLEN.out key)
  rw [← hr] at AT
  rw [← hn] at AT ⊢
  clear hok h hlen hn hr
  go_enter Try.func40, Try.ntmps40
  go_wp2_with (fail)
  refine AT.out.mono ?_
  rintro e w1 ⟨rfl, hk⟩
  have K1 := hid hk
  clear hk
  obtain ⟨⟨o0, o1⟩, ⟨z0, z1⟩, pl⟩ := find_kept BX.out K1.out
  have HA := hid (Has_any HOK.out (RowIn.on H.out (K0.out.trans K1.out)) HLEN.out key HR.out)
  rw [← HN.out] at HA
  obtain ⟨hb, hhb⟩ : ∃ hb, hasA (ordf kind m) key L = hb := ⟨_, rfl⟩
  rw [hhb] at HA
  have HHB := hid hhb
  clear hhb
  go_wp2_with (fail)
  refine HA.out.mono ?_
  rintro e w2 ⟨rfl, hk⟩
  have K2 := hid (K1.out.trans hk)
  clear hk o0 o1 z0 z1 pl
  obtain ⟨⟨o0, o1⟩, ⟨z0, z1⟩, pl⟩ := find_kept BX.out K2.out
  cases hb with
  | false =>
    go_wp2_with (fail)
    refine bodyPost_ret (v := .tuple #[.agg #[.int .i64 0, .int .i64 0], .bool false]) (by simp [results, Try.results40, go_sem, z0, z1]) rfl ?_
    exact ⟨by rw [look_rank, HHB.out]; rfl, ((K0.out.trans K2.out).freshSet (by omega) _ _).freshSet (by omega) _ _⟩
  | true =>
    have hlt : r < n := by have := hasA_lt HHB.out; rw [← HR.out, ← HN.out] at this; exact this
    obtain ⟨b, off, hao, hcs⟩ := row_at H.out (k := r) (by rw [← HN.out]; omega)
    obtain rfl := hao
    obtain ⟨p, hp⟩ : ∃ p, L[r]'(by rw [← HN.out]; omega) = p := ⟨_, rfl⟩
    obtain ⟨x, y⟩ := p
    rw [hp] at hcs
    have y0 := (K0.out.trans K2.out).cell hcs.1 id
    have y1 := (K0.out.trans K2.out).cell hcs.2 id
    have HP := hid (show L[r]? = some (x, y) by rw [List.getElem?_eq_getElem (by rw [← HN.out]; omega), hp])
    clear hcs hp
    go_wp2_with (fail)
    refine bodyPost_ret (v := .tuple #[.agg #[.int .i64 x, .int .i64 y], .bool true]) (by simp [results, Try.results40, go_sem, z0, z1]) rfl ?_
    exact ⟨by rw [look_rank, HHB.out, ← HR.out, if_pos rfl, HP.out]; rfl, ((K0.out.trans K2.out).freshSet (by omega) _ _).freshSet (by omega) _ _⟩

set_option maxRecDepth 100000 in
theorem SpFloor_any {w : World} {kind m : Int} {v : Value} {L : List (Int × Int)} (hok : OrdOk kind m) (h : RowIn w w.heap.size encP v L) (hlen : L.length ≤ 1000000) (key : Int) :
    Calls Try.prog 48 #[.agg #[.int .i64 kind, .int .i64 m], v, .int .i64 key] w fun e w' => e = .returned (foundV (floorA (ordf kind m) key L)) ∧ Keep (fun _ => False) w w' := by
  have K0 := hid (show Keep (fun _ => False) w ((w.alloc (.cells #[.int .i64 kind, .int .i64 m] 23)).alloc (.cells #[.int .i64 0, .int .i64 0] 57)) from ((Keep.refl _ _).alloc _).alloc _)
  have HOK := hid hok
  have H := hid h
  have HLEN := hid hlen
  have BX := hid (find_boxes w kind m)
  obtain ⟨a0, c0, rfl⟩ := h.len
  obtain ⟨n, hn⟩ : ∃ n, n = L.length := ⟨_, rfl⟩
  obtain ⟨r, hr⟩ : ∃ r, r = rank (ordf kind m) key L := ⟨_, rfl⟩
  have hrn : r ≤ n := by rw [hr, hn]; exact rank_le key L
  have hnb : n ≤ 1000000 := by rw [hn]; exact hlen
  have HR := hid hr
  have HN := hid hn
  have AT := hid (At_any HOK.out (RowIn.on H.out K0.out) HLEN.out key)
  rw [← hr] at AT
  rw [← hn] at AT ⊢
  clear hok h hlen hn hr
  go_enter Try.func48, Try.ntmps48
  go_wp2_with (fail)
  refine AT.out.mono ?_
  rintro e w1 ⟨rfl, hk⟩
  have K1 := hid hk
  clear hk
  obtain ⟨⟨o0, o1⟩, ⟨z0, z1⟩, pl⟩ := find_kept BX.out K1.out
  have HA := hid (Has_any HOK.out (RowIn.on H.out (K0.out.trans K1.out)) HLEN.out key HR.out)
  rw [← HN.out] at HA
  obtain ⟨hb, hhb⟩ : ∃ hb, hasA (ordf kind m) key L = hb := ⟨_, rfl⟩
  rw [hhb] at HA
  have HHB := hid hhb
  clear hhb
  go_wp2_with (fail)
  refine HA.out.mono ?_
  rintro e w2 ⟨rfl, hk⟩
  have K2 := hid (K1.out.trans hk)
  clear hk o0 o1 z0 z1 pl
  obtain ⟨⟨o0, o1⟩, ⟨z0, z1⟩, pl⟩ := find_kept BX.out K2.out
  cases hb with
  | true =>
    have hlt : r < n := by have := hasA_lt HHB.out; rw [← HR.out, ← HN.out] at this; exact this
    obtain ⟨b, off, hao, hcs⟩ := row_at H.out (k := r) (by rw [← HN.out]; omega)
    obtain rfl := hao
    obtain ⟨p, hp⟩ : ∃ p, L[r]'(by rw [← HN.out]; omega) = p := ⟨_, rfl⟩
    obtain ⟨x, y⟩ := p
    rw [hp] at hcs
    have y0 := (K0.out.trans K2.out).cell hcs.1 id
    have y1 := (K0.out.trans K2.out).cell hcs.2 id
    have HP := hid (show L[r]? = some (x, y) by rw [List.getElem?_eq_getElem (by rw [← HN.out]; omega), hp])
    clear hcs hp
    go_wp2_with (fail)
    refine bodyPost_ret (v := .tuple #[.agg #[.int .i64 x, .int .i64 y], .bool true]) (by simp [results, Try.results48, go_sem, z0, z1]) rfl ?_
    exact ⟨by unfold floorA; rw [HHB.out, ← HR.out, if_pos rfl, HP.out]; rfl, ((K0.out.trans K2.out).freshSet (by omega) _ _).freshSet (by omega) _ _⟩
  | false =>
    cases r with
    | zero =>
      go_wp2_with (fail)
      refine bodyPost_ret (v := .tuple #[.agg #[.int .i64 0, .int .i64 0], .bool false]) (by simp [results, Try.results48, go_sem, z0, z1]) rfl ?_
      exact ⟨by unfold floorA; rw [HHB.out, ← HR.out]; rfl, ((K0.out.trans K2.out).freshSet (by omega) _ _).freshSet (by omega) _ _⟩
    | succ r =>
      have h0 : (((r + 1 : Nat) : Int) == 0) = false := by simp; omega
      have hw : IntKind.i64.wrap (((r + 1 : Nat) : Int) - 1) = (r : Int) := by rw [IntWalk.i64_in _ (by omega)]; omega
      have hw2 : ((r : Int) + 1) - 1 = (r : Int) := by omega
      obtain ⟨b, off, hao, hcs⟩ := row_at H.out (k := r) (by rw [← HN.out]; omega)
      obtain rfl := hao
      obtain ⟨p, hp⟩ : ∃ p, L[r]'(by rw [← HN.out]; omega) = p := ⟨_, rfl⟩
      obtain ⟨x, y⟩ := p
      rw [hp] at hcs
      have y0 := (K0.out.trans K2.out).cell hcs.1 id
      have y1 := (K0.out.trans K2.out).cell hcs.2 id
      have HP := hid (show L[r]? = some (x, y) by rw [List.getElem?_eq_getElem (by rw [← HN.out]; omega), hp])
      clear hcs hp
      go_wp2_with (fail)
      refine bodyPost_ret (v := .tuple #[.agg #[.int .i64 x, .int .i64 y], .bool true]) (by simp [results, Try.results48, go_sem, z0, z1]) rfl ?_
      exact ⟨by unfold floorA; rw [HHB.out, ← HR.out, if_neg (by simp), if_neg (by omega), Nat.add_sub_cancel, HP.out]; rfl, ((K0.out.trans K2.out).freshSet (by omega) _ _).freshSet (by omega) _ _⟩

set_option maxRecDepth 100000 in
theorem SpCeiling_any {w : World} {kind m : Int} {v : Value} {L : List (Int × Int)} (hok : OrdOk kind m) (h : RowIn w w.heap.size encP v L) (hlen : L.length ≤ 1000000) (key : Int) :
    Calls Try.prog 46 #[.agg #[.int .i64 kind, .int .i64 m], v, .int .i64 key] w fun e w' => e = .returned (foundV (ceilA (ordf kind m) key L)) ∧ Keep (fun _ => False) w w' := by
  have K0 := hid (show Keep (fun _ => False) w ((w.alloc (.cells #[.int .i64 kind, .int .i64 m] 23)).alloc (.cells #[.int .i64 0, .int .i64 0] 57)) from ((Keep.refl _ _).alloc _).alloc _)
  have HOK := hid hok
  have H := hid h
  have HLEN := hid hlen
  have BX := hid (find_boxes w kind m)
  obtain ⟨a0, c0, rfl⟩ := h.len
  obtain ⟨n, hn⟩ : ∃ n, n = L.length := ⟨_, rfl⟩
  obtain ⟨r, hr⟩ : ∃ r, r = rank (ordf kind m) key L := ⟨_, rfl⟩
  have hrn : r ≤ n := by rw [hr, hn]; exact rank_le key L
  have hnb : n ≤ 1000000 := by rw [hn]; exact hlen
  have HR := hid hr
  have HN := hid hn
  have AT := hid (At_any HOK.out (RowIn.on H.out K0.out) HLEN.out key)
  rw [← hr] at AT
  rw [← hn] at AT ⊢
  clear hok h hlen hn hr
  go_enter Try.func46, Try.ntmps46
  go_wp2_with (fail)
  refine AT.out.mono ?_
  rintro e w1 ⟨rfl, hk⟩
  have K1 := hid hk
  clear hk
  obtain ⟨⟨o0, o1⟩, ⟨z0, z1⟩, pl⟩ := find_kept BX.out K1.out
  by_cases hrn2 : r = n
  · subst hrn2
    go_wp2_with (fail)
    refine bodyPost_ret (v := .tuple #[.agg #[.int .i64 0, .int .i64 0], .bool false]) (by simp [results, Try.results46, go_sem, z0, z1]) rfl ?_
    exact ⟨by unfold ceilA; rw [← HR.out, List.getElem?_eq_none (by rw [← HN.out]; omega)]; rfl, ((K0.out.trans K1.out).freshSet (by omega) _ _).freshSet (by omega) _ _⟩
  · have hlt : r < n := by omega
    have hne : ((r : Int) == (n : Int)) = false := by simp; omega
    have hne2 : (r == n) = false := by simp; omega
    clear hrn2
    obtain ⟨b, off, hao, hcs⟩ := row_at H.out (k := r) (by rw [← HN.out]; omega)
    obtain rfl := hao
    obtain ⟨p, hp⟩ : ∃ p, L[r]'(by rw [← HN.out]; omega) = p := ⟨_, rfl⟩
    obtain ⟨x, y⟩ := p
    rw [hp] at hcs
    have y0 := (K0.out.trans K1.out).cell hcs.1 id
    have y1 := (K0.out.trans K1.out).cell hcs.2 id
    have HP := hid (show L[r]? = some (x, y) by rw [List.getElem?_eq_getElem (by rw [← HN.out]; omega), hp])
    clear hcs hp
    go_wp2_with (fail)
    refine bodyPost_ret (v := .tuple #[.agg #[.int .i64 x, .int .i64 y], .bool true]) (by simp [results, Try.results46, go_sem, z0, z1]) rfl ?_
    exact ⟨by unfold ceilA; rw [← HR.out, HP.out]; rfl, ((K0.out.trans K1.out).freshSet (by omega) _ _).freshSet (by omega) _ _⟩
end Go.Proofs.Ytdamfannmlncnaa
