/- The pairs of which a test is true, and the others, are all pairs: the walk of the law FnParts. -/
import Derived.Test.YtdamfannmlncnaaExactSel
namespace Go.Proofs.Ytdamfannmlncnaa
open Go.RowKit
set_option linter.unusedVariables false
set_option linter.unusedSimpArgs false
attribute [local go_sem ↓] Go.wp_at_zero Go.wp_at_succ

theorem num_at {w : World} {B : Nat} {a0 : Option Addr} {n c0 k : Nat} {l : List Int} {x : Int} (h : RowIn w B encN (.slice a0 n c0) l) (hk : l[k]? = some x) :
    ∃ b off, a0 = some ⟨b, off, none⟩ ∧ w.cell? ⟨b, off + k, none⟩ = some (.int .i64 x) := by
  obtain ⟨hl, rfl⟩ := List.getElem?_eq_some_iff.1 hk
  rcases h with ⟨rfl, -⟩ | ⟨b, off, cap, hv, hb, hc⟩
  · simp at hl
  · simp only [Value.slice.injEq] at hv
    obtain ⟨rfl, -, -⟩ := hv
    exact ⟨b, off, rfl, one_cells encN_len hc hl rfl⟩
theorem putsOf_snoc {M : List (Int × Int)} {k : Nat} {x y : Int} (h : M.take (k + 1) = M.take k ++ [(x, y)]) : putsOf (M.take (k + 1)) = putsOf (M.take k) ++ [(1, x, y)] := by
  unfold putsOf
  rw [h, List.map_append]
  rfl
theorem putsOf_len (M : List (Int × Int)) : (putsOf M).length = M.length := List.length_map _
/-- A state's key, its value, at a place. -/
theorem state_at {W : World} {b : Nat} {a1 a2 : Option Addr} {d1 d2 : Nat} {M : List (Int × Int)} {k : Nat} {x y : Int} (h : StateIn W b (.agg #[.slice a1 M.length d1, .slice a2 M.length d2, .int .i64 M.length, .bool (M.length == 0)]) M) (hk : M[k]? = some (x, y)) :
    (∃ g off, a1 = some ⟨g, off, none⟩ ∧ W.cell? ⟨g, off + k, none⟩ = some (.int .i64 x)) ∧ (∃ g off, a2 = some ⟨g, off, none⟩ ∧ W.cell? ⟨g, off + k, none⟩ = some (.int .i64 y)) := by
  obtain ⟨p1, q1, p2, q2, hv, h1, h2⟩ := h
  simp only [Value.agg.injEq, Array.mk.injEq, List.cons.injEq, Value.slice.injEq, and_true, true_and] at hv
  obtain ⟨⟨rfl, rfl⟩, ⟨rfl, rfl⟩⟩ := hv
  have e1 : M.length = (M.map (·.1)).length := by simp
  have e2 : M.length = (M.map (·.2)).length := by simp
  have r1 : RowIn W W.heap.size encN (.slice a1 M.length d1) (M.map (·.1)) := RowIn.of_owns (sz := 1) (base := b) (e := 3) (by rw [← e1]; exact h1)
  have r2 : RowIn W W.heap.size encN (.slice a2 M.length d2) (M.map (·.2)) := RowIn.of_owns (sz := 1) (base := b) (e := 3) (by rw [← e2]; exact h2)
  exact ⟨num_at r1 (by rw [List.getElem?_map, hk]; rfl), num_at r2 (by rw [List.getElem?_map, hk]; rfl)⟩

theorem blk_1' (w : World) (a b : Obj) : ((w.alloc a).alloc b).heap[w.heap.size]? = some a := ((Keep.refl (fun _ => False) _).alloc _).get (blk_1 w _) id
theorem st_cells {W : World} {g : Nat} {a1 a2 : Value} {n : Int} {e : Bool} (h : W.heap[g]? = some (.cells #[a1, a2, .int .i64 n, .bool e] 34)) : W.cell? ⟨g, 0, none⟩ = some a1 ∧ W.cell? ⟨g, 1, none⟩ = some a2 ∧ W.cell? ⟨g, 2, none⟩ = some (.int .i64 n) ∧ W.cell? ⟨g, 3, none⟩ = some (.bool e) := by
  refine ⟨?_, ?_, ?_, ?_⟩ <;> simp [World.cell?, h]
theorem keep_one (w : World) (b o : Nat) (v : Value) : Keep (fun i => i = b) w (w.setCell ⟨b, o, none⟩ v) := (Keep.refl (fun i => i = b) w).one o v
theorem four_kept {w W W' : World} {g1 g2 g3 g4 o1 o2 o3 o4 : Nat} {v1 v2 v3 v4 : Value} (hk : Keep (fun _ => False) w W) (h : W.cell? ⟨g1, o1, none⟩ = some v1 ∧ W.cell? ⟨g2, o2, none⟩ = some v2 ∧ W.cell? ⟨g3, o3, none⟩ = some v3 ∧ W.cell? ⟨g4, o4, none⟩ = some v4) (hlt : g1 < w.heap.size ∧ g2 < w.heap.size ∧ g3 < w.heap.size ∧ g4 < w.heap.size) (hk' : Keep (fun _ => False) w W') :
    W'.cell? ⟨g1, o1, none⟩ = some v1 ∧ W'.cell? ⟨g2, o2, none⟩ = some v2 ∧ W'.cell? ⟨g3, o3, none⟩ = some v3 ∧ W'.cell? ⟨g4, o4, none⟩ = some v4 := by
  have f : ∀ {g o : Nat} {v : Value}, g < w.heap.size → W.cell? ⟨g, o, none⟩ = some v → W'.cell? ⟨g, o, none⟩ = some v := fun {g o v} hg hc => by
    rw [World.cell?_of_block (w := W) (w' := W') ((hk'.block g hg id).trans (hk.block g hg id).symm)]; exact hc
  exact ⟨f hlt.1 h.1, f hlt.2.1 h.2.1, f hlt.2.2.1 h.2.2.1, f hlt.2.2.2 h.2.2.2⟩
theorem cellB2 {W : World} {b o : Nat} {v : Value} (h : W.cell? ⟨b, o, none⟩ = some v) : ∀ A B, ((W.alloc A).alloc B).cell? ⟨b, o, none⟩ = some v := fun A B => cellA (cellA h A) B

set_option maxRecDepth 100000 in
set_option maxHeartbeats 3200000 in
theorem parts_main {w : World} {kind m : Int} {v : Value} {acts : List Act3} {tb : Bool} {tr : Int} (ha : ActsIn w w.heap.size v acts) (hp : kind = 0 ∨ kind = 1) (hlen : acts.length ≤ 300) (h1 : 0 ≤ tr) (h2 : tr ≤ 1) :
    Calls Try.prog 23 #[.agg #[.int .i64 kind, .int .i64 m], v, .agg #[.bool tb, .int .i64 2, .int .i64 tr]] w fun e w' => e = .returned (.bool true) ∧ Below w.heap.size w w' := by
  obtain ⟨ao, cap, rfl⟩ := ha.len
  have K0 := hid (show Keep (fun _ => False) w ((w.alloc (.cells #[.int .i64 kind, .int .i64 m] 23)).alloc (.cells #[.bool tb, .int .i64 2, .int .i64 tr] 70)) from ((Keep.refl _ _).alloc _).alloc _)
  have PL := hid (Plain_any kind m ((w.alloc (.cells #[.int .i64 kind, .int .i64 m] 23)).alloc (.cells #[.bool tb, .int .i64 2, .int .i64 tr] 70)))
  rw [decide_eq_true hp] at PL
  have TK := hid (fun W => TestOk_any tb 2 tr W)
  rw [decide_eq_true (show (1 : Int) ≤ 2 ∧ (2 : Int) ≤ 1000 from ⟨by omega, by omega⟩)] at TK
  have HA := hid (ha.keep K0.out fun _ _ => id)
  have HOK := hid (OrdOk.plain (m := m) hp)
  have OBX : ((w.alloc (.cells #[.int .i64 kind, .int .i64 m] 23)).alloc (.cells #[.bool tb, .int .i64 2, .int .i64 tr] 70)).heap[w.heap.size]? = some (.cells #[.int .i64 kind, .int .i64 m] 23 (0, 0)) := by
    rw [Below.heap_alloc _ _ _ (by simp)]; exact heap_alloc_new _ _
  have HSS := hid (fun (W' : World) (hW : Keep (fun _ => False) ((w.alloc (.cells #[.int .i64 kind, .int .i64 m] 23)).alloc (.cells #[.bool tb, .int .i64 2, .int .i64 tr] 70)) W') => order_test (hW.get OBX id) (hW.get (blk_second' w _ _ _ _) id))
  have TBX := hid (blk_second' w #[.int .i64 kind, .int .i64 m] #[.bool tb, .int .i64 2, .int .i64 tr] 23 70)
  have OC := hid (fun (W' : World) (hW : Keep (fun i => i = w.heap.size + 1) ((w.alloc (.cells #[.int .i64 kind, .int .i64 m] 23)).alloc (.cells #[.bool tb, .int .i64 2, .int .i64 tr] 70)) W') => show W'.cell? ⟨w.heap.size, 0, none⟩ = some (.int .i64 kind) ∧ W'.cell? ⟨w.heap.size, 1, none⟩ = some (.int .i64 m) by
    have h := hW.get OBX (by omega)
    rw [cell_of h, cell_of h]
    exact ⟨rfl, rfl⟩)
  have MM := hid (fun tr' W (hW : Keep (fun i => i = w.heap.size + 1) ((w.alloc (.cells #[.int .i64 kind, .int .i64 m] 23)).alloc (.cells #[.bool tb, .int .i64 2, .int .i64 tr] 70)) W) => MapSelect_any (w := W) (B := w.heap.size) (tb := tb) (tm := 2) (tr := tr') (v3 := .slice none 0 0) (more := []) (by omega) (by omega) HOK.out (HA.out.keep hW fun i hi e => by omega) (.inl ⟨rfl, .inl rfl⟩) (Nat.le_trans K0.out.size hW.size) (by omega : acts.length ≤ 100000) (by simp))
  obtain ⟨i0, hi, hz0, hz1, hz2⟩ := info_parts info27
  have HI := hid (And.intro hi (And.intro hz0 (And.intro hz1 hz2)))
  obtain ⟨L, hL⟩ : ∃ L, L = runA (ordf kind m) acts := ⟨_, rfl⟩
  have HLL := hid (show L.length ≤ 300 by rw [hL]; have := runA_len (f := ordf kind m) acts; omega)
  have hs : Srt (ordf kind m) L := by rw [hL]; exact runA_srt acts
  rw [← hL] at MM
  simp only [onlyPuts, List.filter_nil, List.append_nil, runA_sel hs] at MM
  obtain ⟨M1, hM1⟩ : ∃ M1, M1 = L.filter (holdsT tb 2 tr) := ⟨_, rfl⟩
  obtain ⟨M2, hM2⟩ : ∃ M2, M2 = L.filter (holdsT tb 2 (1 - tr)) := ⟨_, rfl⟩
  have hopp : holdsT tb 2 (1 - tr) = fun e => !holdsT tb 2 tr e := by
    funext e
    unfold holdsT
    exact tests_apart (by omega) _
  have hsum : M1.length + M2.length = L.length := by rw [hM1, hM2, hopp]; exact filter_lens _ _
  have HRUN := hid (show runA (ordf kind m) (putsOf M1 ++ putsOf M2) = L by rw [hM1, hM2, hopp]; exact runA_parts hs _)
  have hb1 : M1.length ≤ 300 := by have := HLL.out; omega
  have hb2 : M2.length ≤ 300 := by have := HLL.out; omega
  have MM1 := hid (fun W hW => MM.out tr W hW)
  have MM2 := hid (fun W hW => MM.out (1 - tr) W hW)
  rw [← hM1] at MM1
  rw [← hM2] at MM2
  have HSUM := hid hsum
  have RN2 : Hid (∀ W W' s, ActsIn W W.heap.size s (putsOf M1 ++ putsOf M2) → Keep (fun _ => False) W W' → Calls Try.prog 32 #[.agg #[.int .i64 kind, .int .i64 m], s] W' fun e w' => ∃ sv, e = .returned sv ∧ RowIn w' w'.heap.size encP sv L ∧ Keep (fun _ => False) W' w') := by
    intro W W' s hs hk
    rw [← HRUN.out]
    exact run_on HOK.out hs (Nat.le_refl _) (by rw [List.length_append, putsOf_len, putsOf_len]; have := HLL.out; omega) W' hk
  clear ha hp OBX hL hM1 hM2 hopp hsum hs hi hz0 hz1 hz2 MM
  go_enter Try.func23, Try.ntmps23
  go_wp2_with (first
    | (go_at_call 26; refine PL.out.mono ?_; rintro e w1 ⟨rfl, hk⟩; have K1 := hid hk; obtain ⟨⟨o0, o1⟩, ⟨t0, t1, t2⟩⟩ := HSS.out _ hk; clear hk)
    | (go_at_call 50; refine (TK.out _).mono ?_; rintro e w2 ⟨rfl, hk⟩; have K2 := hid (K1.out.trans hk); clear hk o0 o1 t0 t1 t2; obtain ⟨⟨o0, o1⟩, ⟨t0, t1, t2⟩⟩ := HSS.out _ K2.out)
    | fail)
  refine (MM1.out _ (K2.out.any)).mono ?_
  rintro e w3 ⟨s1, s2, rfl, hs1, hs2, hk⟩
  have K3 := hid hk
  have S1 := hid hs1
  have S2 := hid hs2
  obtain ⟨x1, d1, x2, d2, rfl, hr1, hr2⟩ := hs1
  obtain ⟨x4, d4, x5, d5, rfl, hr4, hr5⟩ := hs2
  clear hk hr1 hr2 hr4 hr5 o0 o1 t0 t1 t2
  obtain ⟨⟨o0, o1⟩, ⟨t0, t1, t2⟩⟩ := HSS.out _ (K2.out.trans K3.out)
  have g0 := cellB2 o0
  have g1 := cellB2 o1
  have g2 := cellB2 t0
  have g3 := cellB2 t1
  have g4 := cellB2 t2
  have pl : Plain w3 (w.heap.size + 1) := ⟨_, _, (K2.out.trans K3.out).get TBX.out id⟩
  have fz : ∀ A B, ((w3.alloc A).alloc B).frozen? ⟨w.heap.size + 1, 2, none⟩ = false := fun A B => frozen_plain _ _ _ ((pl.alloc A).alloc B)
  have hlt3 := lt_of_heap ((K2.out.trans K3.out).get TBX.out id)
  have HLT := hid hlt3
  have HPL := hid pl
  have TB3 := hid ((K2.out.trans K3.out).get TBX.out id)
  clear o0 o1 t0 t1 t2 pl hlt3
  go_wp2_with (fail)
  clear fz g0 g1 g2 g3 g4
  have B4 := hid (And.intro (blk_1' w3 (.cells #[.slice x1 M1.length d1, .slice x2 M1.length d2, .int .i64 M1.length, .bool (M1.length == 0)] 34) (.cells #[.slice x4 L.length d4, .slice x5 L.length d5, .int .i64 L.length, .bool (L.length == 0)] 34)) (blk_2 w3 (.cells #[.slice x1 M1.length d1, .slice x2 M1.length d2, .int .i64 M1.length, .bool (M1.length == 0)] 34) (.cells #[.slice x4 L.length d4, .slice x5 L.length d5, .int .i64 L.length, .bool (L.length == 0)] 34)))
  have K4 := hid (show Keep (fun _ => False) w3 ((w3.alloc (.cells #[.slice x1 M1.length d1, .slice x2 M1.length d2, .int .i64 M1.length, .bool (M1.length == 0)] 34)).alloc (.cells #[.slice x4 L.length d4, .slice x5 L.length d5, .int .i64 L.length, .bool (L.length == 0)] 34)) from ((Keep.refl _ _).alloc _).alloc _)
  obtain ⟨w4, hw4⟩ : ∃ w4, w4 = ((w3.alloc (.cells #[.slice x1 M1.length d1, .slice x2 M1.length d2, .int .i64 M1.length, .bool (M1.length == 0)] 34)).alloc (.cells #[.slice x4 L.length d4, .slice x5 L.length d5, .int .i64 L.length, .bool (L.length == 0)] 34)) := ⟨_, rfl⟩
  rw [← hw4] at B4 K4 ⊢
  clear hw4
  have K5 := hid (keep_one w4 (w.heap.size + 1) 2 (.int .i64 (1 - tr)))
  have HSZ := hid (show w.heap.size + 1 < w2.heap.size by have h2 := K2.out.size; simp at h2; omega)
  have S15 := hid ((S1.out.on K4.out).off HSZ.out 2 (.int .i64 (1 - tr)))
  have S25 := hid ((S2.out.on K4.out).off HSZ.out 2 (.int .i64 (1 - tr)))
  obtain ⟨w5, hw5⟩ : ∃ w5, w5 = w4.setCell ⟨w.heap.size + 1, 2, none⟩ (.int .i64 (1 - tr)) := ⟨_, rfl⟩
  rw [← hw5] at K5 S15 S25 ⊢
  clear hw5
  have KA5 := hid (show Keep (fun i => i = w.heap.size + 1) _ w5 from (K2.out.trans (K3.out.trans K4.out)).any.trans K5.out)
  refine (MM2.out _ KA5.out).mono ?_
  rintro e w6 ⟨s1, s2, rfl, hs1, hs2, hk⟩
  have K6 := hid hk
  have S3 := hid hs1
  obtain ⟨y1, e1, y2, e2, rfl, hr1, hr2⟩ := hs1
  obtain ⟨y4, e4, y5, e5, rfl, hr4, hr5⟩ := hs2
  clear hk hr1 hr2 hr4 hr5
  go_upto_region 8 with (fail)
  have N7 := hid (blk_1' w6 (.cells #[.slice y1 M2.length e1, .slice y2 M2.length e2, .int .i64 M2.length, .bool (M2.length == 0)] 34) (.cells #[.slice y4 L.length e4, .slice y5 L.length e5, .int .i64 L.length, .bool (L.length == 0)] 34))
  have K7 := hid (show Keep (fun _ => False) w6 ((w6.alloc (.cells #[.slice y1 M2.length e1, .slice y2 M2.length e2, .int .i64 M2.length, .bool (M2.length == 0)] 34)).alloc (.cells #[.slice y4 L.length e4, .slice y5 L.length e5, .int .i64 L.length, .bool (L.length == 0)] 34)) from ((Keep.refl _ _).alloc _).alloc _)
  obtain ⟨w7, hw7⟩ : ∃ w7, w7 = ((w6.alloc (.cells #[.slice y1 M2.length e1, .slice y2 M2.length e2, .int .i64 M2.length, .bool (M2.length == 0)] 34)).alloc (.cells #[.slice y4 L.length e4, .slice y5 L.length e5, .int .i64 L.length, .bool (L.length == 0)] 34)) := ⟨_, rfl⟩
  rw [← hw7] at N7 K7 ⊢
  clear hw7
  have Y7 := hid ((K5.out.trans (K6.out.trans K7.out).any).get B4.out.1 (by have := HLT.out; omega))
  have O7 := hid ((K5.out.trans (K6.out.trans K7.out).any).get B4.out.2 (by have := HLT.out; omega))
  have KA7 := hid (KA5.out.trans (K6.out.trans K7.out).any)
  have SY := hid (S15.out.on (K6.out.trans K7.out))
  have SO := hid (S25.out.on (K6.out.trans K7.out))
  have SN := hid (S3.out.on K7.out)
  have CW := hid (fun (W : World) (hW : Keep (fun _ => False) w7 W) => And.intro (OC.out W (KA7.out.trans hW.any)) (And.intro (st_cells (hW.get Y7.out id)) (And.intro (st_cells (hW.get O7.out id)) (st_cells (hW.get N7.out id)))))
  have KZ := hid (show Keep (fun _ => False) w w7 from ((K0.out.trans (K2.out.trans (K3.out.trans K4.out))).freshKeep (Nat.le_succ _) K5.out).trans (K6.out.trans K7.out))
  clear B4 K4 K5 S15 S25 KA5 K6 S3 N7 K7 Y7 O7 S1 S2 HPL TB3
  obtain ⟨⟨o0, o1⟩, ⟨a0, a1, a2, a3⟩, ⟨b0, b1, b2, b3⟩, ⟨c0, c1, c2, c3⟩⟩ := CW.out w7 (Keep.refl _ _)
  have ST : PutsRel w7 w7.heap.size w7.heap.size (putsOf (M1.take 0)) (.slice (some ⟨w7.heap.size, 0, none⟩) 0 0) (w7.alloc (.cells #[] 27)) :=
    ⟨owns_empty w7 27 3 _ rfl _ (Nat.le_refl _), fun g hg => .inl (Option.some.inj hg).symm, (Keep.refl _ _).alloc _⟩
  have ST := hid ST
  have ga := cellA2 a0
  go_wp2_with (fail)
  go_loopw [11, 84] (fun s i wr => ∃ k : Nat, k ≤ M1.length ∧ i = .int .i64 k ∧ PutsRel w7 w7.heap.size w7.heap.size (putsOf (M1.take k)) s wr) (fun _ i _ => M1.length - (intOf i).toNat)
  case atStart => exact ⟨0, Nat.zero_le _, rfl, ST.out⟩
  case round =>
    clear a0 a1 a2 a3 b0 b1 b2 b3 c0 c1 c2 c3 o0 o1 ga
    obtain ⟨k, hk, rfl, hrel⟩ := hrel
    have HR := hid hrel
    clear hrel
    have KX := hid (HR.out.keepB (Keep.refl (fun _ => False) w7) (Nat.le_refl _))
    by_cases hlt : k < M1.length
    · obtain ⟨e0, he0⟩ : ∃ e0, M1[k]? = some e0 := ⟨_, List.getElem?_eq_getElem hlt⟩
      have htk := take_at he0
      obtain ⟨x, y⟩ := e0
      obtain ⟨⟨g1, f1, hv1, hc0⟩, ⟨g2, f2, hv2, hc1⟩⟩ := state_at SY.out he0
      subst hv1
      subst hv2
      obtain ⟨⟨o0, o1⟩, ⟨a0, a1, a2, a3⟩, ⟨b0, b1, b2, b3⟩, ⟨c0, c1, c2, c3⟩⟩ := CW.out wr KX.out
      have HC := hid (show wr.cell? ⟨w3.heap.size, 0, none⟩ = some _ ∧ wr.cell? ⟨w3.heap.size, 1, none⟩ = some _ ∧ _ ∧ _ from ⟨a0, a1, KX.out.cell hc0 id, KX.out.cell hc1 id⟩)
      have HLTS := hid (And.intro (World.block_lt_of_cell? _ _ (CW.out w7 (Keep.refl _ _)).2.1.1) (And.intro (World.block_lt_of_cell? _ _ (CW.out w7 (Keep.refl _ _)).2.1.2.1) (And.intro (World.block_lt_of_cell? _ _ hc0) (World.block_lt_of_cell? _ _ hc1))))
      obtain ⟨A0, hA0⟩ : ∃ A0, A0 = putsOf (M1.take k) := ⟨_, rfl⟩
      rw [← hA0] at HR
      have HE := hid (And.intro htk hA0)
      obtain ⟨q, hq⟩ : ∃ q, A0.length = q := ⟨_, rfl⟩
      have HQ := hid hq
      have hlk : q ≤ 600 := by have h1 := putsOf_len (M1.take k); have h2 := HLL.out; have h3 := HSUM.out; rw [List.length_take, ← hA0] at h1; omega
      have n1 : (0 : Int) ≤ (k : Int) := by omega
      have n2 : (k : Int) < (M1.length : Int) := by omega
      clear he0 htk hA0 hq hc0 hc1 o0 o1 a0 a1 a2 a3 b0 b1 b2 b3 c0 c1 c2 c3
      go_wp2_with (fail)
      go_region_held3 (fun w' => w'.cell? ⟨w3.heap.size, 0, none⟩ = some (.slice (some ⟨g1, f1, none⟩) M1.length d1) ∧ w'.cell? ⟨w3.heap.size, 1, none⟩ = some (.slice (some ⟨g2, f2, none⟩) M1.length d2) ∧ w'.cell? ⟨g1, f1 + k, none⟩ = some (.int .i64 x) ∧ w'.cell? ⟨g2, f2 + k, none⟩ = some (.int .i64 y))
        (first
          | exact HC.out
          | (refine four_kept (w := w7) (W := wr) KX.out HC.out HLTS.out ?_; (repeat (first | exact Keep.refl _ _ | exact KX.out | exact K5.out | apply Keep.drew | apply Keep.alloc | apply Keep.drewN)); done)
          | fail)
        (first
          | ((with_reducible refine slot_guard ⟨some 100, _, _, _, _, _⟩ ?_); refine step_app_at rfl (.tmp 87) (.tmp 99) 24 rfl w7.heap.size 27 i0 _ 3 24 Try.underlying24 HI.out.1 HI.out.2.1 HI.out.2.2.1 HI.out.2.2.2 rfl (by decide) _ q _ rfl (by have h := HR.out.row; rw [HQ.out] at h; (repeat (first | exact h | apply owns_drew | apply World.ownsRow.alloc)); done) _ 1 _ (encA (1, x, y)) rfl (by rfl) (blk_src (o := 1) (k := x) (v := y) (blk_1 wr _)) (encA_one _) (by unfold maxLen; omega) (by omega) (by have := KX.out.size; simp; omega) ?_; intro v5 w5 hown hgr hat; have O5 := hid (PutsRel.app (A := A0) (o := 1) (k := x) (v := y) (HR.out.on (by (repeat (first | exact Keep.refl _ _ | apply Keep.drew | apply Keep.alloc | apply Keep.drewN)); done)) (by rw [HQ.out]; exact hown) hgr hat); have K5 := hid (O5.out.keepB (Keep.refl (fun _ => False) w7) (Nat.le_refl _)); clear hown hgr hat)
          | fail)
      all_goals
        (try go_wp2_with (fail))
        go_roundw
        case rel => exact ⟨k + 1, by omega, by go_num, by rw [putsOf_snoc HE.out.1, ← HE.out.2]; exact O5.out⟩
        case measure => simp [intOf]; omega
    · obtain rfl : M1.length = k := by omega
      have HP := hid (show PutsRel w7 w7.heap.size w7.heap.size (putsOf M1 ++ putsOf (M2.take 0)) u11 wr by have h := HR.out; rw [List.take_length] at h; simpa [putsOf] using h)
      clear HR
      obtain ⟨-, -, -, ⟨c0, c1, c2, c3⟩⟩ := CW.out wr KX.out
      go_wp2_with (fail)
      go_loopw [11, 105] (fun s i wr => ∃ k : Nat, k ≤ M2.length ∧ i = .int .i64 k ∧ PutsRel w7 w7.heap.size w7.heap.size (putsOf M1 ++ putsOf (M2.take k)) s wr) (fun _ i _ => M2.length - (intOf i).toNat)
      case atStart => exact ⟨0, Nat.zero_le _, rfl, HP.out⟩
      case round =>
        clear c0 c1 c2 c3
        obtain ⟨k, hk, rfl, hrel⟩ := hrel
        have HR := hid hrel
        clear hrel
        have KX := hid (HR.out.keepB (Keep.refl (fun _ => False) w7) (Nat.le_refl _))
        by_cases hlt : k < M2.length
        · obtain ⟨e0, he0⟩ : ∃ e0, M2[k]? = some e0 := ⟨_, List.getElem?_eq_getElem hlt⟩
          have htk := take_at he0
          obtain ⟨x, y⟩ := e0
          obtain ⟨⟨g1, f1, hv1, hc0⟩, ⟨g2, f2, hv2, hc1⟩⟩ := state_at SN.out he0
          subst hv1
          subst hv2
          obtain ⟨⟨o0, o1⟩, ⟨a0, a1, a2, a3⟩, ⟨b0, b1, b2, b3⟩, ⟨c0, c1, c2, c3⟩⟩ := CW.out wr KX.out
          have HC := hid (show wr.cell? ⟨w6.heap.size, 0, none⟩ = some _ ∧ wr.cell? ⟨w6.heap.size, 1, none⟩ = some _ ∧ _ ∧ _ from ⟨c0, c1, KX.out.cell hc0 id, KX.out.cell hc1 id⟩)
          have HLTS := hid (And.intro (World.block_lt_of_cell? _ _ (CW.out w7 (Keep.refl _ _)).2.2.2.1) (And.intro (World.block_lt_of_cell? _ _ (CW.out w7 (Keep.refl _ _)).2.2.2.2.1) (And.intro (World.block_lt_of_cell? _ _ hc0) (World.block_lt_of_cell? _ _ hc1))))
          obtain ⟨A0, hA0⟩ : ∃ A0, A0 = putsOf M1 ++ putsOf (M2.take k) := ⟨_, rfl⟩
          rw [← hA0] at HR
          have HE := hid (And.intro htk hA0)
          obtain ⟨q, hq⟩ : ∃ q, A0.length = q := ⟨_, rfl⟩
          have HQ := hid hq
          have hlk : q ≤ 600 := by have h1 := putsOf_len (M2.take k); have h0 := putsOf_len M1; have h2 := HLL.out; have h3 := HSUM.out; rw [List.length_take] at h1; rw [hA0, List.length_append] at hq; omega
          have n1 : (0 : Int) ≤ (k : Int) := by omega
          have n2 : (k : Int) < (M2.length : Int) := by omega
          clear he0 htk hA0 hq hc0 hc1 o0 o1 a0 a1 a2 a3 b0 b1 b2 b3 c0 c1 c2 c3
          go_wp2_with (fail)
          go_region_held3 (fun w' => w'.cell? ⟨w6.heap.size, 0, none⟩ = some (.slice (some ⟨g1, f1, none⟩) M2.length e1) ∧ w'.cell? ⟨w6.heap.size, 1, none⟩ = some (.slice (some ⟨g2, f2, none⟩) M2.length e2) ∧ w'.cell? ⟨g1, f1 + k, none⟩ = some (.int .i64 x) ∧ w'.cell? ⟨g2, f2 + k, none⟩ = some (.int .i64 y))
            (first
              | exact HC.out
              | (refine four_kept (w := w7) (W := wr) KX.out HC.out HLTS.out ?_; (repeat (first | exact Keep.refl _ _ | exact KX.out | exact K5.out | apply Keep.drew | apply Keep.alloc | apply Keep.drewN)); done)
              | fail)
            (first
              | ((with_reducible refine slot_guard ⟨some 121, _, _, _, _, _⟩ ?_); refine step_app_at rfl (.tmp 108) (.tmp 120) 24 rfl w7.heap.size 27 i0 _ 3 24 Try.underlying24 HI.out.1 HI.out.2.1 HI.out.2.2.1 HI.out.2.2.2 rfl (by decide) _ q _ rfl (by have h := HR.out.row; rw [HQ.out] at h; (repeat (first | exact h | apply owns_drew | apply World.ownsRow.alloc)); done) _ 1 _ (encA (1, x, y)) rfl (by rfl) (blk_src (o := 1) (k := x) (v := y) (blk_1 wr _)) (encA_one _) (by unfold maxLen; omega) (by omega) (by have := KX.out.size; simp; omega) ?_; intro v5 w5 hown hgr hat; have O5 := hid (PutsRel.app (A := A0) (o := 1) (k := x) (v := y) (HR.out.on (by (repeat (first | exact Keep.refl _ _ | apply Keep.drew | apply Keep.alloc | apply Keep.drewN)); done)) (by rw [HQ.out]; exact hown) hgr hat); have K5 := hid (O5.out.keepB (Keep.refl (fun _ => False) w7) (Nat.le_refl _)); clear hown hgr hat)
              | fail)
          all_goals
            (try go_wp2_with (fail))
            go_roundw
            case rel => exact ⟨k + 1, by omega, by go_num, by rw [putsOf_snoc HE.out.1, ← List.append_assoc, ← HE.out.2]; exact O5.out⟩
            case measure => simp [intOf]; omega
        · obtain rfl : M2.length = k := by omega
          have HP2 := hid (show PutsRel w7 w7.heap.size w7.heap.size (putsOf M1 ++ putsOf M2) u11 wr by have h := HR.out; rw [List.take_length] at h; exact h)
          have AC := hid HP2.out.acts
          clear HR
          go_wp2_with (fail)
          have HC := hid (fun W (hW : Keep (fun _ => False) wr W) => show (W.cell? ⟨w.heap.size, 0, none⟩ = some (.int .i64 kind) ∧ W.cell? ⟨w.heap.size, 1, none⟩ = some (.int .i64 m)) ∧ W.cell? ⟨w3.heap.size, 2, none⟩ = some (.int .i64 M1.length) ∧ (W.cell? ⟨w3.heap.size + 1, 0, none⟩ = some (.slice x4 L.length d4) ∧ W.cell? ⟨w3.heap.size + 1, 1, none⟩ = some (.slice x5 L.length d5) ∧ W.cell? ⟨w3.heap.size + 1, 2, none⟩ = some (.int .i64 L.length) ∧ W.cell? ⟨w3.heap.size + 1, 3, none⟩ = some (.bool (L.length == 0))) ∧ W.cell? ⟨w6.heap.size, 2, none⟩ = some (.int .i64 M2.length) from ⟨(CW.out W (KX.out.trans hW)).1, (CW.out W (KX.out.trans hW)).2.1.2.2.1, (CW.out W (KX.out.trans hW)).2.2.1, (CW.out W (KX.out.trans hW)).2.2.2.2.2.1⟩)
          have SOW := hid (SO.out.on KX.out)
          have HL1 := hid (show L.length ≤ 100000 by have := HLL.out; omega)
          have HL6 := hid (show L.length ≤ 1000000 by have := HLL.out; omega)
          have q1 : IntKind.i64.wrap ((M1.length : Int) + (M2.length : Int)) = (M1.length : Int) + (M2.length : Int) := IntWalk.i64_in _ (by omega)
          have q2 : ((M1.length : Int) + (M2.length : Int) == (L.length : Int)) = true := by have := HSUM.out; simp; omega
          go_region_held3 (fun w' => (w'.cell? ⟨w.heap.size, 0, none⟩ = some (.int .i64 kind) ∧ w'.cell? ⟨w.heap.size, 1, none⟩ = some (.int .i64 m)) ∧ w'.cell? ⟨w3.heap.size, 2, none⟩ = some (.int .i64 M1.length) ∧ (w'.cell? ⟨w3.heap.size + 1, 0, none⟩ = some (.slice x4 L.length d4) ∧ w'.cell? ⟨w3.heap.size + 1, 1, none⟩ = some (.slice x5 L.length d5) ∧ w'.cell? ⟨w3.heap.size + 1, 2, none⟩ = some (.int .i64 L.length) ∧ w'.cell? ⟨w3.heap.size + 1, 3, none⟩ = some (.bool (L.length == 0))) ∧ w'.cell? ⟨w6.heap.size, 2, none⟩ = some (.int .i64 M2.length))
            (first
              | (refine HC.out _ ?_; (repeat (first | (with_reducible apply Keep.drew) | (with_reducible apply Keep.drewN))); (first | (with_reducible exact K12.out) | (with_reducible exact K11.out) | (with_reducible exact K10.out) | (with_reducible exact K9.out) | (with_reducible exact Keep.refl _ _) | fail))
              | fail)
            (first
              | (go_at_call 32; refine (RN2.out _ _ _ AC.out (by (repeat (first | (with_reducible apply Keep.drew) | (with_reducible apply Keep.drewN))); exact Keep.refl _ _)).mono ?_; rintro e w9 ⟨sv2, rfl, hs, hk⟩; have R9 := hid hs; have K9 := hid (show Keep (fun _ => False) wr w9 from (by first | exact hk | exact hk.undrew | exact hk.undrewN | fail)); clear hs hk)
              | (go_at_call 36; refine (State_any (RowIn.on R9.out (by first | exact Keep.refl _ _ | exact (Keep.refl _ _).drew | exact (Keep.refl _ _).drewN _ | fail)) HL1.out).mono ?_; rintro e w10 ⟨sv3, rfl, hs, hk⟩; have S10 := hid (hs.mono (Nat.zero_le _)); have K10 := hid (K9.out.trans (by first | exact hk | exact hk.undrew | exact hk.undrewN | fail)); clear hs hk)
              | (go_at_call 29; refine (sameState_any (by first | exact S10.out | exact S10.out.on ((Keep.refl _ _).drew) | fail) (SOW.out.on (by (repeat (first | (with_reducible apply Keep.drew) | (with_reducible apply Keep.drewN))); exact K10.out)) HL6.out).mono ?_; rintro e w11 ⟨rfl, hk⟩; have K11 := hid (K10.out.trans (by first | exact hk | exact hk.undrew | exact hk.undrewN | fail)); clear hk)
              | (go_at_call 31; refine (keeps_any _).mono ?_; rintro e w12 ⟨rfl, hk⟩; have K12 := hid (K11.out.trans (by first | exact hk | exact hk.undrew | exact hk.undrewN | fail)); clear hk)
              | fail)
          all_goals
            (try go_wp2_with (fail))
            go_ret
            exact ⟨rfl, (KZ.out.trans (KX.out.trans K12.out)).to_below⟩

set_option maxRecDepth 100000 in
set_option maxHeartbeats 1600000 in
theorem fnParts_walk {w : World} (kind m : Int) (v : Value) (acts : List Act3) (ha : ActsIn w w.heap.size v acts) (hn : acts.length ≤ maxLen) (tb : Bool) (tm tr : Int) :
    Calls Try.prog 23 #[.agg #[.int .i64 kind, .int .i64 m], v, .agg #[.bool tb, .int .i64 tm, .int .i64 tr]] w fun e w' => e = .returned (.bool true) ∧ Below w.heap.size w w' := by
  unfold maxLen at hn
  by_cases hall : (kind = 0 ∨ kind = 1) ∧ acts.length ≤ 300 ∧ tm = 2 ∧ 0 ≤ tr ∧ tr ≤ 1
  · obtain ⟨h1, h2, rfl, h3, h4⟩ := hall
    exact parts_main ha h1 h2 h3 h4
  · obtain ⟨ao, cap, rfl⟩ := ha.len
    have K0 := hid (show Keep (fun _ => False) w ((w.alloc (.cells #[.int .i64 kind, .int .i64 m] 23)).alloc (.cells #[.bool tb, .int .i64 tm, .int .i64 tr] 70)) from ((Keep.refl _ _).alloc _).alloc _)
    have PL := hid (Plain_any kind m ((w.alloc (.cells #[.int .i64 kind, .int .i64 m] 23)).alloc (.cells #[.bool tb, .int .i64 tm, .int .i64 tr] 70)))
    have TK := hid (fun W => TestOk_any tb tm tr W)
    have OBX : ((w.alloc (.cells #[.int .i64 kind, .int .i64 m] 23)).alloc (.cells #[.bool tb, .int .i64 tm, .int .i64 tr] 70)).heap[w.heap.size]? = some (.cells #[.int .i64 kind, .int .i64 m] 23 (0, 0)) := by
      rw [Below.heap_alloc _ _ _ (by simp)]; exact heap_alloc_new _ _
    have HSS := hid (fun (W' : World) (hW : Keep (fun _ => False) ((w.alloc (.cells #[.int .i64 kind, .int .i64 m] 23)).alloc (.cells #[.bool tb, .int .i64 tm, .int .i64 tr] 70)) W') => order_test (hW.get OBX id) (hW.get (blk_second' w _ _ _ _) id))
    clear ha OBX
    by_cases hbig : (2147483647 : Int) < acts.length
    · have d1 : decide ((2147483647 : Int) < acts.length) = true := decide_eq_true hbig
      clear hall
      go_enter Try.func23, Try.ntmps23
      go_wp2_with (fail)
      go_ret
      exact ⟨rfl, K0.out.to_below⟩
    · have d1 : decide ((2147483647 : Int) < acts.length) = false := decide_eq_false hbig
      by_cases hp : kind = 0 ∨ kind = 1
      · rw [decide_eq_true hp] at PL
        by_cases h3 : (300 : Int) < acts.length
        · have d3 : decide ((300 : Int) < acts.length) = true := decide_eq_true h3
          clear hall hp
          go_enter Try.func23, Try.ntmps23
          go_wp2_with (first
            | (go_at_call 26; refine PL.out.mono ?_; rintro e w1 ⟨rfl, hk⟩; have K1 := hid hk; obtain ⟨⟨o0, o1⟩, ⟨t0, t1, t2⟩⟩ := HSS.out _ hk; clear hk)
            | (go_at_call 50; refine (TK.out _).mono ?_; rintro e w2 ⟨rfl, hk⟩; have K1 := hid (K1.out.trans hk); clear hk o0 o1 t0 t1 t2; obtain ⟨⟨o0, o1⟩, ⟨t0, t1, t2⟩⟩ := HSS.out _ K1.out)
            | (go_at_call 31; refine (keeps_any _).mono ?_; rintro e w3 ⟨rfl, hk⟩; have K1 := hid (K1.out.trans hk); clear hk)
            | fail)
          go_ret
          exact ⟨rfl, (K0.out.trans K1.out).to_below⟩
        · have d3 : decide ((300 : Int) < acts.length) = false := decide_eq_false h3
          by_cases ht : 1 ≤ tm ∧ tm ≤ 1000
          · rw [decide_eq_true ht] at TK
            by_cases h2 : tm = 2
            · have HX := hid (fun h => hall ⟨hp, by omega, h2, h⟩)
              subst h2
              by_cases h5 : tr < 0
              · have d5 : decide (tr < 0) = true := decide_eq_true h5
                clear hall hp ht HX
                go_enter Try.func23, Try.ntmps23
                go_wp2_with (first
                  | (go_at_call 26; refine PL.out.mono ?_; rintro e w1 ⟨rfl, hk⟩; have K1 := hid hk; obtain ⟨⟨o0, o1⟩, ⟨t0, t1, t2⟩⟩ := HSS.out _ hk; clear hk)
                  | (go_at_call 50; refine (TK.out _).mono ?_; rintro e w2 ⟨rfl, hk⟩; have K1 := hid (K1.out.trans hk); clear hk o0 o1 t0 t1 t2; obtain ⟨⟨o0, o1⟩, ⟨t0, t1, t2⟩⟩ := HSS.out _ K1.out)
                  | (go_at_call 31; refine (keeps_any _).mono ?_; rintro e w3 ⟨rfl, hk⟩; have K1 := hid (K1.out.trans hk); clear hk)
                  | fail)
                go_ret
                exact ⟨rfl, (K0.out.trans K1.out).to_below⟩
              · have d5 : decide (tr < 0) = false := decide_eq_false h5
                have h6 : 1 < tr := Classical.byContradiction fun h6 => HX.out ⟨by omega, by omega⟩
                have d6 : decide (1 < tr) = true := decide_eq_true h6
                clear hall hp ht HX
                go_enter Try.func23, Try.ntmps23
                go_wp2_with (first
                  | (go_at_call 26; refine PL.out.mono ?_; rintro e w1 ⟨rfl, hk⟩; have K1 := hid hk; obtain ⟨⟨o0, o1⟩, ⟨t0, t1, t2⟩⟩ := HSS.out _ hk; clear hk)
                  | (go_at_call 50; refine (TK.out _).mono ?_; rintro e w2 ⟨rfl, hk⟩; have K1 := hid (K1.out.trans hk); clear hk o0 o1 t0 t1 t2; obtain ⟨⟨o0, o1⟩, ⟨t0, t1, t2⟩⟩ := HSS.out _ K1.out)
                  | (go_at_call 31; refine (keeps_any _).mono ?_; rintro e w3 ⟨rfl, hk⟩; have K1 := hid (K1.out.trans hk); clear hk)
                  | fail)
                go_ret
                exact ⟨rfl, (K0.out.trans K1.out).to_below⟩
            · have d4 : (tm == 2) = false := by simpa using h2
              have d4' : (tm != 2) = true := by simpa using h2
              clear hall hp ht h2
              go_enter Try.func23, Try.ntmps23
              go_wp2_with (first
                | (go_at_call 26; refine PL.out.mono ?_; rintro e w1 ⟨rfl, hk⟩; have K1 := hid hk; obtain ⟨⟨o0, o1⟩, ⟨t0, t1, t2⟩⟩ := HSS.out _ hk; clear hk)
                | (go_at_call 50; refine (TK.out _).mono ?_; rintro e w2 ⟨rfl, hk⟩; have K1 := hid (K1.out.trans hk); clear hk o0 o1 t0 t1 t2; obtain ⟨⟨o0, o1⟩, ⟨t0, t1, t2⟩⟩ := HSS.out _ K1.out)
                | (go_at_call 31; refine (keeps_any _).mono ?_; rintro e w3 ⟨rfl, hk⟩; have K1 := hid (K1.out.trans hk); clear hk)
                | fail)
              go_ret
              exact ⟨rfl, (K0.out.trans K1.out).to_below⟩
          · rw [decide_eq_false ht] at TK
            clear hall hp ht
            go_enter Try.func23, Try.ntmps23
            go_wp2_with (first
              | (go_at_call 26; refine PL.out.mono ?_; rintro e w1 ⟨rfl, hk⟩; have K1 := hid hk; obtain ⟨⟨o0, o1⟩, ⟨t0, t1, t2⟩⟩ := HSS.out _ hk; clear hk)
              | (go_at_call 50; refine (TK.out _).mono ?_; rintro e w2 ⟨rfl, hk⟩; have K1 := hid (K1.out.trans hk); clear hk o0 o1 t0 t1 t2; obtain ⟨⟨o0, o1⟩, ⟨t0, t1, t2⟩⟩ := HSS.out _ K1.out)
              | (go_at_call 31; refine (keeps_any _).mono ?_; rintro e w3 ⟨rfl, hk⟩; have K1 := hid (K1.out.trans hk); clear hk)
              | fail)
            go_ret
            exact ⟨rfl, (K0.out.trans K1.out).to_below⟩
      · rw [decide_eq_false hp] at PL
        clear hall hp
        go_enter Try.func23, Try.ntmps23
        go_wp2_with (first
          | (go_at_call 26; refine PL.out.mono ?_; rintro e w1 ⟨rfl, hk⟩; have K1 := hid hk; obtain ⟨⟨o0, o1⟩, ⟨t0, t1, t2⟩⟩ := HSS.out _ hk; clear hk)
          | (go_at_call 50; refine (TK.out _).mono ?_; rintro e w2 ⟨rfl, hk⟩; have K1 := hid (K1.out.trans hk); clear hk o0 o1 t0 t1 t2; obtain ⟨⟨o0, o1⟩, ⟨t0, t1, t2⟩⟩ := HSS.out _ K1.out)
          | (go_at_call 31; refine (keeps_any _).mono ?_; rintro e w3 ⟨rfl, hk⟩; have K1 := hid (K1.out.trans hk); clear hk)
          | fail)
        go_ret
        exact ⟨rfl, (K0.out.trans K1.out).to_below⟩
end Go.Proofs.Ytdamfannmlncnaa
