/- MapMap and MapSelect walked. -/
import Derived.Test.YtdamfannmlncnaaSelect
import Derived.Test.YtdamfannmlncnaaTests
namespace Go.Proofs.Ytdamfannmlncnaa
open Go.RowKit
set_option linter.unusedVariables false
set_option linter.unusedSimpArgs false
set_option maxHeartbeats 1600000
attribute [local go_sem ↓] Go.wp_at_zero Go.wp_at_succ

theorem act_at {w : World} {B : Nat} {a0 : Option Addr} {n c0 k : Nat} {acts : List Act3} {a : Act3} (h : RowIn w B encA (.slice a0 n c0) acts) (hk : acts[k]? = some a) :
    ∃ b off, a0 = some ⟨b, off, none⟩ ∧ w.cell? ⟨b, off + k * 3, none⟩ = some (.int .i64 a.1) ∧ w.cell? ⟨b, off + k * 3 + 1, none⟩ = some (.int .i64 a.2.1) ∧ w.cell? ⟨b, off + k * 3 + 2, none⟩ = some (.int .i64 a.2.2) := by
  obtain ⟨hl, rfl⟩ := List.getElem?_eq_some_iff.1 hk
  rcases h with ⟨rfl, -⟩ | ⟨b, off, cap, hv, hb, hc⟩
  · simp at hl
  · simp only [Value.slice.injEq] at hv
    obtain ⟨rfl, -, -⟩ := hv
    exact ⟨b, off, rfl, acts_cells hc k hl⟩

theorem state_zero {W : World} {g : Nat} (h : W.heap[g]? = some stateZero) : W.cell? ⟨g, 0, none⟩ = some (.slice none 0 0) ∧ W.cell? ⟨g, 1, none⟩ = some (.slice none 0 0) ∧ W.cell? ⟨g, 2, none⟩ = some (.int .i64 0) ∧ W.cell? ⟨g, 3, none⟩ = some (.bool false) ∧ Plain W g := by
  refine ⟨?_, ?_, ?_, ?_, ⟨_, _, h⟩⟩ <;> simp [World.cell?, h, stateZero]
/-- Three, four blocks made one behind the other. -/
theorem blk_3 (w : World) (a b c : Obj) : (((w.alloc a).alloc b).alloc c).heap[w.heap.size + 2]? = some c := by
  simpa using heap_alloc_new ((w.alloc a).alloc b) c
theorem blk_2 (w : World) (a b : Obj) : ((w.alloc a).alloc b).heap[w.heap.size + 1]? = some b := by
  simpa using heap_alloc_new (w.alloc a) b
theorem blk_1 (w : World) (a : Obj) : (w.alloc a).heap[w.heap.size]? = some a := heap_alloc_new w a
theorem blk_4 (w : World) (a b c d : Obj) : ((((w.alloc a).alloc b).alloc c).alloc d).heap[w.heap.size + 3]? = some d := by
  simpa using heap_alloc_new (((w.alloc a).alloc b).alloc c) d
theorem cell_of {W : World} {g o : Nat} {cs : Array Value} {e : TypeId} {fr : Nat × Nat} (h : W.heap[g]? = some (.cells cs e fr)) : W.cell? ⟨g, o, none⟩ = cs[o]? := by simp [World.cell?, h]

set_option maxRecDepth 100000 in
theorem MapMap_any {w : World} {B : Nat} {kind m : Int} {v : Value} {acts : List Act3} {bn : Int} (h1 : 1 ≤ bn) (h2 : bn ≤ 1000) (hok : OrdOk kind m) (ha : ActsIn w B v acts) (hB : B ≤ w.heap.size) (hlen : acts.length ≤ 100000) :
    Calls Try.prog 43 #[.agg #[.int .i64 kind, .int .i64 m], v, .int .i64 bn] w fun e w' => ∃ sv, e = .returned sv ∧ StateIn w' w.heap.size sv (runA (ordf kind m) (mapA add64 bn (runA (ordf kind m) acts))) ∧ Keep (fun _ => False) w w' := by
  have K0 : Keep (fun _ => False) w (((w.alloc (.cells #[.int .i64 kind, .int .i64 m] 23)).alloc (.cells #[.int .i64 bn] 3)).alloc (.cells #[.slice none 0 0, .slice none 0 0, .int .i64 0, .bool false] 34)) := (((Keep.refl _ _).alloc _).alloc _).alloc _
  have BT := hid (built_any hok (ha.keep K0 fun _ _ => id) (Nat.le_trans hB K0.size) hlen)
  have ZB : (((w.alloc (.cells #[.int .i64 kind, .int .i64 m] 23)).alloc (.cells #[.int .i64 bn] 3)).alloc (.cells #[.slice none 0 0, .slice none 0 0, .int .i64 0, .bool false] 34)).heap[w.heap.size + 1 + 1]? = some stateZero := blk_3 w _ _ _
  have ZB := hid ZB
  have ZB0 := hid (blk_3 w (.cells #[.int .i64 kind, .int .i64 m] 23) (.cells #[.int .i64 bn] 3) (.cells #[.slice none 0 0, .slice none 0 0, .int .i64 0, .bool false] 34))
  have QB : (((w.alloc (.cells #[.int .i64 kind, .int .i64 m] 23)).alloc (.cells #[.int .i64 bn] 3)).alloc (.cells #[.slice none 0 0, .slice none 0 0, .int .i64 0, .bool false] 34)).cell? ⟨w.heap.size + 1, 0, none⟩ = some (.int .i64 bn) := by
    have h := (Keep.refl (fun _ => False) ((w.alloc (.cells #[.int .i64 kind, .int .i64 m] 23)).alloc (.cells #[.int .i64 bn] 3))).alloc (.cells #[.slice none 0 0, .slice none 0 0, .int .i64 0, .bool false] 34)
    exact h.cell (by rw [cell_of (blk_2 w _ _)]; rfl) id
  have QB := hid QB
  have K0 := hid K0
  have H12 := hid (And.intro h1 h2)
  obtain ⟨L, hL⟩ : ∃ L, L = runA (ordf kind m) acts := ⟨_, rfl⟩
  have HL := hid (show L.length ≤ 100000 by rw [hL]; exact Nat.le_trans (runA_len (f := ordf kind m) acts) hlen)
  rw [← hL] at BT ⊢
  obtain ⟨M, hM⟩ : ∃ M, M = runA (ordf kind m) (mapA add64 bn L) := ⟨_, rfl⟩
  have HML := hid (show M.length ≤ 1000000 by rw [hM]; have h1 := runA_len (f := ordf kind m) (mapA add64 bn L); have h2 := mapA_len add64 bn L; have := HL.out; omega)
  rw [← hM]
  have HM := hid hM
  clear hok ha hlen hL hB h1 h2 hM
  go_enter Try.func43, Try.ntmps43
  go_wp2_with (fail)
  refine BT.out.mono ?_
  rintro e w1 ⟨mb, ob, rfl, hm, hk⟩
  have K1 := hid (KeepFrom.is0 hk)
  have MM := hid (mapMap_any hm (K1.out.cell QB.out id) H12.out.1 H12.out.2 (by have := HL.out; omega))
  clear hm hk
  go_wp2_with (fail)
  refine MM.out.mono ?_
  rintro e w2 ⟨nb, rfl, hm, hk⟩
  have K2 := hid (K1.out.trans hk)
  rw [← HM.out] at hm
  have ST := hid (stateOf_any hm HML.out)
  clear hm hk
  go_wp2_with (fail)
  refine ST.out.mono ?_
  rintro e w3 ⟨sv, rfl, hs, hk⟩
  have K3 := hid (K2.out.trans hk)
  have HS := hid (hs.mono (by have := K2.out.size; simp at this ⊢; omega : w.heap.size + 3 ≤ w2.heap.size + 1))
  clear hs hk
  obtain ⟨z0, z1, z2, z3, pl⟩ := state_zero (K3.out.get ZB.out id)
  have KF := hid (K0.out.trans K3.out)
  obtain ⟨a1, c1, a2, c2, rfl, hr1, hr2⟩ := HS.out
  clear hr1 hr2
  go_wp2_with (fail)
  refine bodyPost_ret (v := .agg #[.slice a1 M.length c1, .slice a2 M.length c2, .int .i64 M.length, .bool (M.length == 0)]) (by simp [results, Try.results43, go_sem, z0, z1, z2, z3]) rfl ?_
  refine ⟨_, rfl, (((((HS.out.off (Nat.lt_succ_self _) _ _).off (Nat.lt_succ_self _) _ _).off (Nat.lt_succ_self _) _ _).off (Nat.lt_succ_self _) _ _).mono (by omega)), (((KF.out.freshSet (by omega) _ _).freshSet (by omega) _ _).freshSet (by omega) _ _).freshSet (by omega) _ _⟩

/-- What MapSelect's loop begins with: the new map, onto which the acts' puts come. -/
def MoreRel (w : World) (nb ob : Nat) (kind m : Int) (A more : List Act3) (k : Nat) (wr : World) : Prop :=
  Mp wr w.heap.size nb ob kind m (runA (ordf kind m) (A ++ onlyPuts (more.take k))) ∧ KeepFrom w.heap.size w wr
theorem runA_put2 {f : Int → Int} (A B : List Act3) (k v : Int) : runA f (A ++ (B ++ [(1, k, v)])) = put f k v (runA f (A ++ B)) := by
  rw [← List.append_assoc, runA_put]

set_option maxRecDepth 100000 in
set_option maxHeartbeats 3200000 in
theorem MapSelect_any {w : World} {B : Nat} {kind m : Int} {v v3 : Value} {acts more : List Act3} {tb : Bool} {tm tr : Int} (h1 : 1 ≤ tm) (h2 : tm ≤ 1000) (hok : OrdOk kind m) (ha : ActsIn w B v acts) (hb : ActsIn w B v3 more) (hB : B ≤ w.heap.size) (hlen : acts.length ≤ 100000) (hlen3 : more.length ≤ 100000) :
    Calls Try.prog 53 #[.agg #[.int .i64 kind, .int .i64 m], v, .agg #[.bool tb, .int .i64 tm, .int .i64 tr], v3] w fun e w' => ∃ s1 s2, e = .returned (.tuple #[s1, s2]) ∧ StateIn w' w.heap.size s1 (runA (ordf kind m) (selA (holdsT tb tm tr) (runA (ordf kind m) acts) ++ onlyPuts more)) ∧ StateIn w' w.heap.size s2 (runA (ordf kind m) acts) ∧ Keep (fun _ => False) w w' := by
  have K0 := hid (show Keep (fun _ => False) w ((((w.alloc (.cells #[.int .i64 kind, .int .i64 m] 23)).alloc (.cells #[.bool tb, .int .i64 tm, .int .i64 tr] 70)).alloc (.cells #[.slice none 0 0, .slice none 0 0, .int .i64 0, .bool false] 34)).alloc (.cells #[.slice none 0 0, .slice none 0 0, .int .i64 0, .bool false] 34)) from ((((Keep.refl _ _).alloc _).alloc _).alloc _).alloc _)
  have BT := hid (built_any hok (ha.keep K0.out fun _ _ => id) (Nat.le_trans hB K0.out.size) hlen)
  have TBX : ((((w.alloc (.cells #[.int .i64 kind, .int .i64 m] 23)).alloc (.cells #[.bool tb, .int .i64 tm, .int .i64 tr] 70)).alloc (.cells #[.slice none 0 0, .slice none 0 0, .int .i64 0, .bool false] 34)).alloc (.cells #[.slice none 0 0, .slice none 0 0, .int .i64 0, .bool false] 34)).heap[w.heap.size + 1]? = some (.cells #[.bool tb, .int .i64 tm, .int .i64 tr] 70 (0, 0)) :=
    (((Keep.refl (fun _ => False) _).alloc _).alloc _).get (blk_2 w _ _) id
  have TBX := hid TBX
  have Z1 : ((((w.alloc (.cells #[.int .i64 kind, .int .i64 m] 23)).alloc (.cells #[.bool tb, .int .i64 tm, .int .i64 tr] 70)).alloc (.cells #[.slice none 0 0, .slice none 0 0, .int .i64 0, .bool false] 34)).alloc (.cells #[.slice none 0 0, .slice none 0 0, .int .i64 0, .bool false] 34)).heap[w.heap.size + 1 + 1]? = some stateZero := ((Keep.refl (fun _ => False) _).alloc _).get (blk_3 w _ _ _) id
  have Z1 := hid Z1
  have Z2 : ((((w.alloc (.cells #[.int .i64 kind, .int .i64 m] 23)).alloc (.cells #[.bool tb, .int .i64 tm, .int .i64 tr] 70)).alloc (.cells #[.slice none 0 0, .slice none 0 0, .int .i64 0, .bool false] 34)).alloc (.cells #[.slice none 0 0, .slice none 0 0, .int .i64 0, .bool false] 34)).heap[w.heap.size + 1 + 1 + 1]? = some stateZero := blk_4 w _ _ _ _
  have Z2 := hid Z2
  have H12 := hid (And.intro h1 h2)
  obtain ⟨a3, c3, rfl⟩ := hb.len
  have HB := hid (hb.keep K0.out fun _ _ => id)
  obtain ⟨L, hL⟩ : ∃ L, L = runA (ordf kind m) acts := ⟨_, rfl⟩
  have HL := hid (show L.length ≤ 100000 by rw [hL]; exact Nat.le_trans (runA_len (f := ordf kind m) acts) hlen)
  rw [← hL] at BT ⊢
  obtain ⟨n, hn⟩ : ∃ n, more.length = n := ⟨_, rfl⟩
  have HN := hid hn
  rw [hn] at hlen3 ⊢
  obtain ⟨A, hA⟩ : ∃ A, A = selA (holdsT tb tm tr) L := ⟨_, rfl⟩
  have HAL := hid (show A.length ≤ 100000 by rw [hA]; exact Nat.le_trans (selA_len _ _) HL.out)
  have HA := hid hA
  rw [← hA]
  obtain ⟨M, hM⟩ : ∃ M, M = runA (ordf kind m) (A ++ onlyPuts more) := ⟨_, rfl⟩
  have HML := hid (show M.length ≤ 1000000 by rw [hM]; have h1 := runA_len (f := ordf kind m) (A ++ onlyPuts more); have h2 := onlyPuts_len more; have h3 := HAL.out; rw [List.length_append] at h1; omega)
  rw [← hM]
  have HMM := hid hM
  clear hok ha hb hlen hL hB h1 h2 hn hA hM
  go_enter Try.func53, Try.ntmps53
  go_wp2_with (fail)
  refine BT.out.mono ?_
  rintro e w1 ⟨mb, ob, rfl, hm, hk⟩
  have K1 := hid (KeepFrom.is0 hk)
  have HM := hid hm
  have hb1 := K1.out.get TBX.out id
  obtain ⟨q0, q1, q2⟩ := test_read hb1
  clear hm hk hb1
  go_wp2_with (fail)
  refine (test_ex tb tm tr _).mono ?_
  rintro e w2 ⟨qb, rfl, hq, hk⟩
  have K2 := hid (K1.out.trans hk)
  have M2 := hid (HM.out.below hk.any)
  have SL := hid (mapSelect_any M2.out hq H12.out.1 H12.out.2 (by have := HL.out; omega))
  rw [← HA.out] at SL
  clear hq hk q0 q1 q2
  go_wp2_with (fail)
  refine SL.out.mono ?_
  rintro e w3 ⟨nb, rfl, hm, hk⟩
  have K3 := hid (K2.out.trans hk)
  have ST := hid (show MoreRel w2 nb ob kind m A more 0 w3 from ⟨by simpa [onlyPuts] using hm, hk.any⟩)
  clear hm hk
  go_wp2_with (fail)
  go_loopw [23] (fun i wr => ∃ k : Nat, k ≤ n ∧ i = .int .i64 k ∧ MoreRel w2 nb ob kind m A more k wr) (fun i _ => n - (intOf i).toNat)
  case atStart => exact ⟨0, Nat.zero_le _, rfl, ST.out⟩
  case round =>
    obtain ⟨k, hk, rfl, hrel⟩ := hrel
    have HR := hid hrel
    clear hrel
    by_cases hlt : k < n
    · obtain ⟨a, ha⟩ : ∃ a : Act3, more[k]? = some a := ⟨_, List.getElem?_eq_getElem (by rw [HN.out]; exact hlt)⟩
      have HT := hid (show more.take (k + 1) = more.take k ++ [a] by obtain ⟨hl, rfl⟩ := List.getElem?_eq_some_iff.1 ha; exact List.take_succ_eq_append_getElem hl)
      obtain ⟨o, key, val⟩ := a
      obtain ⟨b, off, rfl, hc0, hc1, hc2⟩ := act_at HB.out ha
      have KR := hid (K2.out.trans (KeepFrom.is0 HR.out.2))
      have c0 := KR.out.cell hc0 id
      have c1 := KR.out.cell hc1 id
      have c2 := KR.out.cell hc2 id
      clear ha hc0 hc1 hc2
      by_cases h1 : o = 1
      · subst h1
        go_wp2_with (fail)
        refine (mapPut_any (HR.out.1.alloc _) key val ?_).mono ?_
        · have h1 := runA_len (f := ordf kind m) (A ++ onlyPuts (more.take k))
          have h2 := onlyPuts_len (more.take k)
          have h3 := HAL.out
          rw [List.length_append] at h1
          rw [List.length_take] at h2
          omega
        rintro e w4 ⟨rfl, hm, hk4⟩
        have HS := hid (show MoreRel w2 nb ob kind m A more (k + 1) w4 from ⟨by rw [onlyPuts_hit HT.out rfl, runA_put2]; exact hm, HR.out.2.trans (((Keep.refl _ _).alloc _).trans hk4)⟩)
        clear hm hk4 c0 c1 c2
        go_wp2_with (fail)
        go_roundw
        case rel => exact ⟨k + 1, by omega, by go_num, HS.out⟩
        case measure => simp [intOf]; omega
      · have HS : ∀ O, MoreRel w2 nb ob kind m A more (k + 1) (wr.alloc O) := fun O => ⟨by rw [onlyPuts_miss HT.out h1]; exact HR.out.1.alloc _, HR.out.2.trans ((Keep.refl _ _).alloc _)⟩
        have HS := hid HS
        have b1 : (o == 1) = false := by simpa using h1
        clear h1
        go_wp2_with (fail)
        go_roundw
        case rel => exact ⟨k + 1, by omega, by go_num, HS.out _⟩
        case measure => simp [intOf]; omega
    · obtain rfl : n = k := by omega
      have HE := hid (show Mp wr w2.heap.size nb ob kind m (runA (ordf kind m) (A ++ onlyPuts more)) by have h := HR.out.1; rw [List.take_of_length_le (by rw [HN.out]; omega)] at h; exact h)
      rw [← HMM.out] at HE
      have KE := hid (KeepFrom.is0 HR.out.2)
      have ME := hid (M2.out.below KE.out.any)
      go_wp2_with (fail)
      refine (stateOf_any HE.out HML.out).mono ?_
      rintro e w5 ⟨s1, rfl, hs, hk⟩
      have K5 := hid hk
      have S5 := hid hs
      have M5 := hid (ME.out.below hk.any)
      clear hs hk
      go_wp2_with (fail)
      refine (stateOf_any M5.out (by have := HL.out; omega)).mono ?_
      rintro e w6 ⟨s2, rfl, hs, hk⟩
      have K6 := hid (K2.out.trans (KE.out.trans (K5.out.trans hk)))
      have hz1 := (K2.out.trans KE.out).size
      have hz2 := ((K2.out.trans KE.out).trans K5.out).size
      have S1 := hid ((S5.out.on hk).mono (by simp at hz1 ⊢; omega : w.heap.size + 4 ≤ wr.heap.size + 1))
      have S2 := hid (hs.mono (by simp at hz2 ⊢; omega : w.heap.size + 4 ≤ w5.heap.size + 1))
      clear hs hk hz1 hz2
      obtain ⟨z0, z1, z2, z3, pl⟩ := state_zero (K6.out.get Z1.out id)
      obtain ⟨y0, y1, y2, y3, pm⟩ := state_zero (K6.out.get Z2.out id)
      have KF := hid (K0.out.trans K6.out)
      obtain ⟨a1, d1, a2, d2, rfl, hr1, hr2⟩ := S1.out
      obtain ⟨a4, d4, a5, d5, rfl, hr4, hr5⟩ := S2.out
      clear hr1 hr2 hr4 hr5
      go_wp2_with (fail)
      refine bodyPost_ret (v := .tuple #[.agg #[.slice a1 M.length d1, .slice a2 M.length d2, .int .i64 M.length, .bool (M.length == 0)], .agg #[.slice a4 L.length d4, .slice a5 L.length d5, .int .i64 L.length, .bool (L.length == 0)]]) (by simp [results, Try.results53, go_sem, z0, z1, z2, z3, y0, y1, y2, y3]) rfl ?_
      refine ⟨_, _, rfl, ?_, ?_, ?_⟩
      · exact StateIn.mono (StateIn.off (StateIn.off (StateIn.off (StateIn.off (StateIn.off (StateIn.off (StateIn.off (StateIn.off S1.out (by omega) _ _) (by omega) _ _) (by omega) _ _) (by omega) _ _) (by omega) _ _) (by omega) _ _) (by omega) _ _) (by omega) _ _) (by omega)
      · exact StateIn.mono (StateIn.off (StateIn.off (StateIn.off (StateIn.off (StateIn.off (StateIn.off (StateIn.off (StateIn.off S2.out (by omega) _ _) (by omega) _ _) (by omega) _ _) (by omega) _ _) (by omega) _ _) (by omega) _ _) (by omega) _ _) (by omega) _ _) (by omega)
      · exact (((((((KF.out.freshSet (by omega) _ _).freshSet (by omega) _ _).freshSet (by omega) _ _).freshSet (by omega) _ _).freshSet (by omega) _ _).freshSet (by omega) _ _).freshSet (by omega) _ _).freshSet (by omega) _ _
end Go.Proofs.Ytdamfannmlncnaa
