/- Find, All and Any do what the reference says of the pairs: the walks of the laws FnExactFind and FnExactAll. -/
import Derived.Test.YtdamfannmlncnaaTests
import Derived.Test.YtdamfannmlncnaaFloor
namespace Go.Proofs.Ytdamfannmlncnaa
open Go.RowKit
set_option linter.unusedVariables false
set_option linter.unusedSimpArgs false
attribute [local go_sem ↓] Go.wp_at_zero Go.wp_at_succ

theorem take_at {L : List (Int × Int)} {k : Nat} {e : Int × Int} (he : L[k]? = some e) : L.take (k + 1) = L.take k ++ [e] := by
  obtain ⟨hl, rfl⟩ := List.getElem?_eq_some_iff.1 he
  exact List.take_succ_eq_append_getElem hl

set_option maxRecDepth 100000 in
set_option maxHeartbeats 3200000 in
theorem exactfind_main {w : World} {kind m : Int} {v : Value} {acts : List Act3} {tb : Bool} {tm tr : Int} (ha : ActsIn w w.heap.size v acts) (hp : kind = 0 ∨ kind = 1) (hlen : acts.length ≤ 300) (h1 : 1 ≤ tm) (h2 : tm ≤ 1000) :
    Calls Try.prog 21 #[.agg #[.int .i64 kind, .int .i64 m], v, .agg #[.bool tb, .int .i64 tm, .int .i64 tr]] w fun e w' => e = .returned (.bool true) ∧ Below w.heap.size w w' := by
  obtain ⟨ao, cap, rfl⟩ := ha.len
  have K0 := hid (show Keep (fun _ => False) w ((w.alloc (.cells #[.int .i64 kind, .int .i64 m] 23)).alloc (.cells #[.bool tb, .int .i64 tm, .int .i64 tr] 70)) from ((Keep.refl _ _).alloc _).alloc _)
  have PL := hid (Plain_any kind m ((w.alloc (.cells #[.int .i64 kind, .int .i64 m] 23)).alloc (.cells #[.bool tb, .int .i64 tm, .int .i64 tr] 70)))
  rw [decide_eq_true hp] at PL
  have TK := hid (fun W => TestOk_any tb tm tr W)
  rw [decide_eq_true (show 1 ≤ tm ∧ tm ≤ 1000 from ⟨h1, h2⟩)] at TK
  have HA := hid (ha.keep K0.out fun _ _ => id)
  have HOK := hid (OrdOk.plain (m := m) hp)
  have OBX : ((w.alloc (.cells #[.int .i64 kind, .int .i64 m] 23)).alloc (.cells #[.bool tb, .int .i64 tm, .int .i64 tr] 70)).heap[w.heap.size]? = some (.cells #[.int .i64 kind, .int .i64 m] 23 (0, 0)) := by
    rw [Below.heap_alloc _ _ _ (by simp)]; exact heap_alloc_new _ _
  have HSS := hid (fun (W' : World) (hW : Keep (fun _ => False) ((w.alloc (.cells #[.int .i64 kind, .int .i64 m] 23)).alloc (.cells #[.bool tb, .int .i64 tm, .int .i64 tr] 70)) W') => order_test (hW.get OBX id) (hW.get (blk_second' w _ _ _ _) id))
  have HHO := hid (fun x y W => Holds_any tb tm tr h1 h2 x y W)
  have MM := hid (fun W (hW : Keep (fun _ => False) ((w.alloc (.cells #[.int .i64 kind, .int .i64 m] 23)).alloc (.cells #[.bool tb, .int .i64 tm, .int .i64 tr] 70)) W) => MapFind_any (tb := tb) (tr := tr) h1 h2 HOK.out (HA.out.keep hW fun _ _ => id) (Nat.le_trans K0.out.size hW.size) (by omega : acts.length ≤ 100000))
  obtain ⟨L, hL⟩ : ∃ L, L = runA (ordf kind m) acts := ⟨_, rfl⟩
  obtain ⟨n, hn⟩ : ∃ n, L.length = n := ⟨_, rfl⟩
  have hn3 : n ≤ 300 := by rw [← hn, hL]; have := runA_len (f := ordf kind m) acts; omega
  have RN : Hid (∀ W, Keep (fun _ => False) ((w.alloc (.cells #[.int .i64 kind, .int .i64 m] 23)).alloc (.cells #[.bool tb, .int .i64 tm, .int .i64 tr] 70)) W → Calls Try.prog 32 #[.agg #[.int .i64 kind, .int .i64 m], .slice ao acts.length cap] W fun e w' => ∃ sv, e = .returned sv ∧ RowIn w' w'.heap.size encP sv L ∧ (∃ a c, sv = .slice a n c) ∧ Keep (fun _ => False) W w') :=
    fun W hW => (run_on HOK.out HA.out K0.out.size (by omega : acts.length ≤ 100000) W hW).mono fun e w' ⟨sv, g1, g2, g3⟩ => ⟨sv, g1, by rw [hL]; exact g2, by rw [← hn, hL]; exact g2.len, g3⟩
  rw [← hL] at MM
  have HN := hid hn
  clear ha hp h1 h2 OBX hL hn HA
  go_enter Try.func21, Try.ntmps21
  go_wp2_with (first
    | (go_at_call 26; refine PL.out.mono ?_; rintro e w1 ⟨rfl, hk⟩; have K1 := hid hk; obtain ⟨⟨o0, o1⟩, ⟨t0, t1, t2⟩⟩ := HSS.out _ hk; clear hk)
    | (go_at_call 50; refine (TK.out _).mono ?_; rintro e w2 ⟨rfl, hk⟩; have K2 := hid (K1.out.trans hk); clear hk o0 o1 t0 t1 t2; obtain ⟨⟨o0, o1⟩, ⟨t0, t1, t2⟩⟩ := HSS.out _ K2.out)
    | (go_at_call 32; refine (RN.out _ K2.out).mono ?_; rintro e w3 ⟨sv, rfl, hs, hsl, hk⟩; have K3 := hid (K2.out.trans hk); have R3 := hid hs; obtain ⟨a2, c2, rfl⟩ := hsl; clear hs hk o0 o1 t0 t1 t2)
    | fail)
  go_loopw [29] (fun i wr => ∃ k : Nat, k ≤ n ∧ i = .int .i64 k ∧ Keep (fun _ => False) w3 wr ∧ (L.take k).find? (holdsT tb tm tr) = none) (fun i _ => n - (intOf i).toNat)
  case atStart => exact ⟨0, Nat.zero_le _, rfl, Keep.refl _ _, rfl⟩
  case round =>
    obtain ⟨k, hk, rfl, hkr, hfi⟩ := hrel
    have HFI := hid hfi
    clear hfi
    have KR := hid hkr
    clear hkr
    by_cases hlt : k < n
    · obtain ⟨e0, he0⟩ : ∃ e0, L[k]? = some e0 := ⟨_, List.getElem?_eq_getElem (by rw [HN.out]; exact hlt)⟩
      have htk := take_at he0
      obtain ⟨x, y⟩ := e0
      obtain ⟨b, off, ha2, hc0, hc1⟩ := row_at' R3.out he0
      subst ha2
      have c0 := KR.out.cell hc0 id
      have c1 := KR.out.cell hc1 id
      have HE := hid (And.intro he0 htk)
      have hpb := heap_alloc_new wr (.cells #[.int .i64 x, .int .i64 y] 57)
      have KA := hid ((K3.out.trans KR.out).alloc (.cells #[.int .i64 x, .int .i64 y] 57))
      have HPB := hid hpb
      obtain ⟨⟨o0, o1⟩, ⟨t0, t1, t2⟩⟩ := HSS.out _ KA.out
      clear he0 htk hc0 hc1 hpb
      go_wp2_with (fail)
      refine (HHO.out x y _).mono ?_
      rintro e w4 ⟨rfl, hk⟩
      have Pw4 := hid ((Keep.refl (fun _ => False) _).trans hk)
      have K4 := hid (KA.out.trans hk)
      clear hk o0 o1 t0 t1 t2
      obtain ⟨⟨o0, o1⟩, ⟨t0, t1, t2⟩⟩ := HSS.out _ K4.out
      have hpb4 := Pw4.out.get HPB.out id
      obtain ⟨p0, p1, -⟩ := blk_facts hpb4
      clear hpb4 c0 c1
      cases hb : holdsT tb tm tr (x, y) with
      | true =>
        have HFD := hid (find_hit HFI.out HE.out.1 hb)
        have MM2 : Hid (∀ W, Keep (fun _ => False) ((w.alloc (.cells #[.int .i64 kind, .int .i64 m] 23)).alloc (.cells #[.bool tb, .int .i64 tm, .int .i64 tr] 70)) W → Calls Try.prog 52 #[.agg #[.int .i64 kind, .int .i64 m], .slice ao acts.length cap, .agg #[.bool tb, .int .i64 tm, .int .i64 tr]] W fun e w' => e = .returned (.agg #[.int .i64 x, .int .i64 y, .bool true]) ∧ Keep (fun _ => False) W w') := fun W hW => by have := MM.out W hW; rw [HFD.out] at this; exact this
        have TD := hid (fun W => Told_any (some (x, y)) 0 0 W)
        simp only [Option.getD, Option.isSome, pairV] at TD
        have ex : (x == x) = true := by simp
        have ey : (y == y) = true := by simp
        have HSC := hid (And.intro o0 (And.intro o1 (And.intro t0 (And.intro t1 (And.intro t2 (And.intro p0 p1))))))
        have HSK := hid (fun (W' : World) (hW : Keep (fun _ => False) w4 W') => And.intro (hW.cell o0 id) (And.intro (hW.cell o1 id) (And.intro (hW.cell t0 id) (And.intro (hW.cell t1 id) (And.intro (hW.cell t2 id) (And.intro (hW.cell p0 id) (hW.cell p1 id)))))))
        clear hb o0 o1 t0 t1 t2 p0 p1
        go_wp2_with (fail)
        go_region_held3 (fun w' => w'.cell? ⟨w.heap.size, 0, none⟩ = some (.int .i64 kind) ∧ w'.cell? ⟨w.heap.size, 1, none⟩ = some (.int .i64 m) ∧ w'.cell? ⟨w.heap.size + 1, 0, none⟩ = some (.bool tb) ∧ w'.cell? ⟨w.heap.size + 1, 1, none⟩ = some (.int .i64 tm) ∧ w'.cell? ⟨w.heap.size + 1, 2, none⟩ = some (.int .i64 tr) ∧ w'.cell? ⟨wr.heap.size, 0, none⟩ = some (.int .i64 x) ∧ w'.cell? ⟨wr.heap.size, 1, none⟩ = some (.int .i64 y))
          (first | (refine HSK.out _ ?_; (repeat (first | (with_reducible apply Keep.drew) | (with_reducible apply Keep.drewN))); (first | (with_reducible exact K6.out) | (with_reducible exact K5.out) | (with_reducible exact Keep.refl _ _) | fail)) | fail)
          (first
            | (go_at_call 52; refine (MM2.out _ (by (repeat (first | (with_reducible apply Keep.drew) | (with_reducible apply Keep.drewN))); exact K4.out)).mono ?_; rintro e w5 ⟨rfl, hk⟩; have K5 := hid (show Keep (fun _ => False) w4 w5 from (by first | exact hk | exact hk.undrew | exact hk.undrewN | fail)); clear hk)
            | (go_at_call 39; refine (TD.out _).mono ?_; rintro e w6 ⟨rfl, hk⟩; have K6 := hid (K5.out.trans (by first | exact hk | exact hk.undrew | exact hk.undrewN | fail)); clear hk)
            | fail)
        all_goals
          (try go_wp2_with (fail))
          go_ret
          exact ⟨rfl, (K0.out.trans (K4.out.trans K6.out)).to_below⟩
      | false =>
        have HFD := hid (find_step HFI.out HE.out.2 hb)
        have KRR := hid ((KR.out.alloc (.cells #[.int .i64 x, .int .i64 y] 57)).trans Pw4.out)
        clear hb
        go_wp2_with (fail)
        go_roundw
        case rel => exact ⟨k + 1, by omega, by go_num, KRR.out, HFD.out⟩
        case measure => simp [intOf]; omega
    · obtain rfl : n = k := by omega
      have HFD := hid (show L.find? (holdsT tb tm tr) = none by have h := HFI.out; rw [List.take_of_length_le (by rw [HN.out]; omega)] at h; exact h)
      have KE := hid (K3.out.trans KR.out)
      obtain ⟨⟨o0, o1⟩, ⟨t0, t1, t2⟩⟩ := HSS.out _ KE.out
      have MM2 : Hid (∀ W, Keep (fun _ => False) ((w.alloc (.cells #[.int .i64 kind, .int .i64 m] 23)).alloc (.cells #[.bool tb, .int .i64 tm, .int .i64 tr] 70)) W → Calls Try.prog 52 #[.agg #[.int .i64 kind, .int .i64 m], .slice ao acts.length cap, .agg #[.bool tb, .int .i64 tm, .int .i64 tr]] W fun e w' => e = .returned (.agg #[.int .i64 0, .int .i64 0, .bool false]) ∧ Keep (fun _ => False) W w') := fun W hW => by have := MM.out W hW; rw [HFD.out] at this; exact this
      go_wp2_with (first
        | (go_at_call 52; refine (MM2.out _ KE.out).mono ?_; rintro e w5 ⟨rfl, hk⟩; have K5 := hid (KE.out.trans hk); clear hk)
        | (go_at_call 31; refine (keeps_any _).mono ?_; rintro e w6 ⟨rfl, hk⟩; have K6 := hid (K5.out.trans hk); clear hk)
        | fail)
      go_ret
      exact ⟨rfl, (K0.out.trans K6.out).to_below⟩

set_option maxRecDepth 100000 in
set_option maxHeartbeats 3200000 in
theorem exactall_main {w : World} {kind m : Int} {v : Value} {acts : List Act3} {tb : Bool} {tm tr : Int} (ha : ActsIn w w.heap.size v acts) (hp : kind = 0 ∨ kind = 1) (hlen : acts.length ≤ 300) (h1 : 1 ≤ tm) (h2 : tm ≤ 1000) :
    Calls Try.prog 24 #[.agg #[.int .i64 kind, .int .i64 m], v, .agg #[.bool tb, .int .i64 tm, .int .i64 tr]] w fun e w' => e = .returned (.bool true) ∧ Below w.heap.size w w' := by
  obtain ⟨ao, cap, rfl⟩ := ha.len
  have K0 := hid (show Keep (fun _ => False) w ((w.alloc (.cells #[.int .i64 kind, .int .i64 m] 23)).alloc (.cells #[.bool tb, .int .i64 tm, .int .i64 tr] 70)) from ((Keep.refl _ _).alloc _).alloc _)
  have PL := hid (Plain_any kind m ((w.alloc (.cells #[.int .i64 kind, .int .i64 m] 23)).alloc (.cells #[.bool tb, .int .i64 tm, .int .i64 tr] 70)))
  rw [decide_eq_true hp] at PL
  have TK := hid (fun W => TestOk_any tb tm tr W)
  rw [decide_eq_true (show 1 ≤ tm ∧ tm ≤ 1000 from ⟨h1, h2⟩)] at TK
  have HA := hid (ha.keep K0.out fun _ _ => id)
  have HOK := hid (OrdOk.plain (m := m) hp)
  have OBX : ((w.alloc (.cells #[.int .i64 kind, .int .i64 m] 23)).alloc (.cells #[.bool tb, .int .i64 tm, .int .i64 tr] 70)).heap[w.heap.size]? = some (.cells #[.int .i64 kind, .int .i64 m] 23 (0, 0)) := by
    rw [Below.heap_alloc _ _ _ (by simp)]; exact heap_alloc_new _ _
  have HSS := hid (fun (W' : World) (hW : Keep (fun _ => False) ((w.alloc (.cells #[.int .i64 kind, .int .i64 m] 23)).alloc (.cells #[.bool tb, .int .i64 tm, .int .i64 tr] 70)) W') => order_test (hW.get OBX id) (hW.get (blk_second' w _ _ _ _) id))
  have HHO := hid (fun x y W => Holds_any tb tm tr h1 h2 x y W)
  have MM := hid (fun W (hW : Keep (fun _ => False) ((w.alloc (.cells #[.int .i64 kind, .int .i64 m] 23)).alloc (.cells #[.bool tb, .int .i64 tm, .int .i64 tr] 70)) W) => MapAll_any (tb := tb) (tr := tr) h1 h2 HOK.out (HA.out.keep hW fun _ _ => id) (Nat.le_trans K0.out.size hW.size) (by omega : acts.length ≤ 100000))
  obtain ⟨L, hL⟩ : ∃ L, L = runA (ordf kind m) acts := ⟨_, rfl⟩
  obtain ⟨n, hn⟩ : ∃ n, L.length = n := ⟨_, rfl⟩
  have hn3 : n ≤ 300 := by rw [← hn, hL]; have := runA_len (f := ordf kind m) acts; omega
  have RN : Hid (∀ W, Keep (fun _ => False) ((w.alloc (.cells #[.int .i64 kind, .int .i64 m] 23)).alloc (.cells #[.bool tb, .int .i64 tm, .int .i64 tr] 70)) W → Calls Try.prog 32 #[.agg #[.int .i64 kind, .int .i64 m], .slice ao acts.length cap] W fun e w' => ∃ sv, e = .returned sv ∧ RowIn w' w'.heap.size encP sv L ∧ (∃ a c, sv = .slice a n c) ∧ Keep (fun _ => False) W w') :=
    fun W hW => (run_on HOK.out HA.out K0.out.size (by omega : acts.length ≤ 100000) W hW).mono fun e w' ⟨sv, g1, g2, g3⟩ => ⟨sv, g1, by rw [hL]; exact g2, by rw [← hn, hL]; exact g2.len, g3⟩
  rw [← hL] at MM
  have HN := hid hn
  clear ha hp h1 h2 OBX hL hn HA
  go_enter Try.func24, Try.ntmps24
  go_wp2_with (first
    | (go_at_call 26; refine PL.out.mono ?_; rintro e w1 ⟨rfl, hk⟩; have K1 := hid hk; obtain ⟨⟨o0, o1⟩, ⟨t0, t1, t2⟩⟩ := HSS.out _ hk; clear hk)
    | (go_at_call 50; refine (TK.out _).mono ?_; rintro e w2 ⟨rfl, hk⟩; have K2 := hid (K1.out.trans hk); clear hk o0 o1 t0 t1 t2; obtain ⟨⟨o0, o1⟩, ⟨t0, t1, t2⟩⟩ := HSS.out _ K2.out)
    | (go_at_call 32; refine (RN.out _ K2.out).mono ?_; rintro e w3 ⟨sv, rfl, hs, hsl, hk⟩; have K3 := hid (K2.out.trans hk); have R3 := hid hs; obtain ⟨a2, c2, rfl⟩ := hsl; clear hs hk o0 o1 t0 t1 t2)
    | fail)
  go_loopw [7, 8, 33] (fun sa sb i wr => ∃ k : Nat, k ≤ n ∧ i = .int .i64 k ∧ (sa = .bool ((L.take k).all (holdsT tb tm tr)) ∧ sb = .bool ((L.take k).any (holdsT tb tm tr))) ∧ Keep (fun _ => False) w3 wr) (fun _ _ i _ => n - (intOf i).toNat)
  case atStart => exact ⟨0, Nat.zero_le _, rfl, ⟨rfl, rfl⟩, Keep.refl _ _⟩
  case round =>
    obtain ⟨k, hk, rfl, ⟨rfl, rfl⟩, hkr⟩ := hrel
    obtain ⟨ba, hba⟩ : ∃ ba, (L.take k).all (holdsT tb tm tr) = ba := ⟨_, rfl⟩
    obtain ⟨bb, hbb⟩ : ∃ bb, (L.take k).any (holdsT tb tm tr) = bb := ⟨_, rfl⟩
    rw [hba, hbb]
    have HAB := hid (And.intro hba hbb)
    clear hba hbb
    have KR := hid hkr
    clear hkr
    by_cases hlt : k < n
    · obtain ⟨e0, he0⟩ : ∃ e0, L[k]? = some e0 := ⟨_, List.getElem?_eq_getElem (by rw [HN.out]; exact hlt)⟩
      have htk := take_at he0
      obtain ⟨x, y⟩ := e0
      obtain ⟨b, off, ha2, hc0, hc1⟩ := row_at' R3.out he0
      subst ha2
      have c0 := KR.out.cell hc0 id
      have c1 := KR.out.cell hc1 id
      have HE := hid (And.intro he0 htk)
      have hpb := heap_alloc_new wr (.cells #[.int .i64 x, .int .i64 y] 57)
      have KA := hid ((K3.out.trans KR.out).alloc (.cells #[.int .i64 x, .int .i64 y] 57))
      have HPB := hid hpb
      obtain ⟨⟨o0, o1⟩, ⟨t0, t1, t2⟩⟩ := HSS.out _ KA.out
      clear he0 htk hc0 hc1 hpb
      obtain ⟨hh, hhh⟩ : ∃ hh, holdsT tb tm tr (x, y) = hh := ⟨_, rfl⟩
      have HBB := hid (show [(x, y)].all (holdsT tb tm tr) = hh ∧ [(x, y)].any (holdsT tb tm tr) = hh by simp [hhh])
      have HHO := hid (fun W => HHO.out x y W)
      rw [hhh] at HHO
      clear hhh
      cases ba with
      | true =>
        cases bb with
        | true =>
          go_wp2_with (fail)
          refine (HHO.out _).mono ?_
          rintro e w4 ⟨rfl, hk⟩
          have Pw4 := hid ((Keep.refl (fun _ => False) _).trans hk)
          have K4 := hid (KA.out.trans hk)
          clear hk o0 o1 t0 t1 t2
          obtain ⟨⟨o0, o1⟩, ⟨t0, t1, t2⟩⟩ := HSS.out _ K4.out
          have hpb4 := Pw4.out.get HPB.out id
          obtain ⟨p0, p1, -⟩ := blk_facts hpb4
          clear hpb4
          go_wp2_with (fail)
          go_roundw
          case rel => exact ⟨k + 1, by omega, by go_num, by rw [HE.out.2, List.all_append, HAB.out.1, List.any_append, HAB.out.2, HBB.out.1, HBB.out.2]; cases hh <;> exact ⟨rfl, rfl⟩, (KR.out.alloc (.cells #[.int .i64 x, .int .i64 y] 57)).trans Pw4.out⟩
          case measure => simp [intOf]; omega
        | false =>
          go_wp2_with (fail)
          refine (HHO.out _).mono ?_
          rintro e w4 ⟨rfl, hk⟩
          have Pw4 := hid ((Keep.refl (fun _ => False) _).trans hk)
          have K4 := hid (KA.out.trans hk)
          clear hk o0 o1 t0 t1 t2
          obtain ⟨⟨o0, o1⟩, ⟨t0, t1, t2⟩⟩ := HSS.out _ K4.out
          have hpb4 := Pw4.out.get HPB.out id
          obtain ⟨p0, p1, -⟩ := blk_facts hpb4
          clear hpb4
          go_wp2_with (fail)
          refine (HHO.out _).mono ?_
          rintro e w5 ⟨rfl, hk⟩
          have Pw5 := hid (Pw4.out.trans hk)
          have K5 := hid (K4.out.trans hk)
          clear hk o0 o1 t0 t1 t2
          obtain ⟨⟨o0, o1⟩, ⟨t0, t1, t2⟩⟩ := HSS.out _ K5.out
          go_wp2_with (fail)
          go_roundw
          case rel => exact ⟨k + 1, by omega, by go_num, by rw [HE.out.2, List.all_append, HAB.out.1, List.any_append, HAB.out.2, HBB.out.1, HBB.out.2]; cases hh <;> exact ⟨rfl, rfl⟩, (KR.out.alloc (.cells #[.int .i64 x, .int .i64 y] 57)).trans Pw5.out⟩
          case measure => simp [intOf]; omega
      | false =>
        cases bb with
        | true =>
          go_wp2_with (fail)
          go_roundw
          case rel => exact ⟨k + 1, by omega, by go_num, by rw [HE.out.2, List.all_append, HAB.out.1, List.any_append, HAB.out.2, HBB.out.1, HBB.out.2]; cases hh <;> exact ⟨rfl, rfl⟩, KR.out.alloc (.cells #[.int .i64 x, .int .i64 y] 57)⟩
          case measure => simp [intOf]; omega
        | false =>
          go_wp2_with (fail)
          refine (HHO.out _).mono ?_
          rintro e w5 ⟨rfl, hk⟩
          have Pw5 := hid ((Keep.refl (fun _ => False) _).trans hk)
          have K5 := hid (KA.out.trans hk)
          clear hk o0 o1 t0 t1 t2
          obtain ⟨⟨o0, o1⟩, ⟨t0, t1, t2⟩⟩ := HSS.out _ K5.out
          go_wp2_with (fail)
          go_roundw
          case rel => exact ⟨k + 1, by omega, by go_num, by rw [HE.out.2, List.all_append, HAB.out.1, List.any_append, HAB.out.2, HBB.out.1, HBB.out.2]; cases hh <;> exact ⟨rfl, rfl⟩, (KR.out.alloc (.cells #[.int .i64 x, .int .i64 y] 57)).trans Pw5.out⟩
          case measure => simp [intOf]; omega
    · obtain rfl : n = k := by omega
      have hT : L.take n = L := List.take_of_length_le (by rw [HN.out]; omega)
      rw [hT] at HAB
      have KE := hid (K3.out.trans KR.out)
      obtain ⟨⟨o0, o1⟩, ⟨t0, t1, t2⟩⟩ := HSS.out _ KE.out
      have MM2 : Hid (∀ W, Keep (fun _ => False) ((w.alloc (.cells #[.int .i64 kind, .int .i64 m] 23)).alloc (.cells #[.bool tb, .int .i64 tm, .int .i64 tr] 70)) W → Calls Try.prog 54 #[.agg #[.int .i64 kind, .int .i64 m], .slice ao acts.length cap, .agg #[.bool tb, .int .i64 tm, .int .i64 tr]] W fun e w' => e = .returned (.tuple #[.bool ba, .bool bb]) ∧ Keep (fun _ => False) W w') := fun W hW => by have := MM.out W hW; rw [HAB.out.1, HAB.out.2] at this; exact this
      have ex : (ba == ba) = true := by simp
      have ey : (bb == bb) = true := by simp
      clear hT
      go_wp2_with (first
        | (go_at_call 54; refine (MM2.out _ KE.out).mono ?_; rintro e w5 ⟨rfl, hk⟩; have K5 := hid (KE.out.trans hk); clear hk)
        | (go_at_call 31; refine (keeps_any _).mono ?_; rintro e w6 ⟨rfl, hk⟩; have K6 := hid (K5.out.trans hk); clear hk)
        | fail)
      go_ret
      exact ⟨rfl, (K0.out.trans K6.out).to_below⟩

set_option maxRecDepth 100000 in
set_option maxHeartbeats 1600000 in
theorem fnExactFind_walk {w : World} (kind m : Int) (v : Value) (acts : List Act3) (ha : ActsIn w w.heap.size v acts) (hn : acts.length ≤ maxLen) (tb : Bool) (tm tr : Int) :
    Calls Try.prog 21 #[.agg #[.int .i64 kind, .int .i64 m], v, .agg #[.bool tb, .int .i64 tm, .int .i64 tr]] w fun e w' => e = .returned (.bool true) ∧ Below w.heap.size w w' := by
  unfold maxLen at hn
  by_cases hall : (kind = 0 ∨ kind = 1) ∧ acts.length ≤ 300 ∧ 1 ≤ tm ∧ tm ≤ 1000
  · exact exactfind_main ha hall.1 hall.2.1 hall.2.2.1 hall.2.2.2
  · obtain ⟨ao, cap, rfl⟩ := ha.len
    have K0 := hid (show Keep (fun _ => False) w ((w.alloc (.cells #[.int .i64 kind, .int .i64 m] 23)).alloc (.cells #[.bool tb, .int .i64 tm, .int .i64 tr] 70)) from ((Keep.refl _ _).alloc _).alloc _)
    have PL := hid (Plain_any kind m ((w.alloc (.cells #[.int .i64 kind, .int .i64 m] 23)).alloc (.cells #[.bool tb, .int .i64 tm, .int .i64 tr] 70)))
    have TK := hid (fun W => TestOk_any tb tm tr W)
    have OBX : ((w.alloc (.cells #[.int .i64 kind, .int .i64 m] 23)).alloc (.cells #[.bool tb, .int .i64 tm, .int .i64 tr] 70)).heap[w.heap.size]? = some (.cells #[.int .i64 kind, .int .i64 m] 23 (0, 0)) := by
      rw [Below.heap_alloc _ _ _ (by simp)]; exact heap_alloc_new _ _
    have HSS := hid (fun (W' : World) (hW : Keep (fun _ => False) ((w.alloc (.cells #[.int .i64 kind, .int .i64 m] 23)).alloc (.cells #[.bool tb, .int .i64 tm, .int .i64 tr] 70)) W') => order_test (hW.get OBX id) (hW.get (blk_second' w _ _ _ _) id))
    clear ha OBX
    by_cases hbig : (2147483647 : Int) < acts.length
    · have d1 : decide ((2147483647 : Int) < acts.length) = true := decide_eq_true hbig
      clear hall
      go_enter Try.func21, Try.ntmps21
      go_wp2_with (fail)
      go_ret
      exact ⟨rfl, K0.out.to_below⟩
    · have d1 : decide ((2147483647 : Int) < acts.length) = false := decide_eq_false hbig
      by_cases hp : kind = 0 ∨ kind = 1
      · rw [decide_eq_true hp] at PL
        by_cases h3 : (300 : Int) < acts.length
        · have d3 : decide ((300 : Int) < acts.length) = true := decide_eq_true h3
          clear hall hp
          go_enter Try.func21, Try.ntmps21
          go_wp2_with (first
            | (go_at_call 26; refine PL.out.mono ?_; rintro e w1 ⟨rfl, hk⟩; have K1 := hid hk; obtain ⟨⟨o0, o1⟩, ⟨t0, t1, t2⟩⟩ := HSS.out _ hk; clear hk)
            | (go_at_call 50; refine (TK.out _).mono ?_; rintro e w2 ⟨rfl, hk⟩; have K1 := hid (K1.out.trans hk); clear hk o0 o1 t0 t1 t2)
            | fail)
          go_ret
          exact ⟨rfl, (K0.out.trans K1.out).to_below⟩
        · have d3 : decide ((300 : Int) < acts.length) = false := decide_eq_false h3
          have hd : decide (1 ≤ tm ∧ tm ≤ 1000) = false := decide_eq_false fun h => hall ⟨hp, by omega, h⟩
          rw [hd] at TK
          clear hall hp hd
          go_enter Try.func21, Try.ntmps21
          go_wp2_with (first
            | (go_at_call 26; refine PL.out.mono ?_; rintro e w1 ⟨rfl, hk⟩; have K1 := hid hk; obtain ⟨⟨o0, o1⟩, ⟨t0, t1, t2⟩⟩ := HSS.out _ hk; clear hk)
            | (go_at_call 50; refine (TK.out _).mono ?_; rintro e w2 ⟨rfl, hk⟩; have K1 := hid (K1.out.trans hk); clear hk o0 o1 t0 t1 t2)
            | fail)
          go_ret
          exact ⟨rfl, (K0.out.trans K1.out).to_below⟩
      · rw [decide_eq_false hp] at PL
        clear hall hp
        go_enter Try.func21, Try.ntmps21
        go_wp2_with (first
          | (go_at_call 26; refine PL.out.mono ?_; rintro e w1 ⟨rfl, hk⟩; have K1 := hid hk; obtain ⟨⟨o0, o1⟩, ⟨t0, t1, t2⟩⟩ := HSS.out _ hk; clear hk)
          | (go_at_call 50; refine (TK.out _).mono ?_; rintro e w2 ⟨rfl, hk⟩; have K1 := hid (K1.out.trans hk); clear hk o0 o1 t0 t1 t2)
          | fail)
        go_ret
        exact ⟨rfl, (K0.out.trans K1.out).to_below⟩

set_option maxRecDepth 100000 in
set_option maxHeartbeats 1600000 in
theorem fnExactAll_walk {w : World} (kind m : Int) (v : Value) (acts : List Act3) (ha : ActsIn w w.heap.size v acts) (hn : acts.length ≤ maxLen) (tb : Bool) (tm tr : Int) :
    Calls Try.prog 24 #[.agg #[.int .i64 kind, .int .i64 m], v, .agg #[.bool tb, .int .i64 tm, .int .i64 tr]] w fun e w' => e = .returned (.bool true) ∧ Below w.heap.size w w' := by
  unfold maxLen at hn
  by_cases hall : (kind = 0 ∨ kind = 1) ∧ acts.length ≤ 300 ∧ 1 ≤ tm ∧ tm ≤ 1000
  · exact exactall_main ha hall.1 hall.2.1 hall.2.2.1 hall.2.2.2
  · obtain ⟨ao, cap, rfl⟩ := ha.len
    have K0 := hid (show Keep (fun _ => False) w ((w.alloc (.cells #[.int .i64 kind, .int .i64 m] 23)).alloc (.cells #[.bool tb, .int .i64 tm, .int .i64 tr] 70)) from ((Keep.refl _ _).alloc _).alloc _)
    have PL := hid (Plain_any kind m ((w.alloc (.cells #[.int .i64 kind, .int .i64 m] 23)).alloc (.cells #[.bool tb, .int .i64 tm, .int .i64 tr] 70)))
    have TK := hid (fun W => TestOk_any tb tm tr W)
    have OBX : ((w.alloc (.cells #[.int .i64 kind, .int .i64 m] 23)).alloc (.cells #[.bool tb, .int .i64 tm, .int .i64 tr] 70)).heap[w.heap.size]? = some (.cells #[.int .i64 kind, .int .i64 m] 23 (0, 0)) := by
      rw [Below.heap_alloc _ _ _ (by simp)]; exact heap_alloc_new _ _
    have HSS := hid (fun (W' : World) (hW : Keep (fun _ => False) ((w.alloc (.cells #[.int .i64 kind, .int .i64 m] 23)).alloc (.cells #[.bool tb, .int .i64 tm, .int .i64 tr] 70)) W') => order_test (hW.get OBX id) (hW.get (blk_second' w _ _ _ _) id))
    clear ha OBX
    by_cases hbig : (2147483647 : Int) < acts.length
    · have d1 : decide ((2147483647 : Int) < acts.length) = true := decide_eq_true hbig
      clear hall
      go_enter Try.func24, Try.ntmps24
      go_wp2_with (fail)
      go_ret
      exact ⟨rfl, K0.out.to_below⟩
    · have d1 : decide ((2147483647 : Int) < acts.length) = false := decide_eq_false hbig
      by_cases hp : kind = 0 ∨ kind = 1
      · rw [decide_eq_true hp] at PL
        by_cases h3 : (300 : Int) < acts.length
        · have d3 : decide ((300 : Int) < acts.length) = true := decide_eq_true h3
          clear hall hp
          go_enter Try.func24, Try.ntmps24
          go_wp2_with (first
            | (go_at_call 26; refine PL.out.mono ?_; rintro e w1 ⟨rfl, hk⟩; have K1 := hid hk; obtain ⟨⟨o0, o1⟩, ⟨t0, t1, t2⟩⟩ := HSS.out _ hk; clear hk)
            | (go_at_call 50; refine (TK.out _).mono ?_; rintro e w2 ⟨rfl, hk⟩; have K1 := hid (K1.out.trans hk); clear hk o0 o1 t0 t1 t2)
            | fail)
          go_ret
          exact ⟨rfl, (K0.out.trans K1.out).to_below⟩
        · have d3 : decide ((300 : Int) < acts.length) = false := decide_eq_false h3
          have hd : decide (1 ≤ tm ∧ tm ≤ 1000) = false := decide_eq_false fun h => hall ⟨hp, by omega, h⟩
          rw [hd] at TK
          clear hall hp hd
          go_enter Try.func24, Try.ntmps24
          go_wp2_with (first
            | (go_at_call 26; refine PL.out.mono ?_; rintro e w1 ⟨rfl, hk⟩; have K1 := hid hk; obtain ⟨⟨o0, o1⟩, ⟨t0, t1, t2⟩⟩ := HSS.out _ hk; clear hk)
            | (go_at_call 50; refine (TK.out _).mono ?_; rintro e w2 ⟨rfl, hk⟩; have K1 := hid (K1.out.trans hk); clear hk o0 o1 t0 t1 t2)
            | fail)
          go_ret
          exact ⟨rfl, (K0.out.trans K1.out).to_below⟩
      · rw [decide_eq_false hp] at PL
        clear hall hp
        go_enter Try.func24, Try.ntmps24
        go_wp2_with (first
          | (go_at_call 26; refine PL.out.mono ?_; rintro e w1 ⟨rfl, hk⟩; have K1 := hid hk; obtain ⟨⟨o0, o1⟩, ⟨t0, t1, t2⟩⟩ := HSS.out _ hk; clear hk)
          | (go_at_call 50; refine (TK.out _).mono ?_; rintro e w2 ⟨rfl, hk⟩; have K1 := hid (K1.out.trans hk); clear hk o0 o1 t0 t1 t2)
          | fail)
        go_ret
        exact ⟨rfl, (K0.out.trans K1.out).to_below⟩
end Go.Proofs.Ytdamfannmlncnaa
