/- Select returns a map of the pairs of which a test is true: the walk of the law FnExactSelect. -/
import Derived.Test.YtdamfannmlncnaaExactMap
namespace Go.Proofs.Ytdamfannmlncnaa
open Go.RowKit
set_option linter.unusedVariables false
set_option linter.unusedSimpArgs false
attribute [local go_sem ↓] Go.wp_at_zero Go.wp_at_succ

theorem act_box (w : World) (o k v : Int) : (w.alloc (.cells #[.int .i64 o, .int .i64 k, .int .i64 v] 27)).cell? ⟨w.heap.size, 0, none⟩ = some (.int .i64 o) ∧ (w.alloc (.cells #[.int .i64 o, .int .i64 k, .int .i64 v] 27)).cell? ⟨w.heap.size, 1, none⟩ = some (.int .i64 k) ∧ (w.alloc (.cells #[.int .i64 o, .int .i64 k, .int .i64 v] 27)).cell? ⟨w.heap.size, 2, none⟩ = some (.int .i64 v) :=
  ⟨by rw [World.cell?_alloc_new]; rfl, by rw [World.cell?_alloc_new]; rfl, by rw [World.cell?_alloc_new]; rfl⟩
/-- A state in a box. -/
theorem state_box {w : World} {b : Nat} {sv : Value} {L : List (Int × Int)} (h : StateIn w b sv L) {W : World} (hk : Keep (fun _ => False) w W) : StateIn W b sv L := h.on hk

/-- Two states in two boxes made one behind the other. -/
theorem two_boxes (w : World) (a1 a2 : Value) (n : Int) (e : Bool) (b1 b2 : Value) (n' : Int) (e' : Bool) (W : World) (hW : Keep (fun _ => False) ((w.alloc (.cells #[a1, a2, .int .i64 n, .bool e] 34)).alloc (.cells #[b1, b2, .int .i64 n', .bool e'] 34)) W) :
    (W.cell? ⟨w.heap.size, 0, none⟩ = some a1 ∧ W.cell? ⟨w.heap.size, 1, none⟩ = some a2 ∧ W.cell? ⟨w.heap.size, 2, none⟩ = some (.int .i64 n) ∧ W.cell? ⟨w.heap.size, 3, none⟩ = some (.bool e)) ∧
    (W.cell? ⟨w.heap.size + 1, 0, none⟩ = some b1 ∧ W.cell? ⟨w.heap.size + 1, 1, none⟩ = some b2 ∧ W.cell? ⟨w.heap.size + 1, 2, none⟩ = some (.int .i64 n') ∧ W.cell? ⟨w.heap.size + 1, 3, none⟩ = some (.bool e')) := by
  have h1 := hW.get (((Keep.refl (fun _ => False) _).alloc _).get (blk_1 w _) id) id
  have h2 := hW.get (blk_2 w _ _) id
  refine ⟨⟨?_, ?_, ?_, ?_⟩, ?_, ?_, ?_, ?_⟩ <;> simp [World.cell?, h1, h2]

set_option maxRecDepth 100000 in
set_option maxHeartbeats 3200000 in
theorem exactselect_main {w : World} {kind m : Int} {v v3 : Value} {acts more : List Act3} {tb : Bool} {tm tr : Int} (ha : ActsIn w w.heap.size v acts) (hb : ActsIn w w.heap.size v3 more) (hp : kind = 0 ∨ kind = 1) (hlen : acts.length ≤ 300) (hlen3 : more.length ≤ 300) (h1 : 1 ≤ tm) (h2 : tm ≤ 1000) :
    Calls Try.prog 22 #[.agg #[.int .i64 kind, .int .i64 m], v, .agg #[.bool tb, .int .i64 tm, .int .i64 tr], v3] w fun e w' => e = .returned (.bool true) ∧ Below w.heap.size w w' := by
  obtain ⟨ao, cap, rfl⟩ := ha.len
  obtain ⟨a3, c3, rfl⟩ := hb.len
  have K0 := hid (show Keep (fun _ => False) w ((w.alloc (.cells #[.int .i64 kind, .int .i64 m] 23)).alloc (.cells #[.bool tb, .int .i64 tm, .int .i64 tr] 70)) from ((Keep.refl _ _).alloc _).alloc _)
  have PL := hid (Plain_any kind m ((w.alloc (.cells #[.int .i64 kind, .int .i64 m] 23)).alloc (.cells #[.bool tb, .int .i64 tm, .int .i64 tr] 70)))
  rw [decide_eq_true hp] at PL
  have TK := hid (fun W => TestOk_any tb tm tr W)
  rw [decide_eq_true (show 1 ≤ tm ∧ tm ≤ 1000 from ⟨h1, h2⟩)] at TK
  have HA := hid (ha.keep K0.out fun _ _ => id)
  have HB := hid (hb.keep K0.out fun _ _ => id)
  have HOK := hid (OrdOk.plain (m := m) hp)
  have OBX : ((w.alloc (.cells #[.int .i64 kind, .int .i64 m] 23)).alloc (.cells #[.bool tb, .int .i64 tm, .int .i64 tr] 70)).heap[w.heap.size]? = some (.cells #[.int .i64 kind, .int .i64 m] 23 (0, 0)) := by
    rw [Below.heap_alloc _ _ _ (by simp)]; exact heap_alloc_new _ _
  have HSS := hid (fun (W' : World) (hW : Keep (fun _ => False) ((w.alloc (.cells #[.int .i64 kind, .int .i64 m] 23)).alloc (.cells #[.bool tb, .int .i64 tm, .int .i64 tr] 70)) W') => order_test (hW.get OBX id) (hW.get (blk_second' w _ _ _ _) id))
  have HHO := hid (fun x y W => Holds_any tb tm tr h1 h2 x y W)
  have MM := hid (fun W (hW : Keep (fun _ => False) ((w.alloc (.cells #[.int .i64 kind, .int .i64 m] 23)).alloc (.cells #[.bool tb, .int .i64 tm, .int .i64 tr] 70)) W) => MapSelect_any (tb := tb) (tr := tr) h1 h2 HOK.out (HA.out.keep hW fun _ _ => id) (HB.out.keep hW fun _ _ => id) (Nat.le_trans K0.out.size hW.size) (by omega : acts.length ≤ 100000) (by omega : more.length ≤ 100000))
  obtain ⟨i0, hi, hz0, hz1, hz2⟩ := info_parts info27
  have HI := hid (And.intro hi (And.intro hz0 (And.intro hz1 hz2)))
  obtain ⟨L, hL⟩ : ∃ L, L = runA (ordf kind m) acts := ⟨_, rfl⟩
  obtain ⟨n, hn⟩ : ∃ n, L.length = n := ⟨_, rfl⟩
  have hn3 : n ≤ 300 := by rw [← hn, hL]; have := runA_len (f := ordf kind m) acts; omega
  have RN : Hid (∀ W, Keep (fun _ => False) ((w.alloc (.cells #[.int .i64 kind, .int .i64 m] 23)).alloc (.cells #[.bool tb, .int .i64 tm, .int .i64 tr] 70)) W → Calls Try.prog 32 #[.agg #[.int .i64 kind, .int .i64 m], .slice ao acts.length cap] W fun e w' => ∃ sv, e = .returned sv ∧ RowIn w' w'.heap.size encP sv L ∧ (∃ a c, sv = .slice a n c) ∧ Keep (fun _ => False) W w') :=
    fun W hW => (run_on HOK.out HA.out K0.out.size (by omega : acts.length ≤ 100000) W hW).mono fun e w' ⟨sv, g1, g2, g3⟩ => ⟨sv, g1, by rw [hL]; exact g2, by rw [← hn, hL]; exact g2.len, g3⟩
  rw [← hL] at MM
  have HN := hid hn
  obtain ⟨r, hr⟩ : ∃ r, more.length = r := ⟨_, rfl⟩
  have HRL := hid hr
  rw [hr] at hlen3 ⊢
  obtain ⟨S, hS⟩ : ∃ S, S = selA (holdsT tb tm tr) L := ⟨_, rfl⟩
  have HSL := hid (show S.length ≤ 300 by rw [hS]; have := selA_len (holdsT tb tm tr) L; omega)
  obtain ⟨A, hA⟩ : ∃ A, A = S ++ onlyPuts more := ⟨_, rfl⟩
  have hAl : A.length ≤ 600 := by rw [hA, List.length_append]; have := onlyPuts_len more; have := HSL.out; omega
  obtain ⟨M, hM⟩ : ∃ M, M = runA (ordf kind m) A := ⟨_, rfl⟩
  have HML := hid (show M.length ≤ 100000 by rw [hM]; have := runA_len (f := ordf kind m) A; omega)
  rw [← hS, ← hA, ← hM, hr] at MM
  have RN2 : Hid (∀ W W' s, ActsIn W W.heap.size s A → Keep (fun _ => False) W W' → Calls Try.prog 32 #[.agg #[.int .i64 kind, .int .i64 m], s] W' fun e w' => ∃ sv, e = .returned sv ∧ RowIn w' w'.heap.size encP sv M ∧ Keep (fun _ => False) W' w') := by
    intro W W' s hs hk
    rw [hM]
    exact run_on HOK.out hs (Nat.le_refl _) (by omega) W' hk
  have HAL := hid (And.intro hS hA)
  clear ha hb hp OBX hL hn hS hA hr hi hz0 hz1 hz2 hAl hM
  go_enter Try.func22, Try.ntmps22
  go_wp2_with (first
    | (go_at_call 26; refine PL.out.mono ?_; rintro e w1 ⟨rfl, hk⟩; have K1 := hid hk; obtain ⟨⟨o0, o1⟩, ⟨t0, t1, t2⟩⟩ := HSS.out _ hk; clear hk)
    | (go_at_call 50; refine (TK.out _).mono ?_; rintro e w2 ⟨rfl, hk⟩; have K2 := hid (K1.out.trans hk); clear hk o0 o1 t0 t1 t2; obtain ⟨⟨o0, o1⟩, ⟨t0, t1, t2⟩⟩ := HSS.out _ K2.out)
    | (go_at_call 32; refine (RN.out _ K2.out).mono ?_; rintro e w3 ⟨sv, rfl, hs, hsl, hk⟩; have K3 := hid (K2.out.trans hk); have R3 := hid hs; obtain ⟨a2, c2, rfl⟩ := hsl; clear hs hk o0 o1 t0 t1 t2)
    | fail)
  have ST : PutsRel w3 w3.heap.size w3.heap.size (selA (holdsT tb tm tr) (L.take 0)) (.slice (some ⟨w3.heap.size, 0, none⟩) 0 0) (w3.alloc (.cells #[] 27)) :=
    ⟨owns_empty w3 27 3 _ rfl _ (Nat.le_refl _), fun g hg => .inl (Option.some.inj hg).symm, (Keep.refl _ _).alloc _⟩
  have ST := hid ST
  go_loopw [10, 49] (fun s i wr => ∃ k : Nat, k ≤ n ∧ i = .int .i64 k ∧ PutsRel w3 w3.heap.size w3.heap.size (selA (holdsT tb tm tr) (L.take k)) s wr) (fun _ i _ => n - (intOf i).toNat)
  case atStart => exact ⟨0, Nat.zero_le _, rfl, ST.out⟩
  case round =>
    obtain ⟨k, hk, rfl, hrel⟩ := hrel
    have HR := hid hrel
    clear hrel
    have KX := hid (HR.out.keepB (Keep.refl (fun _ => False) w3) (Nat.le_refl _))
    by_cases hlt : k < n
    · obtain ⟨e0, he0⟩ : ∃ e0, L[k]? = some e0 := ⟨_, List.getElem?_eq_getElem (by rw [HN.out]; exact hlt)⟩
      have htk := take_at he0
      obtain ⟨x, y⟩ := e0
      obtain ⟨b, off, ha2, hc0, hc1⟩ := row_at' R3.out he0
      subst ha2
      have c0 := KX.out.cell hc0 id
      have c1 := KX.out.cell hc1 id
      have hlk : (selA (holdsT tb tm tr) (L.take k)).length ≤ 300 := by have := selA_len (holdsT tb tm tr) (L.take k); rw [List.length_take] at this; omega
      obtain ⟨S0, hS0⟩ : ∃ S0, S0 = selA (holdsT tb tm tr) (L.take k) := ⟨_, rfl⟩
      rw [← hS0] at HR hlk
      have HE := hid (And.intro htk hS0)
      obtain ⟨q, hq⟩ : ∃ q, S0.length = q := ⟨_, rfl⟩
      have HQ := hid hq
      rw [hq] at hlk
      have KA := hid ((K3.out.trans KX.out).alloc (.cells #[.int .i64 x, .int .i64 y] 57))
      have HPB := hid (heap_alloc_new wr (.cells #[.int .i64 x, .int .i64 y] 57))
      obtain ⟨⟨o0, o1⟩, ⟨t0, t1, t2⟩⟩ := HSS.out _ KA.out
      clear he0 htk hc0 hc1 hS0 hq
      obtain ⟨hh, hhh⟩ : ∃ hh, holdsT tb tm tr (x, y) = hh := ⟨_, rfl⟩
      have HHX := hid (fun W => HHO.out x y W)
      rw [hhh] at HHX
      have HB2 := hid hhh
      clear hhh
      go_wp2_with (fail)
      refine (HHX.out _).mono ?_
      rintro e w4 ⟨rfl, hk⟩
      have Pw4 := hid (show Keep (fun _ => False) wr w4 from ((Keep.refl _ _).alloc _).trans hk)
      obtain ⟨p0, p1, -⟩ := blk_facts (hk.get HPB.out id)
      have HR4 := hid (HR.out.on Pw4.out)
      clear hk o0 o1 t0 t1 t2 c0 c1
      cases hh with
      | true =>
        go_wp2_with (first
          | (at_builtin; refine wpList_append_own_at _ rfl (.tmp 56) (.tmp 62) 24 rfl w3.heap.size 27 i0 _ 3 24 Try.underlying24 HI.out.1 HI.out.2.1 HI.out.2.2.1 HI.out.2.2.2 rfl (by decide) u10 q _ rfl (by have h := (HR4.out.row.alloc (.cells #[.int .i64 1, .int .i64 x, .int .i64 y] 27)); rw [HQ.out] at h; exact h) _ 1 _ (encA (1, x, y)) rfl (by rfl) (act_src w4 1 x y rfl) (encA_one _) (by unfold maxLen; omega) (by omega) (by have := KX.out.size; have := Pw4.out.size; simp; omega) ?_; intro v5 w5 hown hgr hnil hat; have O5 := hid (PutsRel.app (A := S0) (o := 1) (k := x) (v := y) (HR4.out.on ((Keep.refl _ _).alloc _)) (by rw [HQ.out]; exact hown) hgr hat); clear hown hgr hat hnil)
          | fail)
        go_roundw
        case rel => exact ⟨k + 1, by omega, by go_num, by rw [selA_hit HE.out.1 HB2.out, ← HE.out.2]; exact O5.out⟩
        case measure => simp [intOf]; omega
      | false =>
        go_wp2_with (fail)
        go_roundw
        case rel => exact ⟨k + 1, by omega, by go_num, by rw [selA_miss HE.out.1 HB2.out, ← HE.out.2]; exact HR4.out⟩
        case measure => simp [intOf]; omega
    · obtain rfl : n = k := by omega
      have HP := hid (show PutsRel w3 w3.heap.size w3.heap.size (S ++ onlyPuts (more.take 0)) u10 wr by have h := HR.out; rw [List.take_of_length_le (by rw [HN.out]; omega), ← HAL.out.1] at h; simpa [onlyPuts] using h)
      clear HR
      go_wp2_with (fail)
      go_loopw [10, 67] (fun s i wr => ∃ k : Nat, k ≤ r ∧ i = .int .i64 k ∧ PutsRel w3 w3.heap.size w3.heap.size (S ++ onlyPuts (more.take k)) s wr) (fun _ i _ => r - (intOf i).toNat)
      case atStart => exact ⟨0, Nat.zero_le _, rfl, HP.out⟩
      case round =>
        obtain ⟨k, hk, rfl, hrel⟩ := hrel
        have HR := hid hrel
        clear hrel
        have KX := hid (HR.out.keepB (Keep.refl (fun _ => False) w3) (Nat.le_refl _))
        have KR := hid (K3.out.trans KX.out)
        by_cases hlt : k < r
        · obtain ⟨a, ha⟩ : ∃ a : Act3, more[k]? = some a := ⟨_, List.getElem?_eq_getElem (by rw [HRL.out]; exact hlt)⟩
          have HT := hid (show more.take (k + 1) = more.take k ++ [a] by obtain ⟨hl, rfl⟩ := List.getElem?_eq_some_iff.1 ha; exact List.take_succ_eq_append_getElem hl)
          obtain ⟨o, key, val⟩ := a
          obtain ⟨b, off, ha3, hc0, hc1, hc2⟩ := act_at HB.out ha
          subst ha3
          have c0 := KR.out.cell hc0 id
          have c1 := KR.out.cell hc1 id
          have c2 := KR.out.cell hc2 id
          have hlk : (S ++ onlyPuts (more.take k)).length ≤ 600 := by have h1 := onlyPuts_len (more.take k); have h2 := HSL.out; rw [List.length_take] at h1; rw [List.length_append]; omega
          obtain ⟨A0, hA0⟩ : ∃ A0, A0 = S ++ onlyPuts (more.take k) := ⟨_, rfl⟩
          rw [← hA0] at HR hlk
          have HE := hid hA0
          obtain ⟨q, hq⟩ : ∃ q, A0.length = q := ⟨_, rfl⟩
          have HQ := hid hq
          rw [hq] at hlk
          obtain ⟨p0, p1, p2⟩ := act_box wr o key val
          clear ha hc0 hc1 hc2 hA0 hq
          by_cases h1 : o = 1
          · subst h1
            go_wp2_with (first
              | (at_builtin; refine wpList_append_own_at _ rfl (.tmp 74) (.tmp 76) 24 rfl w3.heap.size 27 i0 _ 3 24 Try.underlying24 HI.out.1 HI.out.2.1 HI.out.2.2.1 HI.out.2.2.2 rfl (by decide) u10 q _ rfl (by have h := ((HR.out.row.alloc (.cells #[.int .i64 1, .int .i64 key, .int .i64 val] 27)).alloc (.cells #[.int .i64 1, .int .i64 key, .int .i64 val] 27)); rw [HQ.out] at h; exact h) _ 1 _ (encA (1, key, val)) rfl (by rfl) (act_src _ 1 key val (by simp)) (encA_one _) (by unfold maxLen; omega) (by omega) (by have := KX.out.size; simp; omega) ?_; intro v5 w5 hown hgr hnil hat; have O5 := hid (PutsRel.app (A := A0) (o := 1) (k := key) (v := val) (HR.out.on (((Keep.refl _ _).alloc _).alloc _)) (by rw [HQ.out]; exact hown) hgr hat); clear hown hgr hat hnil)
              | fail)
            go_roundw
            case rel => exact ⟨k + 1, by omega, by go_num, by rw [onlyPuts_hit HT.out rfl, ← List.append_assoc, ← HE.out]; exact O5.out⟩
            case measure => simp [intOf]; omega
          · have HS := hid (HR.out.on ((Keep.refl _ _).alloc (.cells #[.int .i64 o, .int .i64 key, .int .i64 val] 27)))
            have b1 : (o == 1) = false := by simpa using h1
            have HN1 := hid h1
            clear h1
            go_wp2_with (fail)
            go_roundw
            case rel => exact ⟨k + 1, by omega, by go_num, by rw [onlyPuts_miss HT.out HN1.out, ← HE.out]; exact HS.out⟩
            case measure => simp [intOf]; omega
        · obtain rfl : r = k := by omega
          have HP2 := hid (show PutsRel w3 w3.heap.size w3.heap.size A u10 wr by have h := HR.out; rw [List.take_of_length_le (by rw [HRL.out]; omega), ← HAL.out.2] at h; exact h)
          have AC := hid HP2.out.acts
          obtain ⟨⟨o0, o1⟩, ⟨t0, t1, t2⟩⟩ := HSS.out _ KR.out
          clear HR
          go_wp2_with (go_at_call 53; refine (MM.out _ KR.out).mono ?_; rintro e w4 ⟨s1, s2, rfl, hs1, hs2, hk⟩; have S1 := hid (hs1.mono (Nat.zero_le _)); have S2 := hid (hs2.mono (Nat.zero_le _)); have K4 := hid hk; obtain ⟨x1, d1, x2, d2, rfl, hr1, hr2⟩ := hs1; obtain ⟨x4, d4, x5, d5, rfl, hr4, hr5⟩ := hs2; clear hk hr1 hr2 hr4 hr5 o0 o1 t0 t1 t2)
          have B1 := hid (two_boxes w4 (.slice x1 M.length d1) (.slice x2 M.length d2) M.length (M.length == 0) (.slice x4 L.length d4) (.slice x5 L.length d5) L.length (L.length == 0))
          have K6 := hid (show Keep (fun _ => False) w4 ((w4.alloc (.cells #[.slice x1 M.length d1, .slice x2 M.length d2, .int .i64 M.length, .bool (M.length == 0)] 34)).alloc (.cells #[.slice x4 L.length d4, .slice x5 L.length d5, .int .i64 L.length, .bool (L.length == 0)] 34)) from ((Keep.refl _ _).alloc _).alloc _)
          obtain ⟨w6, hw6⟩ : ∃ w6, w6 = ((w4.alloc (.cells #[.slice x1 M.length d1, .slice x2 M.length d2, .int .i64 M.length, .bool (M.length == 0)] 34)).alloc (.cells #[.slice x4 L.length d4, .slice x5 L.length d5, .int .i64 L.length, .bool (L.length == 0)] 34)) := ⟨_, rfl⟩
          rw [← hw6] at B1 K6 ⊢
          have KO := hid (KR.out.trans (K4.out.trans K6.out))
          have HC := hid (fun W (hW : Keep (fun _ => False) w6 W) => show (W.cell? ⟨w.heap.size, 0, none⟩ = some (.int .i64 kind) ∧ W.cell? ⟨w.heap.size, 1, none⟩ = some (.int .i64 m)) ∧ (W.cell? ⟨w4.heap.size, 0, none⟩ = some (.slice x1 M.length d1) ∧ W.cell? ⟨w4.heap.size, 1, none⟩ = some (.slice x2 M.length d2) ∧ W.cell? ⟨w4.heap.size, 2, none⟩ = some (.int .i64 M.length) ∧ W.cell? ⟨w4.heap.size, 3, none⟩ = some (.bool (M.length == 0))) ∧ (W.cell? ⟨w4.heap.size + 1, 0, none⟩ = some (.slice x4 L.length d4) ∧ W.cell? ⟨w4.heap.size + 1, 1, none⟩ = some (.slice x5 L.length d5) ∧ W.cell? ⟨w4.heap.size + 1, 2, none⟩ = some (.int .i64 L.length) ∧ W.cell? ⟨w4.heap.size + 1, 3, none⟩ = some (.bool (L.length == 0))) from ⟨(HSS.out _ (KO.out.trans hW)).1, B1.out W hW⟩)
          have S16 := hid (S1.out.on K6.out)
          have S26 := hid (S2.out.on K6.out)
          have R36 := hid (R3.out.on (KX.out.trans (K4.out.trans K6.out)))
          have KP := hid (K4.out.trans K6.out)
          have HLL := hid (show L.length ≤ 100000 by rw [HN.out]; omega)
          clear hw6
          go_region_held3 (fun w' => (w'.cell? ⟨w.heap.size, 0, none⟩ = some (.int .i64 kind) ∧ w'.cell? ⟨w.heap.size, 1, none⟩ = some (.int .i64 m)) ∧ (w'.cell? ⟨w4.heap.size, 0, none⟩ = some (.slice x1 M.length d1) ∧ w'.cell? ⟨w4.heap.size, 1, none⟩ = some (.slice x2 M.length d2) ∧ w'.cell? ⟨w4.heap.size, 2, none⟩ = some (.int .i64 M.length) ∧ w'.cell? ⟨w4.heap.size, 3, none⟩ = some (.bool (M.length == 0))) ∧ (w'.cell? ⟨w4.heap.size + 1, 0, none⟩ = some (.slice x4 L.length d4) ∧ w'.cell? ⟨w4.heap.size + 1, 1, none⟩ = some (.slice x5 L.length d5) ∧ w'.cell? ⟨w4.heap.size + 1, 2, none⟩ = some (.int .i64 L.length) ∧ w'.cell? ⟨w4.heap.size + 1, 3, none⟩ = some (.bool (L.length == 0))))
            (first
              | (refine HC.out _ ?_; (repeat (first | (with_reducible apply Keep.drew) | (with_reducible apply Keep.drewN))); (first | (with_reducible exact K12.out) | (with_reducible exact K11.out) | (with_reducible exact K10.out) | (with_reducible exact K9.out) | (with_reducible exact K8.out) | (with_reducible exact K7.out) | (with_reducible exact Keep.refl _ _) | fail))
              | fail)
            (first
              | (go_at_call 32; refine (RN2.out _ _ _ AC.out (by (repeat (first | (with_reducible apply Keep.drew) | (with_reducible apply Keep.drewN))); exact KP.out)).mono ?_; rintro e w7 ⟨sv2, rfl, hs, hk⟩; have R7 := hid hs; have K7 := hid (show Keep (fun _ => False) w6 w7 from (by first | exact hk | exact hk.undrew | exact hk.undrewN | fail)); clear hs hk)
              | (have hx := K9.out; clear hx; go_at_call 36; refine (State_any (RowIn.on R36.out (by (repeat (first | (with_reducible apply Keep.drew) | (with_reducible apply Keep.drewN))); exact K9.out)) HLL.out).mono ?_; rintro e w10 ⟨sv4, rfl, hs, hk⟩; have S10 := hid (hs.mono (Nat.zero_le _)); have K10 := hid (K9.out.trans (by first | exact hk | exact hk.undrew | exact hk.undrewN | fail)); clear hs hk)
              | (go_at_call 36; refine (State_any (RowIn.on R7.out (by first | exact Keep.refl _ _ | exact (Keep.refl _ _).drew | exact (Keep.refl _ _).drewN _ | fail)) HML.out).mono ?_; rintro e w8 ⟨sv3, rfl, hs, hk⟩; have S8 := hid (hs.mono (Nat.zero_le _)); have K8 := hid (K7.out.trans (by first | exact hk | exact hk.undrew | exact hk.undrewN | fail)); clear hs hk)
              | (have hx := K10.out; clear hx; go_at_call 29; refine (sameState_any (S26.out.on (by (repeat (first | (with_reducible apply Keep.drew) | (with_reducible apply Keep.drewN))); exact K10.out)) (by first | exact S10.out | exact S10.out.on ((Keep.refl _ _).drew) | fail) (by have := HLL.out; omega)).mono ?_; rintro e w11 ⟨rfl, hk⟩; have K11 := hid (K10.out.trans (by first | exact hk | exact hk.undrew | exact hk.undrewN | fail)); clear hk)
              | (go_at_call 29; refine (sameState_any (S16.out.on (by (repeat (first | (with_reducible apply Keep.drew) | (with_reducible apply Keep.drewN))); exact K8.out)) (by first | exact S8.out | exact S8.out.on ((Keep.refl _ _).drew) | fail) (by have := HML.out; omega)).mono ?_; rintro e w9 ⟨rfl, hk⟩; have K9 := hid (K8.out.trans (by first | exact hk | exact hk.undrew | exact hk.undrewN | fail)); clear hk)
              | (go_at_call 31; refine (keeps_any _).mono ?_; rintro e w12 ⟨rfl, hk⟩; have K12 := hid (K11.out.trans (by first | exact hk | exact hk.undrew | exact hk.undrewN | fail)); clear hk)
              | fail)
          all_goals
            (try go_wp2_with (fail))
            go_ret
            exact ⟨rfl, (K0.out.trans (KO.out.trans K12.out)).to_below⟩

set_option maxRecDepth 100000 in
set_option maxHeartbeats 1600000 in
theorem fnExactSelect_walk {w : World} (kind m : Int) (v : Value) (acts : List Act3) (ha : ActsIn w w.heap.size v acts) (hn : acts.length ≤ maxLen) (tb : Bool) (tm tr : Int) (v3 : Value) (more : List Act3) (hb : ActsIn w w.heap.size v3 more) (hn3 : more.length ≤ maxLen) :
    Calls Try.prog 22 #[.agg #[.int .i64 kind, .int .i64 m], v, .agg #[.bool tb, .int .i64 tm, .int .i64 tr], v3] w fun e w' => e = .returned (.bool true) ∧ Below w.heap.size w w' := by
  unfold maxLen at hn hn3
  by_cases hall : (kind = 0 ∨ kind = 1) ∧ acts.length ≤ 300 ∧ (1 ≤ tm ∧ tm ≤ 1000) ∧ more.length ≤ 300
  · exact exactselect_main ha hb hall.1 hall.2.1 hall.2.2.2 hall.2.2.1.1 hall.2.2.1.2
  · obtain ⟨ao, cap, rfl⟩ := ha.len
    obtain ⟨a3, c3, rfl⟩ := hb.len
    have K0 := hid (show Keep (fun _ => False) w ((w.alloc (.cells #[.int .i64 kind, .int .i64 m] 23)).alloc (.cells #[.bool tb, .int .i64 tm, .int .i64 tr] 70)) from ((Keep.refl _ _).alloc _).alloc _)
    have PL := hid (Plain_any kind m ((w.alloc (.cells #[.int .i64 kind, .int .i64 m] 23)).alloc (.cells #[.bool tb, .int .i64 tm, .int .i64 tr] 70)))
    have TK := hid (fun W => TestOk_any tb tm tr W)
    have OBX : ((w.alloc (.cells #[.int .i64 kind, .int .i64 m] 23)).alloc (.cells #[.bool tb, .int .i64 tm, .int .i64 tr] 70)).heap[w.heap.size]? = some (.cells #[.int .i64 kind, .int .i64 m] 23 (0, 0)) := by
      rw [Below.heap_alloc _ _ _ (by simp)]; exact heap_alloc_new _ _
    have HSS := hid (fun (W' : World) (hW : Keep (fun _ => False) ((w.alloc (.cells #[.int .i64 kind, .int .i64 m] 23)).alloc (.cells #[.bool tb, .int .i64 tm, .int .i64 tr] 70)) W') => order_test (hW.get OBX id) (hW.get (blk_second' w _ _ _ _) id))
    clear ha hb OBX
    by_cases hbig : (2147483647 : Int) < acts.length
    · have d1 : decide ((2147483647 : Int) < acts.length) = true := decide_eq_true hbig
      clear hall
      go_enter Try.func22, Try.ntmps22
      go_wp2_with (fail)
      go_ret
      exact ⟨rfl, K0.out.to_below⟩
    · have d1 : decide ((2147483647 : Int) < acts.length) = false := decide_eq_false hbig
      by_cases hbig3 : (2147483647 : Int) < more.length
      · have d2 : decide ((2147483647 : Int) < more.length) = true := decide_eq_true hbig3
        clear hall
        go_enter Try.func22, Try.ntmps22
        go_wp2_with (fail)
        go_ret
        exact ⟨rfl, K0.out.to_below⟩
      · have d2 : decide ((2147483647 : Int) < more.length) = false := decide_eq_false hbig3
        by_cases hp : kind = 0 ∨ kind = 1
        · rw [decide_eq_true hp] at PL
          by_cases h3 : (300 : Int) < acts.length
          · have d3 : decide ((300 : Int) < acts.length) = true := decide_eq_true h3
            clear hall hp
            go_enter Try.func22, Try.ntmps22
            go_wp2_with (first
              | (go_at_call 26; refine PL.out.mono ?_; rintro e w1 ⟨rfl, hk⟩; have K1 := hid hk; obtain ⟨⟨o0, o1⟩, ⟨t0, t1, t2⟩⟩ := HSS.out _ hk; clear hk)
              | (go_at_call 50; refine (TK.out _).mono ?_; rintro e w2 ⟨rfl, hk⟩; have K1 := hid (K1.out.trans hk); clear hk o0 o1 t0 t1 t2)
              | fail)
            go_ret
            exact ⟨rfl, (K0.out.trans K1.out).to_below⟩
          · have d3 : decide ((300 : Int) < acts.length) = false := decide_eq_false h3
            by_cases ht : 1 ≤ tm ∧ tm ≤ 1000
            · have d4 : decide ((300 : Int) < more.length) = true := decide_eq_true (Classical.byContradiction fun h4 => hall ⟨hp, by omega, ht, by omega⟩)
              rw [decide_eq_true ht] at TK
              clear hall hp ht
              go_enter Try.func22, Try.ntmps22
              go_wp2_with (first
                | (go_at_call 26; refine PL.out.mono ?_; rintro e w1 ⟨rfl, hk⟩; have K1 := hid hk; obtain ⟨⟨o0, o1⟩, ⟨t0, t1, t2⟩⟩ := HSS.out _ hk; clear hk)
                | (go_at_call 50; refine (TK.out _).mono ?_; rintro e w2 ⟨rfl, hk⟩; have K1 := hid (K1.out.trans hk); clear hk o0 o1 t0 t1 t2)
                | fail)
              go_ret
              exact ⟨rfl, (K0.out.trans K1.out).to_below⟩
            · rw [decide_eq_false ht] at TK
              clear hall hp ht
              go_enter Try.func22, Try.ntmps22
              go_wp2_with (first
                | (go_at_call 26; refine PL.out.mono ?_; rintro e w1 ⟨rfl, hk⟩; have K1 := hid hk; obtain ⟨⟨o0, o1⟩, ⟨t0, t1, t2⟩⟩ := HSS.out _ hk; clear hk)
                | (go_at_call 50; refine (TK.out _).mono ?_; rintro e w2 ⟨rfl, hk⟩; have K1 := hid (K1.out.trans hk); clear hk o0 o1 t0 t1 t2)
                | fail)
              go_ret
              exact ⟨rfl, (K0.out.trans K1.out).to_below⟩
        · rw [decide_eq_false hp] at PL
          clear hall hp
          go_enter Try.func22, Try.ntmps22
          go_wp2_with (first
            | (go_at_call 26; refine PL.out.mono ?_; rintro e w1 ⟨rfl, hk⟩; have K1 := hid hk; obtain ⟨⟨o0, o1⟩, ⟨t0, t1, t2⟩⟩ := HSS.out _ hk; clear hk)
            | (go_at_call 50; refine (TK.out _).mono ?_; rintro e w2 ⟨rfl, hk⟩; have K1 := hid (K1.out.trans hk); clear hk o0 o1 t0 t1 t2)
            | fail)
          go_ret
          exact ⟨rfl, (K0.out.trans K1.out).to_below⟩
end Go.Proofs.Ytdamfannmlncnaa
