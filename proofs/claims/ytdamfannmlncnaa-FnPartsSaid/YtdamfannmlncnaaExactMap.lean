/- Map returns a map of what a function makes of each pair: the walk of the law FnExactMap. -/
import Derived.Test.YtdamfannmlncnaaMapSel
import Derived.Test.YtdamfannmlncnaaPuts
import Derived.Test.YtdamfannmlncnaaFindAll
namespace Go.Proofs.Ytdamfannmlncnaa
open Go.RowKit
set_option linter.unusedVariables false
set_option linter.unusedSimpArgs false
attribute [local go_sem ↓] Go.wp_at_zero Go.wp_at_succ

theorem SRest_any (n m : Int) (h1 : 1 ≤ m) (h2 : m ≤ 1000) (w : World) : Calls Try.prog 42 #[.int .i64 n, .int .i64 m] w fun e w' => e = .returned (.int .i64 (n % m)) ∧ w = w' := by
  have C := hid (srest_any n m h1 h2 w)
  clear h1 h2
  go_enter Try.func42, Try.ntmps42
  go_wp2_with (fail)
  refine C.out.mono ?_
  rintro e w1 ⟨rfl, rfl⟩
  go_wp2_with (fail)
  go_ret
  exact ⟨rfl, rfl⟩

theorem pair_box (w : World) (x y : Int) : (w.alloc (.cells #[.int .i64 x, .int .i64 y] 57)).cell? ⟨w.heap.size, 0, none⟩ = some (.int .i64 x) ∧ (w.alloc (.cells #[.int .i64 x, .int .i64 y] 57)).cell? ⟨w.heap.size, 1, none⟩ = some (.int .i64 y) :=
  ⟨by rw [World.cell?_alloc_new]; rfl, by rw [World.cell?_alloc_new]; rfl⟩

set_option maxRecDepth 100000 in
set_option maxHeartbeats 3200000 in
theorem exactmap_main {w : World} {kind m bn : Int} {v : Value} {acts : List Act3} (ha : ActsIn w w.heap.size v acts) (hp : kind = 0 ∨ kind = 1) (hlen : acts.length ≤ 300) (h1 : 1 ≤ bn) (h2 : bn ≤ 1000) :
    Calls Try.prog 15 #[.agg #[.int .i64 kind, .int .i64 m], v, .int .i64 bn] w fun e w' => e = .returned (.bool true) ∧ Below w.heap.size w w' := by
  obtain ⟨ao, cap, rfl⟩ := ha.len
  have PL := hid (Plain_any kind m (w.alloc (.cells #[.int .i64 kind, .int .i64 m] 23)))
  rw [decide_eq_true hp] at PL
  have K0 := hid (show Keep (fun _ => False) w (w.alloc (.cells #[.int .i64 kind, .int .i64 m] 23)) from (Keep.refl _ _).alloc _)
  have HA := hid (ha.keep K0.out fun _ _ => id)
  have HOK := hid (OrdOk.plain hp : OrdOk kind m)
  have OC := hid (fun (W' : World) (hW : Keep (fun _ => False) (w.alloc (.cells #[.int .i64 kind, .int .i64 m] 23)) W') => ocells hW)
  have RS := hid (fun n W => SRest_any n bn h1 h2 W)
  have MM := hid (fun W (hW : Keep (fun _ => False) (w.alloc (.cells #[.int .i64 kind, .int .i64 m] 23)) W) => MapMap_any (bn := bn) h1 h2 HOK.out (HA.out.keep hW fun _ _ => id) (Nat.le_trans K0.out.size hW.size) (by omega : acts.length ≤ 100000))
  obtain ⟨i0, hi, hz0, hz1, hz2⟩ := info_parts info27
  have HI := hid (And.intro hi (And.intro hz0 (And.intro hz1 hz2)))
  obtain ⟨L, hL⟩ : ∃ L, L = runA (ordf kind m) acts := ⟨_, rfl⟩
  obtain ⟨n, hn⟩ : ∃ n, L.length = n := ⟨_, rfl⟩
  have hn3 : n ≤ 300 := by rw [← hn, hL]; have := runA_len (f := ordf kind m) acts; omega
  have RN : Hid (∀ W, Keep (fun _ => False) (w.alloc (.cells #[.int .i64 kind, .int .i64 m] 23)) W → Calls Try.prog 32 #[.agg #[.int .i64 kind, .int .i64 m], .slice ao acts.length cap] W fun e w' => ∃ sv, e = .returned sv ∧ RowIn w' w'.heap.size encP sv L ∧ (∃ a c, sv = .slice a n c) ∧ Keep (fun _ => False) W w' ∧ ∃ R, sv.ownBlock = R ∧ ∀ g, R = some g → W.heap.size ≤ g) :=
    fun W hW => (Run_any HOK.out ((HA.out.keep hW fun _ _ => id).mono (Nat.le_trans K0.out.size hW.size)) (by omega : acts.length ≤ 100000)).mono fun e w' ⟨sv, g1, g2, g3⟩ => ⟨sv, g1, by rw [hL]; exact RowIn.of_owns g2, by rw [← hn, hL]; exact owns_len g2, g3, _, rfl, fun g hg => (g2.lt g hg).1⟩
  rw [← hL] at MM
  have HN := hid hn
  obtain ⟨A, hA⟩ : ∃ A, A = mapA add64 bn L := ⟨_, rfl⟩
  have hAl : A.length = n := by rw [hA, mapA_len, hn]
  have HAL := hid (And.intro hA hAl)
  obtain ⟨M, hM⟩ : ∃ M, M = runA (ordf kind m) A := ⟨_, rfl⟩
  have HML := hid (show M.length ≤ 100000 by rw [hM]; have := runA_len (f := ordf kind m) A; omega)
  rw [← hA, ← hM] at MM
  have RN2 : Hid (∀ W W' s, ActsIn W W.heap.size s A → Keep (fun _ => False) W W' → Calls Try.prog 32 #[.agg #[.int .i64 kind, .int .i64 m], s] W' fun e w' => ∃ sv, e = .returned sv ∧ RowIn w' w'.heap.size encP sv M ∧ Keep (fun _ => False) W' w') := by
    intro W W' s hs hk
    rw [hM]
    exact run_on HOK.out hs (Nat.le_refl _) (by omega) W' hk
  clear ha hp hL hn HA hi hz0 hz1 hz2 hA hAl hM
  go_enter Try.func15, Try.ntmps15
  go_wp2_with (first
    | (go_at_call 26; refine PL.out.mono ?_; rintro e w1 ⟨rfl, hk⟩; have K1 := hid hk; obtain ⟨o0, o1⟩ := OC.out _ (hk.alloc (.cells #[] 27)); clear hk)
    | (go_at_call 32; refine (RN.out _ (K1.out.alloc _)).mono ?_; rintro e w2 ⟨sv, rfl, hs, hsl, hk, RB, hR1, hR2⟩; have KB := hid hk; have K2 := hid ((K1.out.alloc _).trans hk); have R2 := hid hs; have HRB := hid (And.intro hR1 hR2); obtain ⟨a2, c2, rfl⟩ := hsl; clear hs hk o0 o1 hR1 hR2)
    | fail)
  have ST : PutsRel w2 w1.heap.size w1.heap.size (mapA add64 bn (L.take 0)) (.slice (some ⟨w1.heap.size, 0, none⟩) 0 0) w2 :=
    ⟨ownsRow.on (owns_empty w1 27 3 _ rfl _ (Nat.le_refl _)) KB.out, fun g hg => .inl (Option.some.inj hg).symm, Keep.refl _ _⟩
  have ST := hid ST
  have GB := hid (show w1.heap.size < w2.heap.size by have := KB.out.size; simp at this; omega)
  go_loopw [7, 34] (fun s i wr => ∃ k : Nat, k ≤ n ∧ i = .int .i64 k ∧ PutsRel w2 w1.heap.size w1.heap.size (mapA add64 bn (L.take k)) s wr) (fun _ i _ => n - (intOf i).toNat)
  case atStart => exact ⟨0, Nat.zero_le _, rfl, ST.out⟩
  case round =>
    obtain ⟨k, hk, rfl, hrel⟩ := hrel
    have HR := hid hrel
    clear hrel
    by_cases hlt : k < n
    · obtain ⟨e0, he0⟩ : ∃ e0, L[k]? = some e0 := ⟨_, List.getElem?_eq_getElem (by rw [HN.out]; exact hlt)⟩
      have htk := take_at he0
      obtain ⟨x, y⟩ := e0
      obtain ⟨b, off, ha2, hc0, hc1⟩ := row_at' R2.out he0
      subst ha2
      have hbg : b ≠ w1.heap.size := by
        have h1 := HRB.out.2 b (by rw [← HRB.out.1]; rfl)
        simp at h1
        omega
      have c0 := HR.out.keep.cell hc0 hbg
      have c1 := HR.out.keep.cell hc1 hbg
      have hlk : (mapA add64 bn (L.take k)).length = k := by rw [mapA_len, List.length_take, HN.out]; omega
      have HE := hid (And.intro htk hlk)
      have ADD := hid (IntWalk.i64_left (y + x))
      have ADD : Hid (IntKind.i64.wrap (y + x) = add64 y x) := ADD
      have PB := hid (pair_box wr x y)
      have R1 := hid (RS.out x)
      have HNE := hid (show ¬ u7.ownBlock = some wr.heap.size from fun e => by have := (HR.out.row.lt _ e).2; omega)
      have KX := hid (HR.out.keepB ((Keep.refl (fun _ => False) w1).alloc (.cells #[] 27) |>.trans KB.out) (Nat.le_refl _))
      clear he0 htk hc0 hc1 hlk hbg
      go_wp2_with (fail)
      go_region_held3 (fun w' => w'.cell? ⟨wr.heap.size, 0, none⟩ = some (.int .i64 x) ∧ w'.cell? ⟨wr.heap.size, 1, none⟩ = some (.int .i64 y))
        (first
          | exact PB.out
          | (refine ⟨Keep.cell (w := wr.alloc (.cells #[.int .i64 x, .int .i64 y] 57)) (S := fun i => u7.ownBlock = some i) ?_ PB.out.1 HNE.out, Keep.cell (w := wr.alloc (.cells #[.int .i64 x, .int .i64 y] 57)) (S := fun i => u7.ownBlock = some i) ?_ PB.out.2 HNE.out⟩ <;> ((repeat (first | exact Keep.refl _ _ | exact K5.out | apply Keep.drew | apply Keep.alloc | apply Keep.drewN)); done))
          | fail)
        (first
          | ((with_reducible refine slot_guard ⟨some 50, _, _, _, _, _⟩ ?_); refine step_app_at rfl (.tmp 38) (.tmp 49) 24 rfl w1.heap.size 27 i0 _ 3 24 Try.underlying24 HI.out.1 HI.out.2.1 HI.out.2.2.1 HI.out.2.2.2 rfl (by decide) _ k _ rfl (by have h := HR.out.row; rw [HE.out.2] at h; (repeat (first | exact h | apply owns_drew | apply World.ownsRow.alloc)); done) _ 1 _ (encA (1, x % bn, add64 y x)) rfl (by rfl) (blk_src (o := 1) (k := x % bn) (v := add64 y x) (by rw [← ADD.out]; exact blk_2 wr _ _)) (encA_one _) (by unfold maxLen; omega) (by omega) (by have := KX.out.size; simp; omega) ?_; intro v5 w5 hown hgr hat; have K5 := hid (show Keep (fun i => u7.ownBlock = some i) (wr.alloc (.cells #[.int .i64 x, .int .i64 y] 57)) w5 from Keep.trans (by (repeat (first | exact Keep.refl _ _ | apply Keep.drew | apply Keep.alloc | apply Keep.drewN)); done) (Keep.grown hgr fun k hk _ => hk)); have O5 := hid (PutsRel.app (A := mapA add64 bn (L.take k)) (o := 1) (k := x % bn) (v := add64 y x) (HR.out.on (by (repeat (first | apply Keep.drew | apply Keep.alloc | apply Keep.drewN)); exact Keep.refl _ _)) (by rw [HE.out.2]; exact hown) hgr hat); clear hown hgr hat)
          | (go_at_call 42; refine (R1.out _).mono ?_; rintro e w4 ⟨rfl, rfl⟩)
          | fail)
      all_goals
        (try go_wp2_with (fail))
        go_roundw
        case rel => exact ⟨k + 1, by omega, by go_num, by rw [mapA_step HE.out.1]; exact O5.out⟩
        case measure => simp [intOf]; omega
    · obtain rfl : n = k := by omega
      have HP := hid (show PutsRel w2 w1.heap.size w1.heap.size A u7 wr by have h := HR.out; rw [List.take_of_length_le (by rw [HN.out]; omega), ← HAL.out.1] at h; exact h)
      have K3 := hid (K1.out.trans (HP.out.keepB ((Keep.refl (fun _ => False) w1).alloc (.cells #[] 27) |>.trans KB.out) (Nat.le_refl _)))
      have AC := hid HP.out.acts
      have HO := hid (OC.out _ K3.out)
      go_wp2_with (fail)
      go_region_held3 (fun w' => w'.cell? ⟨w.heap.size, 0, none⟩ = some (.int .i64 kind) ∧ w'.cell? ⟨w.heap.size, 1, none⟩ = some (.int .i64 m))
        (first
          | exact HO.out
          | exact ⟨K4.out.cell HO.out.1 id, K4.out.cell HO.out.2 id⟩
          | exact ⟨K5.out.cell HO.out.1 id, K5.out.cell HO.out.2 id⟩
          | exact ⟨K6.out.cell HO.out.1 id, K6.out.cell HO.out.2 id⟩
          | exact ⟨K7.out.cell HO.out.1 id, K7.out.cell HO.out.2 id⟩
          | exact ⟨K8.out.cell HO.out.1 id, K8.out.cell HO.out.2 id⟩
          | fail)
        (first
          | (go_at_call 43; refine (MM.out _ (by first | exact K3.out | exact K3.out.drew | exact K3.out.drewN _ | fail)).mono ?_; rintro e w4 ⟨sv1, rfl, hs, hk⟩; have R4 := hid (hs.mono (Nat.zero_le _)); have K4 := hid (show Keep (fun _ => False) wr w4 from (by first | exact hk | exact hk.undrew | exact hk.undrewN | fail)); clear hs hk)
          | (go_at_call 32; refine (RN2.out _ _ _ AC.out (by first | exact K4.out | exact K4.out.drew | exact K4.out.drewN _ | fail)).mono ?_; rintro e w5 ⟨sv2, rfl, hs, hk⟩; have R5 := hid hs; have K5 := hid (K4.out.trans (by first | exact hk | exact hk.undrew | exact hk.undrewN | fail)); have S5 := hid (R4.out.on (by first | exact hk | exact hk.undrew | exact hk.undrewN | fail)); clear hs hk)
          | (go_at_call 36; refine (State_any (RowIn.on R5.out (by first | exact Keep.refl _ _ | exact (Keep.refl _ _).drew | exact (Keep.refl _ _).drewN _ | fail)) (by have := HML.out; omega)).mono ?_; rintro e w6 ⟨sv3, rfl, hs, hk⟩; have R6 := hid (hs.mono (Nat.zero_le _)); have K6 := hid (K5.out.trans (by first | exact hk | exact hk.undrew | exact hk.undrewN | fail)); have S6 := hid (S5.out.on (by first | exact hk | exact hk.undrew | exact hk.undrewN | fail)); clear hs hk)
          | (go_at_call 29; refine (sameState_any (by first | exact S6.out | exact S6.out.on ((Keep.refl _ _).drew) | fail) (by first | exact R6.out | exact R6.out.on ((Keep.refl _ _).drew) | fail) (by have := HML.out; omega)).mono ?_; rintro e w7 ⟨rfl, hk⟩; have K7 := hid (K6.out.trans (by first | exact hk | exact hk.undrew | exact hk.undrewN | fail)); clear hk)
          | (go_at_call 31; refine (keeps_any _).mono ?_; rintro e w8 ⟨rfl, hk⟩; have K8 := hid (K7.out.trans (by first | exact hk | exact hk.undrew | exact hk.undrewN | fail)); clear hk)
          | fail)
      all_goals
        (try go_wp2_with (fail))
        go_ret
        exact ⟨rfl, (K0.out.trans (K3.out.trans K8.out)).to_below⟩

set_option maxRecDepth 100000 in
set_option maxHeartbeats 1600000 in
theorem fnExactMap_walk {w : World} (kind m : Int) (v : Value) (acts : List Act3) (ha : ActsIn w w.heap.size v acts) (hn : acts.length ≤ maxLen) (bn : Int) :
    Calls Try.prog 15 #[.agg #[.int .i64 kind, .int .i64 m], v, .int .i64 bn] w fun e w' => e = .returned (.bool true) ∧ Below w.heap.size w w' := by
  unfold maxLen at hn
  by_cases hall : (kind = 0 ∨ kind = 1) ∧ acts.length ≤ 300 ∧ 1 ≤ bn ∧ bn ≤ 1000
  · exact exactmap_main ha hall.1 hall.2.1 hall.2.2.1 hall.2.2.2
  · obtain ⟨ao, cap, rfl⟩ := ha.len
    have PL := hid (Plain_any kind m (w.alloc (.cells #[.int .i64 kind, .int .i64 m] 23)))
    clear ha
    by_cases hbig : (2147483647 : Int) < acts.length
    · clear hall
      go_enter Try.func15, Try.ntmps15
      go_wp2_with (fail)
      go_ret
      exact ⟨rfl, (Below.refl _ _).alloc (Nat.le_refl _) _⟩
    · by_cases hp : kind = 0 ∨ kind = 1
      · rw [decide_eq_true hp] at PL
        by_cases h3 : (300 : Int) < acts.length
        · clear hall hp
          go_enter Try.func15, Try.ntmps15
          go_wp2_with (go_at_call 26; refine PL.out.mono ?_; rintro e w1 ⟨rfl, hk⟩; have K1 := hid (((Keep.refl (fun _ => False) w).alloc _).trans hk); clear hk)
          go_ret
          exact ⟨rfl, K1.out.to_below⟩
        · by_cases h4 : bn < 1
          · clear hall hp
            go_enter Try.func15, Try.ntmps15
            go_wp2_with (go_at_call 26; refine PL.out.mono ?_; rintro e w1 ⟨rfl, hk⟩; have K1 := hid (((Keep.refl (fun _ => False) w).alloc _).trans hk); clear hk)
            go_ret
            exact ⟨rfl, K1.out.to_below⟩
          · have h5 : 1000 < bn := by
              refine Classical.byContradiction fun h5 => hall ⟨hp, by omega, by omega, by omega⟩
            clear hall hp
            go_enter Try.func15, Try.ntmps15
            go_wp2_with (go_at_call 26; refine PL.out.mono ?_; rintro e w1 ⟨rfl, hk⟩; have K1 := hid (((Keep.refl (fun _ => False) w).alloc _).trans hk); clear hk)
            go_ret
            exact ⟨rfl, K1.out.to_below⟩
      · rw [decide_eq_false hp] at PL
        clear hall hp
        go_enter Try.func15, Try.ntmps15
        go_wp2_with (go_at_call 26; refine PL.out.mono ?_; rintro e w1 ⟨rfl, hk⟩; have K1 := hid (((Keep.refl (fun _ => False) w).alloc _).trans hk); clear hk)
        go_ret
        exact ⟨rfl, K1.out.to_below⟩
end Go.Proofs.Ytdamfannmlncnaa
