/- Two different keys are put in, and taken out, in either order: the walk of the law FnCommute. -/
import Derived.Test.YtdamfannmlncnaaApp
import Derived.Test.YtdamfannmlncnaaLaws
import Derived.Deep.DrawnRows
namespace Go.Proofs.Ytdamfannmlncnaa
open Go.RowKit
set_option linter.unusedVariables false
set_option linter.unusedSimpArgs false
attribute [local go_sem ↓] Go.wp_at_zero Go.wp_at_succ

def ordBox (w : World) (kind m : Int) (x y : Act3) : World :=
  ((w.alloc (.cells #[.int .i64 kind, .int .i64 m] 23)).alloc (.cells #[.int .i64 x.1, .int .i64 x.2.1, .int .i64 x.2.2] 27)).alloc (.cells #[.int .i64 y.1, .int .i64 y.2.1, .int .i64 y.2.2] 27)

theorem box_heap (w : World) (kind m : Int) (x y : Act3) :
    (ordBox w kind m x y).heap[w.heap.size]? = some (.cells #[.int .i64 kind, .int .i64 m] 23 (0, 0)) ∧
    (ordBox w kind m x y).heap[w.heap.size + 1]? = some (.cells #[.int .i64 x.1, .int .i64 x.2.1, .int .i64 x.2.2] 27 (0, 0)) ∧
    (ordBox w kind m x y).heap[w.heap.size + 2]? = some (.cells #[.int .i64 y.1, .int .i64 y.2.1, .int .i64 y.2.2] 27 (0, 0)) := by
  unfold ordBox
  refine ⟨?_, ?_, ?_⟩
  · rw [Below.heap_alloc _ _ _ (by simp; omega), Below.heap_alloc _ _ _ (by simp)]; exact heap_alloc_new w _
  · rw [Below.heap_alloc _ _ _ (by simp)]
    have := heap_alloc_new (w.alloc (.cells #[.int .i64 kind, .int .i64 m] 23)) (.cells #[.int .i64 x.1, .int .i64 x.2.1, .int .i64 x.2.2] 27)
    simpa using this
  · have := heap_alloc_new ((w.alloc (.cells #[.int .i64 kind, .int .i64 m] 23)).alloc (.cells #[.int .i64 x.1, .int .i64 x.2.1, .int .i64 x.2.2] 27)) (.cells #[.int .i64 y.1, .int .i64 y.2.1, .int .i64 y.2.2] 27)
    simpa using this
theorem box_cells {w w' : World} {kind m : Int} {x y : Act3} (h : Keep (fun _ => False) (ordBox w kind m x y) w') :
    (w'.cell? ⟨w.heap.size, 0, none⟩ = some (.int .i64 kind) ∧ w'.cell? ⟨w.heap.size, 1, none⟩ = some (.int .i64 m)) ∧
    (w'.cell? ⟨w.heap.size + 1, 0, none⟩ = some (.int .i64 x.1) ∧ w'.cell? ⟨w.heap.size + 1, 1, none⟩ = some (.int .i64 x.2.1) ∧ w'.cell? ⟨w.heap.size + 1, 2, none⟩ = some (.int .i64 x.2.2)) ∧
    (w'.cell? ⟨w.heap.size + 2, 0, none⟩ = some (.int .i64 y.1) ∧ w'.cell? ⟨w.heap.size + 2, 1, none⟩ = some (.int .i64 y.2.1) ∧ w'.cell? ⟨w.heap.size + 2, 2, none⟩ = some (.int .i64 y.2.2)) := by
  obtain ⟨h1, h2, h3⟩ := box_heap w kind m x y
  have h1 := h.get h1 id
  have h2 := h.get h2 id
  have h3 := h.get h3 id
  simp [World.cell?, h1, h2, h3]

theorem box6 {w w' : World} {kind m : Int} {x y : Act3} (h : Keep (fun _ => False) (ordBox w kind m x y) w') :
    w'.cell? ⟨w.heap.size + 1, 0, none⟩ = some (.int .i64 x.1) ∧ w'.cell? ⟨w.heap.size + 1, 1, none⟩ = some (.int .i64 x.2.1) ∧ w'.cell? ⟨w.heap.size + 1, 2, none⟩ = some (.int .i64 x.2.2) ∧
    w'.cell? ⟨w.heap.size + 2, 0, none⟩ = some (.int .i64 y.1) ∧ w'.cell? ⟨w.heap.size + 2, 1, none⟩ = some (.int .i64 y.2.1) ∧ w'.cell? ⟨w.heap.size + 2, 2, none⟩ = some (.int .i64 y.2.2) := by
  obtain ⟨-, ⟨h1, h2, h3⟩, ⟨h4, h5, h6⟩⟩ := box_cells h
  exact ⟨h1, h2, h3, h4, h5, h6⟩
theorem acts_two {w : World} {b n : Nat} {v : Value} {xs : List Act3} {x y : Act3} (h : w.ownsRow b 27 3 v (0 + n + 2) ([] ++ xs.flatMap encA ++ [.int .i64 x.1, .int .i64 x.2.1, .int .i64 x.2.2, .int .i64 y.1, .int .i64 y.2.1, .int .i64 y.2.2])) : w.ownsRow b 27 3 v (n + 2) ((xs ++ [x, y]).flatMap encA) := by
  simpa [List.flatMap_append, encA] using h
theorem acts_in2 {w : World} {b : Nat} {v : Value} {xs : List Act3} {x y : Act3} (h : w.ownsRow b 27 3 v (xs.length + 2) ((xs ++ [x, y]).flatMap encA)) : ActsIn w w.heap.size v (xs ++ [x, y]) :=
  RowIn.of_owns (sz := 3) (base := b) (e := 27) (by simpa using h)

set_option maxRecDepth 100000 in
set_option maxHeartbeats 3200000 in
theorem commute_main {w : World} {kind m : Int} {v1 : Value} {xs1 : List Act3} {o1 k1 p1 o2 k2 p2 : Int} (ha : ActsIn w w.heap.size v1 xs1) (hp : kind = 0 ∨ kind = 1) (hl1 : xs1.length ≤ 300) (hk : k1 ≠ k2) (h1 : o1 ≠ 3) (h2 : o2 ≠ 3) :
    Calls Try.prog 6 #[.agg #[.int .i64 kind, .int .i64 m], v1, .agg #[.int .i64 o1, .int .i64 k1, .int .i64 p1], .agg #[.int .i64 o2, .int .i64 k2, .int .i64 p2]] w fun e w' => e = .returned (.bool true) ∧ Below w.heap.size w w' := by
  obtain ⟨a1, c1, rfl⟩ := ha.len
  have PL := hid (Plain_any kind m (ordBox w kind m (o1, k1, p1) (o2, k2, p2)))
  rw [decide_eq_true hp] at PL
  unfold ordBox at PL
  have K0 := hid (show Keep (fun _ => False) w (ordBox w kind m (o1, k1, p1) (o2, k2, p2)) from (((Keep.refl _ _).alloc _).alloc _).alloc _)
  have HA := hid (ha.keep K0.out fun _ _ => id)
  have HP := hid hp
  have b1 : (k1 == k2) = false := by simpa using hk
  have b2 : (o1 == 3) = false := by simpa using h1
  have b3 : (o2 == 3) = false := by simpa using h2
  have HN := hid (And.intro hk (And.intro h1 h2))
  obtain ⟨i0, hi, hz0, hz1, hz2⟩ := info_parts info27
  have HI := hid (And.intro hi (And.intro hz0 (And.intro hz1 hz2)))
  have HS0 := hid K0.out.size
  clear hi hz0 hz1 hz2 ha hp hk h1 h2
  go_enter Try.func6, Try.ntmps6
  go_upto_region 5 with (go_at_call 26; refine PL.out.mono ?_; rintro e w1 ⟨rfl, hk⟩; have K1 := hid (show Keep (fun _ => False) (ordBox w kind m (o1, k1, p1) (o2, k2, p2)) w1 from hk); clear hk; obtain ⟨⟨q00, q01⟩, ⟨q10, q11, q12⟩, ⟨q20, q21, q22⟩⟩ := box_cells K1.out)
  go_cut [9] (fun s wx => wx.ownsRow w1.heap.size 27 3 s (xs1.length + 2) ((xs1 ++ [(o1, k1, p1), (o2, k2, p2)]).flatMap encA) ∧ Keep (fun _ => False) w1 wx)
  case first =>
    go_region_held3 (fun w' => w'.cell? ⟨w.heap.size + 1, 0, none⟩ = some (.int .i64 o1) ∧ w'.cell? ⟨w.heap.size + 1, 1, none⟩ = some (.int .i64 k1) ∧ w'.cell? ⟨w.heap.size + 1, 2, none⟩ = some (.int .i64 p1) ∧ w'.cell? ⟨w.heap.size + 2, 0, none⟩ = some (.int .i64 o2) ∧ w'.cell? ⟨w.heap.size + 2, 1, none⟩ = some (.int .i64 k2) ∧ w'.cell? ⟨w.heap.size + 2, 2, none⟩ = some (.int .i64 p2))
      (first
        | (refine box6 (w := w) (kind := kind) (m := m) (x := (o1, k1, p1)) (y := (o2, k2, p2)) (K1.out.trans ?_); ((repeat (first | apply Keep.drew | apply Keep.alloc | apply Keep.drewN)); (first | exact Q5.out | exact Q4.out | exact Keep.refl _ _ | fail)))
        | fail)
      (first
        | ((with_reducible refine slot_guard ⟨some 41, _, _, _, _, _⟩ ?_); refine step_appk w1 (by ((repeat (first | apply Keep.drew | apply Keep.alloc | apply Keep.drewN)); (first | exact Q4.out | exact Keep.refl _ _ | fail))) rfl (.tmp 39) (.tmp 40) 24 rfl 27 i0 _ 3 24 Try.underlying24 HI.out.1 HI.out.2.1 HI.out.2.2.1 HI.out.2.2.2 rfl (by decide) _ 0 [] rfl (by (repeat (first | apply owns_drew | exact owns_empty _ _ _ _ (by simp) _ (by simp) | apply World.ownsRow.alloc)); done) _ xs1.length _ rfl ((HA.out.keep (K1.out.trans (by ((repeat (first | apply Keep.drew | apply Keep.alloc | apply Keep.drewN)); (first | exact Q4.out | exact Keep.refl _ _ | fail)))) fun _ _ => id).src encA_len encA_one) (by unfold maxLen; omega) (by omega) ?_; intro v4 w4 hown hkp hgr; have O4 := hid hown; have Q4 := hid hkp; have G4 := hid hgr; clear hown hgr hkp)
        | ((with_reducible refine slot_guard ⟨some 45, _, _, _, _, _⟩ ?_); refine step_appk w1 (by ((repeat (first | apply Keep.drew | apply Keep.alloc | apply Keep.drewN)); (first | exact Q4.out | exact Keep.refl _ _ | fail))) rfl (.tmp 41) (.tmp 44) 24 rfl 27 i0 _ 3 24 Try.underlying24 HI.out.1 HI.out.2.1 HI.out.2.2.1 HI.out.2.2.2 rfl (by decide) _ (0 + xs1.length) _ rfl (by (repeat (first | exact O4.out | apply owns_drew | apply World.ownsRow.alloc)); done) _ 2 _ rfl (src_blk (cs := #[.int .i64 o1, .int .i64 k1, .int .i64 p1, .int .i64 o2, .int .i64 k2, .int .i64 p2]) (e := 27) (fr := (0, 0)) (by first | exact heap_alloc_new w4 _ | ((refine (G4.out _ (by intro h; first | (replace h : some w1.heap.size = some (w1.heap.size + 1) := h; simp at h; done) | (replace h : some (w1.heap.size + 1) = some w1.heap.size := h; simp at h; done) | fail) (by (try simp) <;> (try omega))).trans ?_); (first | exact blk_second w1 _ _ _ | exact blk_first w1 _ _ _ | fail)) | fail) 2 (by rfl) (by simp [Value.oneCell'])) (by unfold maxLen; omega) (by omega) ?_; intro v5 w5 hown hkp hgr; have O5 := hid hown; have Q5 := hid hkp; clear hown hgr hkp)
        | fail)
    all_goals (go_wp2_with (fail); go_meet; exact ⟨acts_two O5.out, Q5.out⟩)
  case rest =>
    obtain ⟨hco, hck⟩ := hcut
    have AX := hid (acts_in2 hco)
    have K2 := hid (K1.out.trans hck)
    clear hco hck q00 q01 q10 q11 q12 q20 q21 q22
    go_wp2_with (fail)
    go_cut [10] (fun s wx => wx.ownsRow wc.heap.size 27 3 s (xs1.length + 2) ((xs1 ++ [(o2, k2, p2), (o1, k1, p1)]).flatMap encA) ∧ Keep (fun _ => False) wc wx)
    case first =>
      go_region_held3 (fun w' => w'.cell? ⟨w.heap.size + 1, 0, none⟩ = some (.int .i64 o1) ∧ w'.cell? ⟨w.heap.size + 1, 1, none⟩ = some (.int .i64 k1) ∧ w'.cell? ⟨w.heap.size + 1, 2, none⟩ = some (.int .i64 p1) ∧ w'.cell? ⟨w.heap.size + 2, 0, none⟩ = some (.int .i64 o2) ∧ w'.cell? ⟨w.heap.size + 2, 1, none⟩ = some (.int .i64 k2) ∧ w'.cell? ⟨w.heap.size + 2, 2, none⟩ = some (.int .i64 p2))
        (first
          | (refine box6 (w := w) (kind := kind) (m := m) (x := (o1, k1, p1)) (y := (o2, k2, p2)) (K2.out.trans ?_); ((repeat (first | apply Keep.drew | apply Keep.alloc | apply Keep.drewN)); (first | exact Q5.out | exact Q4.out | exact Keep.refl _ _ | fail)))
          | fail)
        (first
          | ((with_reducible refine slot_guard ⟨some 48, _, _, _, _, _⟩ ?_); refine step_appk wc (by ((repeat (first | apply Keep.drew | apply Keep.alloc | apply Keep.drewN)); (first | exact Q4.out | exact Keep.refl _ _ | fail))) rfl (.tmp 46) (.tmp 47) 24 rfl 27 i0 _ 3 24 Try.underlying24 HI.out.1 HI.out.2.1 HI.out.2.2.1 HI.out.2.2.2 rfl (by decide) _ 0 [] rfl (by (repeat (first | apply owns_drew | exact owns_empty _ _ _ _ (by simp) _ (by simp) | apply World.ownsRow.alloc)); done) _ xs1.length _ rfl ((HA.out.keep (K2.out.trans (by ((repeat (first | apply Keep.drew | apply Keep.alloc | apply Keep.drewN)); (first | exact Q4.out | exact Keep.refl _ _ | fail)))) fun _ _ => id).src encA_len encA_one) (by unfold maxLen; omega) (by omega) ?_; intro v4 w4 hown hkp hgr; have O4 := hid hown; have Q4 := hid hkp; have G4 := hid hgr; clear hown hgr hkp)
          | ((with_reducible refine slot_guard ⟨some 52, _, _, _, _, _⟩ ?_); refine step_appk wc (by ((repeat (first | apply Keep.drew | apply Keep.alloc | apply Keep.drewN)); (first | exact Q4.out | exact Keep.refl _ _ | fail))) rfl (.tmp 48) (.tmp 51) 24 rfl 27 i0 _ 3 24 Try.underlying24 HI.out.1 HI.out.2.1 HI.out.2.2.1 HI.out.2.2.2 rfl (by decide) _ (0 + xs1.length) _ rfl (by (repeat (first | exact O4.out | apply owns_drew | apply World.ownsRow.alloc)); done) _ 2 _ rfl (src_blk (cs := #[.int .i64 o2, .int .i64 k2, .int .i64 p2, .int .i64 o1, .int .i64 k1, .int .i64 p1]) (e := 27) (fr := (0, 0)) (by first | exact heap_alloc_new w4 _ | ((refine (G4.out _ (by intro h; first | (replace h : some wc.heap.size = some (wc.heap.size + 1) := h; simp at h; done) | (replace h : some (wc.heap.size + 1) = some wc.heap.size := h; simp at h; done) | fail) (by (try simp) <;> (try omega))).trans ?_); (first | exact blk_second wc _ _ _ | exact blk_first wc _ _ _ | fail)) | fail) 2 (by rfl) (by simp [Value.oneCell'])) (by unfold maxLen; omega) (by omega) ?_; intro v5 w5 hown hkp hgr; have O5 := hid hown; have Q5 := hid hkp; clear hown hgr hkp)
          | fail)
      all_goals (go_wp2_with (fail); go_meet; exact ⟨acts_two O5.out, Q5.out⟩)
    case rest =>
      obtain ⟨hco, hck⟩ := hcut
      have AY := hid (acts_in2 hco)
      have AZ := hid (AX.out.keep hck fun i hi => id)
      have K3 := hid (K2.out.trans hck)
      have KS := hid hck.size
      clear hco hck
      have HOK := hid (OrdOk.plain (m := m) HP.out)
      have ST1 := hid (mapState_on HOK.out AZ.out KS.out (by simp; omega))
      have ST2 := hid (mapState_on HOK.out AY.out (Nat.le_refl _) (by simp; omega))
      rw [runA_comm xs1 (a := (o2, k2, p2)) (b := (o1, k1, p1)) HN.out.2.2 HN.out.2.1 (fun e => HN.out.1 (ordf_inj HP.out e).symm)] at ST2
      obtain ⟨L, hL⟩ : ∃ L, L = runA (ordf kind m) (xs1 ++ [(o1, k1, p1), (o2, k2, p2)]) := ⟨_, rfl⟩
      have HL := hid (show L.length ≤ 1000000 by rw [hL]; have := runA_len (f := ordf kind m) (xs1 ++ [(o1, k1, p1), (o2, k2, p2)]); simp at this; omega)
      rw [← hL] at ST1 ST2
      have HO := hid (box_cells K3.out).1
      clear hL
      go_wp2_with (fail)
      go_region_held3 (fun w' => w'.cell? ⟨w.heap.size, 0, none⟩ = some (.int .i64 kind) ∧ w'.cell? ⟨w.heap.size, 1, none⟩ = some (.int .i64 m))
        (first
          | exact HO.out
          | exact ⟨K5.out.cell HO.out.1 id, K5.out.cell HO.out.2 id⟩
          | exact ⟨K6.out.cell HO.out.1 id, K6.out.cell HO.out.2 id⟩
          | exact ⟨K7.out.cell HO.out.1 id, K7.out.cell HO.out.2 id⟩
          | exact ⟨K8.out.cell HO.out.1 id, K8.out.cell HO.out.2 id⟩
          | fail)
        (first
          | (go_at_call 31; refine (keeps_any _).mono ?_; rintro e w8 ⟨rfl, hk⟩; have K8 := hid (K7.out.trans (by first | exact hk | exact hk.undrew | exact hk.undrewN | fail)); clear hk)
          | (go_at_call 29; refine (sameState_any (by first | exact R7.out | exact R7.out.on ((Keep.refl _ _).drew) | fail) (by first | exact R6.out | exact R6.out.on ((Keep.refl _ _).drew) | fail) HL.out).mono ?_; rintro e w7 ⟨rfl, hk⟩; have K7 := hid (K6.out.trans (by first | exact hk | exact hk.undrew | exact hk.undrewN | fail)); clear hk)
          | (go_at_call 30; refine (ST1.out _ (by first | exact (Keep.refl _ _) | exact (Keep.refl _ _).drew | exact (Keep.refl _ _).drewN _ | fail)).mono ?_; rintro e w5 ⟨sv1, rfl, hs, hk⟩; have R5 := hid hs; have K5 := hid (show Keep (fun _ => False) wc w5 from (by first | exact hk | exact hk.undrew | exact hk.undrewN | fail)); clear hs hk)
          | (go_at_call 30; refine (ST2.out _ (by first | exact K5.out | exact K5.out.drew | exact K5.out.drewN _ | fail)).mono ?_; rintro e w6 ⟨sv2, rfl, hs, hk⟩; have R6 := hid hs; have K6 := hid (K5.out.trans (by first | exact hk | exact hk.undrew | exact hk.undrewN | fail)); have R7 := hid (R5.out.on (by first | exact hk | exact hk.undrew | exact hk.undrewN | fail)); clear hs hk)
          | fail)
      go_wp2_with (fail)
      go_ret
      exact ⟨rfl, (K0.out.trans (K3.out.trans K8.out)).to_below⟩

set_option maxRecDepth 100000 in
set_option maxHeartbeats 1600000 in
theorem fnCommute_walk {w : World} (kind m : Int) (v : Value) (acts : List Act3) (ha : ActsIn w w.heap.size v acts) (hn : acts.length ≤ maxLen) (x y : Act3) :
    Calls Try.prog 6 #[.agg #[.int .i64 kind, .int .i64 m], v, .agg #[.int .i64 x.1, .int .i64 x.2.1, .int .i64 x.2.2], .agg #[.int .i64 y.1, .int .i64 y.2.1, .int .i64 y.2.2]] w fun e w' => e = .returned (.bool true) ∧ Below w.heap.size w w' := by
  obtain ⟨o1, k1, p1⟩ := x
  obtain ⟨o2, k2, p2⟩ := y
  simp only
  unfold maxLen at hn
  have K0 := hid (show Keep (fun _ => False) w (ordBox w kind m (o1, k1, p1) (o2, k2, p2)) from (((Keep.refl _ _).alloc _).alloc _).alloc _)
  have PL := hid (Plain_any kind m (ordBox w kind m (o1, k1, p1) (o2, k2, p2)))
  by_cases hall : (kind = 0 ∨ kind = 1) ∧ acts.length ≤ 300 ∧ k1 ≠ k2 ∧ o1 ≠ 3 ∧ o2 ≠ 3
  · exact commute_main ha hall.1 hall.2.1 hall.2.2.1 hall.2.2.2.1 hall.2.2.2.2
  · obtain ⟨a1, c1, rfl⟩ := ha.len
    clear ha
    by_cases hbig : (2147483647 : Int) < acts.length
    · have d1 : decide ((2147483647 : Int) < acts.length) = true := decide_eq_true hbig
      clear hall
      go_enter Try.func6, Try.ntmps6
      go_wp2_with (fail)
      go_ret
      exact ⟨rfl, K0.out.to_below⟩
    · have d1 : decide ((2147483647 : Int) < acts.length) = false := decide_eq_false hbig
      by_cases hp : kind = 0 ∨ kind = 1
      · rw [decide_eq_true hp] at PL
        unfold ordBox at PL
        by_cases h3 : (300 : Int) < acts.length
        · have d3 : decide ((300 : Int) < acts.length) = true := decide_eq_true h3
          clear hall hp
          go_enter Try.func6, Try.ntmps6
          go_wp2_with (go_at_call 26; refine PL.out.mono ?_; rintro e w1 ⟨rfl, hk⟩; have K1 := hid (show Keep (fun _ => False) (ordBox w kind m (o1, k1, p1) (o2, k2, p2)) w1 from hk); clear hk; obtain ⟨⟨q00, q01⟩, ⟨q10, q11, q12⟩, ⟨q20, q21, q22⟩⟩ := box_cells K1.out)
          go_ret
          exact ⟨rfl, (K0.out.trans K1.out).to_below⟩
        · have d3 : decide ((300 : Int) < acts.length) = false := decide_eq_false h3
          have hl3 : acts.length ≤ 300 := by omega
          by_cases hk : k1 = k2
          · subst hk
            clear hall hp
            go_enter Try.func6, Try.ntmps6
            go_wp2_with (go_at_call 26; refine PL.out.mono ?_; rintro e w1 ⟨rfl, hk⟩; have K1 := hid (show Keep (fun _ => False) (ordBox w kind m (o1, k1, p1) (o2, k1, p2)) w1 from hk); clear hk; obtain ⟨⟨q00, q01⟩, ⟨q10, q11, q12⟩, ⟨q20, q21, q22⟩⟩ := box_cells K1.out)
            go_ret
            exact ⟨rfl, (K0.out.trans K1.out).to_below⟩
          · have b1 : (k1 == k2) = false := by simpa using hk
            by_cases h1 : o1 = 3
            · subst h1
              clear hall hp hk
              go_enter Try.func6, Try.ntmps6
              go_wp2_with (go_at_call 26; refine PL.out.mono ?_; rintro e w1 ⟨rfl, hk⟩; have K1 := hid (show Keep (fun _ => False) (ordBox w kind m (3, k1, p1) (o2, k2, p2)) w1 from hk); clear hk; obtain ⟨⟨q00, q01⟩, ⟨q10, q11, q12⟩, ⟨q20, q21, q22⟩⟩ := box_cells K1.out)
              go_ret
              exact ⟨rfl, (K0.out.trans K1.out).to_below⟩
            · have b2 : (o1 == 3) = false := by simpa using h1
              obtain rfl : o2 = 3 := by
                refine Classical.byContradiction fun h2 => hall ⟨hp, hl3, hk, h1, h2⟩
              clear hall hp hk h1
              go_enter Try.func6, Try.ntmps6
              go_wp2_with (go_at_call 26; refine PL.out.mono ?_; rintro e w1 ⟨rfl, hk⟩; have K1 := hid (show Keep (fun _ => False) (ordBox w kind m (o1, k1, p1) (3, k2, p2)) w1 from hk); clear hk; obtain ⟨⟨q00, q01⟩, ⟨q10, q11, q12⟩, ⟨q20, q21, q22⟩⟩ := box_cells K1.out)
              go_ret
              exact ⟨rfl, (K0.out.trans K1.out).to_below⟩
      · rw [decide_eq_false hp] at PL
        unfold ordBox at PL
        clear hall hp
        go_enter Try.func6, Try.ntmps6
        go_wp2_with (go_at_call 26; refine PL.out.mono ?_; rintro e w1 ⟨rfl, hk⟩; have K1 := hid (show Keep (fun _ => False) (ordBox w kind m (o1, k1, p1) (o2, k2, p2)) w1 from hk); clear hk; obtain ⟨⟨q00, q01⟩, ⟨q10, q11, q12⟩, ⟨q20, q21, q22⟩⟩ := box_cells K1.out)
        go_ret
        exact ⟨rfl, (K0.out.trans K1.out).to_below⟩
end Go.Proofs.Ytdamfannmlncnaa
