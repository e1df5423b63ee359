/- Floor and Ceiling return what the reference does: the walks of the laws FnExactFloor and FnExactCeiling. -/
import Derived.Test.YtdamfannmlncnaaMinMax
namespace Go.Proofs.Ytdamfannmlncnaa
open Go.RowKit
set_option linter.unusedVariables false
set_option linter.unusedSimpArgs false
attribute [local go_sem ↓] Go.wp_at_zero Go.wp_at_succ

theorem zero_blk (w : World) (W : World) (h : W.heap = (w.alloc (.cells #[.int .i64 0, .int .i64 0] 57)).heap) : W.heap[w.heap.size]? = some (.cells #[.int .i64 0, .int .i64 0] 57 (0, 0)) := by
  rw [h]; exact heap_alloc_new _ _
theorem blk_facts {W : World} {g : Nat} {x y : Int} (h : W.heap[g]? = some (.cells #[.int .i64 x, .int .i64 y] 57 (0, 0))) : W.cell? ⟨g, 0, none⟩ = some (.int .i64 x) ∧ W.cell? ⟨g, 1, none⟩ = some (.int .i64 y) ∧ Plain W g := by
  refine ⟨?_, ?_, ⟨_, _, h⟩⟩ <;> simp [World.cell?, h]
theorem set_two {W : World} {g : Nat} {a b : Value} (h : W.heap[g]? = some (.cells #[a, b] 57 (0, 0))) (x y : Value) : ((W.setCell ⟨g, 0, none⟩ x).setCell ⟨g, 1, none⟩ y).heap[g]? = some (.cells #[x, y] 57 (0, 0)) := by
  rw [heap_set (a := ⟨g, 1, none⟩) (heap_set (a := ⟨g, 0, none⟩) h rfl) rfl]; simp

/-- A pair of the law's own, in a block behind the order's box, and whether there is one. -/
structure LocalPair (w : World) (kind m x y : Int) (b : Bool) (s7 s8 : Value) (wx : World) : Prop where
  ptr : ∃ g, s7 = .pointer (some ⟨g, 0, none⟩) ∧ wx.heap[g]? = some (.cells #[.int .i64 x, .int .i64 y] 57 (0, 0))
  flag : s8 = .bool b
  keep : Keep (fun _ => False) (w.alloc (.cells #[.int .i64 kind, .int .i64 m] 23)) wx

set_option maxRecDepth 100000 in
set_option maxHeartbeats 3200000 in
theorem exactfloor_main {w : World} {kind m : Int} {v : Value} {acts : List Act3} (ha : ActsIn w w.heap.size v acts) (hp : kind = 0 ∨ kind = 1) (hlen : acts.length ≤ 300) (key : Int) :
    Calls Try.prog 20 #[.agg #[.int .i64 kind, .int .i64 m], v, .int .i64 key] w fun e w' => e = .returned (.bool true) ∧ Below w.heap.size w w' := by
  obtain ⟨ao, cap, rfl⟩ := ha.len
  have PL := hid (Plain_any kind m (w.alloc (.cells #[.int .i64 kind, .int .i64 m] 23)))
  rw [decide_eq_true hp] at PL
  have K0 : Keep (fun _ => False) w (w.alloc (.cells #[.int .i64 kind, .int .i64 m] 23)) := (Keep.refl _ _).alloc _
  have HA := hid (ha.keep K0 fun _ _ => id)
  have HOK := hid (OrdOk.plain (m := m) hp)
  have MM := hid (fun W (hW : Keep (fun _ => False) (w.alloc (.cells #[.int .i64 kind, .int .i64 m] 23)) W) => MapFloor_any key HOK.out (HA.out.keep hW fun _ _ => id) (Nat.le_trans (Nat.le_succ _) (by have := hW.size; simpa using this)) (by omega : acts.length ≤ 100000))
  have RN := hid (fun W (hW : Keep (fun _ => False) (w.alloc (.cells #[.int .i64 kind, .int .i64 m] 23)) W) => run_on HOK.out HA.out (by simp) (by omega : acts.length ≤ 100000) W hW)
  have K0 := hid K0
  have HLL := hid (show (runA (ordf kind m) acts).length ≤ 300 by have := runA_len (f := ordf kind m) acts; omega)
  obtain ⟨L, hL⟩ : ∃ L, L = runA (ordf kind m) acts := ⟨_, rfl⟩
  rw [← hL] at MM RN HLL
  have SP := hid (fun W (sv : Value) (h : RowIn W W.heap.size encP sv L) => SpFloor_any HOK.out h (Nat.le_trans HLL.out (by decide)) key)
  clear ha hp hL HA
  cases hop : floorA (ordf kind m) key L with
  | none =>
    have HOP := hid hop
    clear hop
    have SP : Hid (∀ W (sv : Value), RowIn W W.heap.size encP sv L → Calls Try.prog 48 #[.agg #[.int .i64 kind, .int .i64 m], sv, .int .i64 key] W fun e w' => e = .returned (.tuple #[.agg #[.int .i64 0, .int .i64 0], .bool false]) ∧ Keep (fun _ => False) W w') := fun W sv h => by have := SP.out W sv h; rw [HOP.out] at this; exact this
    have MM : Hid (∀ W, Keep (fun _ => False) (w.alloc (.cells #[.int .i64 kind, .int .i64 m] 23)) W → Calls Try.prog 49 #[.agg #[.int .i64 kind, .int .i64 m], .slice ao acts.length cap, .int .i64 key] W fun e w' => e = .returned (.agg #[.int .i64 0, .int .i64 0, .bool false]) ∧ Keep (fun _ => False) W w') := fun W h => by have := MM.out W h; rw [HOP.out] at this; exact this
    have TD := hid (fun W => Told_any (none) 0 0 W)
    simp only [Option.getD, Option.isSome, pairV] at TD
    have ex : ((0 : Int) == 0) = true := by simp
    have ey : ((0 : Int) == 0) = true := by simp
    go_enter Try.func20, Try.ntmps20
    go_wp2_with (go_at_call 26; refine PL.out.mono ?_; rintro e w1 ⟨rfl, hk⟩; have K1 := hid hk; clear hk)
    have HO := hid (ocells K1.out)
    go_cut [7, 8] (fun s7 s8 wx => LocalPair w kind m 0 0 false s7 s8 wx)
    case first =>
      go_region_held3 (fun w' => w'.cell? ⟨w.heap.size, 0, none⟩ = some (.int .i64 kind) ∧ w'.cell? ⟨w.heap.size, 1, none⟩ = some (.int .i64 m))
        (first
          | exact HO.out
          | exact ⟨K2.out.cell HO.out.1 id, K2.out.cell HO.out.2 id⟩
          | exact ⟨K3.out.cell HO.out.1 id, K3.out.cell HO.out.2 id⟩
          | (refine ⟨Keep.cell (w := w1) (S := fun _ => False) ?_ HO.out.1 id, Keep.cell (w := w1) (S := fun _ => False) ?_ HO.out.2 id⟩ <;> ((repeat (first | apply Keep.drew | apply Keep.alloc | apply Keep.drewN | (refine Keep.freshSet ?_ (by first | exact K3.out.size | exact K2.out.size | exact Nat.le_refl _ | (have := K3.out.size; simp; omega) | (have := K2.out.size; simp; omega) | fail) _ _))); (first | exact K3.out | exact K2.out | exact Keep.refl _ _ | fail)))
          | fail)
        (first
          | (go_at_call 32; refine (RN.out _ (by (repeat (first | apply Keep.drew | apply Keep.alloc | apply Keep.drewN)); exact K1.out)).mono ?_; rintro e w2 ⟨sv, rfl, hs, hk⟩; have K2 := hid (show Keep (fun _ => False) w1 w2 from (Keep.trans (by (repeat (first | apply Keep.drew | apply Keep.alloc | apply Keep.drewN)); exact Keep.refl _ _) hk)); have R2 := hid hs; have B2 := hid (hk.get (i := w1.heap.size) (zero_blk w1 _ rfl) id); obtain ⟨z0, z1, pl⟩ := blk_facts B2.out; clear hs hk)
          | (go_at_call 32; refine (RN.out _ (by (repeat (first | apply Keep.drew | apply Keep.alloc | apply Keep.drewN)); exact K1.out)).mono ?_; rintro e w2 ⟨sv, rfl, hs, hk⟩; have K2 := hid (show Keep (fun _ => False) w1 w2 from (Keep.trans (by (repeat (first | apply Keep.drew | apply Keep.alloc | apply Keep.drewN)); exact Keep.refl _ _) hk)); have R2 := hid hs; clear hs hk)
          | (go_at_call 48; refine (SP.out _ _ (RowIn.on R2.out (by (repeat (first | apply Keep.drew | apply Keep.alloc | apply Keep.drewN)); exact Keep.refl _ _))).mono ?_; rintro e w3 ⟨rfl, hk⟩; have K3 := hid (show Keep (fun _ => False) w1 w3 from (Keep.trans (by (repeat (first | apply Keep.drew | apply Keep.alloc | apply Keep.drewN)); exact K2.out) hk)); have B3 := hid (hk.get (i := w1.heap.size) B2.out id); obtain ⟨z0, z1, pl⟩ := blk_facts B3.out; clear hk)
          | (go_at_call 48; refine (SP.out _ _ (RowIn.on R2.out (by (repeat (first | apply Keep.drew | apply Keep.alloc | apply Keep.drewN)); exact Keep.refl _ _))).mono ?_; rintro e w3 ⟨rfl, hk⟩; have K3 := hid (show Keep (fun _ => False) w1 w3 from (Keep.trans (by (repeat (first | apply Keep.drew | apply Keep.alloc | apply Keep.drewN)); exact K2.out) hk)); have B3 := hid (hk.get (i := w2.heap.size) (zero_blk w2 _ rfl) id); obtain ⟨z0, z1, pl⟩ := blk_facts B3.out; clear hk)
          | (go_at_call 48; refine (SP.out _ _ (RowIn.on R2.out (by (repeat (first | apply Keep.drew | apply Keep.alloc | apply Keep.drewN)); exact Keep.refl _ _))).mono ?_; rintro e w3 ⟨rfl, hk⟩; have K3 := hid (show Keep (fun _ => False) w1 w3 from (Keep.trans (by (repeat (first | apply Keep.drew | apply Keep.alloc | apply Keep.drewN)); exact K2.out) hk)); clear hk)
          | fail)
      all_goals (go_wp2_with (fail); go_meet; refine ⟨⟨_, rfl, ?_⟩, rfl, K1.out.trans ?_⟩; (first | exact heap_alloc_new _ _ | exact set_two B3.out _ _ | fail); ((repeat (first | apply Keep.drew | apply Keep.alloc | apply Keep.drewN | (refine Keep.freshSet ?_ (by first | exact K3.out.size | exact K2.out.size | exact Nat.le_refl _ | fail) _ _))); (first | exact K3.out | fail)))
    case rest =>
      obtain ⟨⟨g, rfl, hg⟩, rfl, hk⟩ := hcut
      have K4 := hid hk
      obtain ⟨c0, c1, -⟩ := blk_facts hg
      obtain ⟨o0, o1⟩ := ocells hk
      have HP := hid (And.intro o0 (And.intro o1 (And.intro c0 c1)))
      clear hg hk c0 c1 o0 o1
      go_wp2_with (fail)
      go_region_held3 (fun w' => w'.cell? ⟨w.heap.size, 0, none⟩ = some (.int .i64 kind) ∧ w'.cell? ⟨w.heap.size, 1, none⟩ = some (.int .i64 m) ∧ w'.cell? ⟨g, 0, none⟩ = some (.int .i64 0) ∧ w'.cell? ⟨g, 1, none⟩ = some (.int .i64 0))
        (first
          | exact HP.out
          | exact ⟨K5.out.cell HP.out.1 id, K5.out.cell HP.out.2.1 id, K5.out.cell HP.out.2.2.1 id, K5.out.cell HP.out.2.2.2 id⟩
          | exact ⟨K6.out.cell HP.out.1 id, K6.out.cell HP.out.2.1 id, K6.out.cell HP.out.2.2.1 id, K6.out.cell HP.out.2.2.2 id⟩
          | exact ⟨K7.out.cell HP.out.1 id, K7.out.cell HP.out.2.1 id, K7.out.cell HP.out.2.2.1 id, K7.out.cell HP.out.2.2.2 id⟩
          | fail)
        (first
          | (go_at_call 49; refine (MM.out _ (by (repeat (first | apply Keep.drew | apply Keep.drewN)); exact K4.out)).mono ?_; rintro e w5 ⟨rfl, hk⟩; have K5 := hid (show Keep (fun _ => False) wc w5 from (by first | exact hk | exact hk.undrew | exact hk.undrewN | fail)); clear hk)
          | (go_at_call 39; refine (TD.out _).mono ?_; rintro e w6 ⟨rfl, hk⟩; have K6 := hid (K5.out.trans (by first | exact hk | exact hk.undrew | exact hk.undrewN | fail)); clear hk)
          | (go_at_call 31; refine (keeps_any _).mono ?_; rintro e w7 ⟨rfl, hk⟩; have K7 := hid (K6.out.trans (by first | exact hk | exact hk.undrew | exact hk.undrewN | fail)); clear hk)
          | fail)
      all_goals
        (try go_wp2_with (fail))
        go_ret
        exact ⟨rfl, (K0.out.trans (K4.out.trans K7.out)).to_below⟩
  | some e0 =>
    obtain ⟨x, y⟩ := e0
    have HOP := hid hop
    clear hop
    have SP : Hid (∀ W (sv : Value), RowIn W W.heap.size encP sv L → Calls Try.prog 48 #[.agg #[.int .i64 kind, .int .i64 m], sv, .int .i64 key] W fun e w' => e = .returned (.tuple #[.agg #[.int .i64 x, .int .i64 y], .bool true]) ∧ Keep (fun _ => False) W w') := fun W sv h => by have := SP.out W sv h; rw [HOP.out] at this; exact this
    have MM : Hid (∀ W, Keep (fun _ => False) (w.alloc (.cells #[.int .i64 kind, .int .i64 m] 23)) W → Calls Try.prog 49 #[.agg #[.int .i64 kind, .int .i64 m], .slice ao acts.length cap, .int .i64 key] W fun e w' => e = .returned (.agg #[.int .i64 x, .int .i64 y, .bool true]) ∧ Keep (fun _ => False) W w') := fun W h => by have := MM.out W h; rw [HOP.out] at this; exact this
    have TD := hid (fun W => Told_any (some (x, y)) 0 0 W)
    simp only [Option.getD, Option.isSome, pairV] at TD
    have ex : ((x : Int) == x) = true := by simp
    have ey : ((y : Int) == y) = true := by simp
    go_enter Try.func20, Try.ntmps20
    go_wp2_with (go_at_call 26; refine PL.out.mono ?_; rintro e w1 ⟨rfl, hk⟩; have K1 := hid hk; clear hk)
    have HO := hid (ocells K1.out)
    go_cut [7, 8] (fun s7 s8 wx => LocalPair w kind m x y true s7 s8 wx)
    case first =>
      go_region_held3 (fun w' => w'.cell? ⟨w.heap.size, 0, none⟩ = some (.int .i64 kind) ∧ w'.cell? ⟨w.heap.size, 1, none⟩ = some (.int .i64 m))
        (first
          | exact HO.out
          | exact ⟨K2.out.cell HO.out.1 id, K2.out.cell HO.out.2 id⟩
          | exact ⟨K3.out.cell HO.out.1 id, K3.out.cell HO.out.2 id⟩
          | (refine ⟨Keep.cell (w := w1) (S := fun _ => False) ?_ HO.out.1 id, Keep.cell (w := w1) (S := fun _ => False) ?_ HO.out.2 id⟩ <;> ((repeat (first | apply Keep.drew | apply Keep.alloc | apply Keep.drewN | (refine Keep.freshSet ?_ (by first | exact K3.out.size | exact K2.out.size | exact Nat.le_refl _ | (have := K3.out.size; simp; omega) | (have := K2.out.size; simp; omega) | fail) _ _))); (first | exact K3.out | exact K2.out | exact Keep.refl _ _ | fail)))
          | fail)
        (first
          | (go_at_call 32; refine (RN.out _ (by (repeat (first | apply Keep.drew | apply Keep.alloc | apply Keep.drewN)); exact K1.out)).mono ?_; rintro e w2 ⟨sv, rfl, hs, hk⟩; have K2 := hid (show Keep (fun _ => False) w1 w2 from (Keep.trans (by (repeat (first | apply Keep.drew | apply Keep.alloc | apply Keep.drewN)); exact Keep.refl _ _) hk)); have R2 := hid hs; have B2 := hid (hk.get (i := w1.heap.size) (zero_blk w1 _ rfl) id); obtain ⟨z0, z1, pl⟩ := blk_facts B2.out; clear hs hk)
          | (go_at_call 32; refine (RN.out _ (by (repeat (first | apply Keep.drew | apply Keep.alloc | apply Keep.drewN)); exact K1.out)).mono ?_; rintro e w2 ⟨sv, rfl, hs, hk⟩; have K2 := hid (show Keep (fun _ => False) w1 w2 from (Keep.trans (by (repeat (first | apply Keep.drew | apply Keep.alloc | apply Keep.drewN)); exact Keep.refl _ _) hk)); have R2 := hid hs; clear hs hk)
          | (go_at_call 48; refine (SP.out _ _ (RowIn.on R2.out (by (repeat (first | apply Keep.drew | apply Keep.alloc | apply Keep.drewN)); exact Keep.refl _ _))).mono ?_; rintro e w3 ⟨rfl, hk⟩; have K3 := hid (show Keep (fun _ => False) w1 w3 from (Keep.trans (by (repeat (first | apply Keep.drew | apply Keep.alloc | apply Keep.drewN)); exact K2.out) hk)); have B3 := hid (hk.get (i := w1.heap.size) B2.out id); obtain ⟨z0, z1, pl⟩ := blk_facts B3.out; clear hk)
          | (go_at_call 48; refine (SP.out _ _ (RowIn.on R2.out (by (repeat (first | apply Keep.drew | apply Keep.alloc | apply Keep.drewN)); exact Keep.refl _ _))).mono ?_; rintro e w3 ⟨rfl, hk⟩; have K3 := hid (show Keep (fun _ => False) w1 w3 from (Keep.trans (by (repeat (first | apply Keep.drew | apply Keep.alloc | apply Keep.drewN)); exact K2.out) hk)); have B3 := hid (hk.get (i := w2.heap.size) (zero_blk w2 _ rfl) id); obtain ⟨z0, z1, pl⟩ := blk_facts B3.out; clear hk)
          | (go_at_call 48; refine (SP.out _ _ (RowIn.on R2.out (by (repeat (first | apply Keep.drew | apply Keep.alloc | apply Keep.drewN)); exact Keep.refl _ _))).mono ?_; rintro e w3 ⟨rfl, hk⟩; have K3 := hid (show Keep (fun _ => False) w1 w3 from (Keep.trans (by (repeat (first | apply Keep.drew | apply Keep.alloc | apply Keep.drewN)); exact K2.out) hk)); clear hk)
          | fail)
      all_goals (go_wp2_with (fail); go_meet; refine ⟨⟨_, rfl, ?_⟩, rfl, K1.out.trans ?_⟩; (first | exact heap_alloc_new _ _ | exact set_two B3.out _ _ | fail); ((repeat (first | apply Keep.drew | apply Keep.alloc | apply Keep.drewN | (refine Keep.freshSet ?_ (by first | exact K3.out.size | exact K2.out.size | exact Nat.le_refl _ | fail) _ _))); (first | exact K3.out | fail)))
    case rest =>
      obtain ⟨⟨g, rfl, hg⟩, rfl, hk⟩ := hcut
      have K4 := hid hk
      obtain ⟨c0, c1, -⟩ := blk_facts hg
      obtain ⟨o0, o1⟩ := ocells hk
      have HP := hid (And.intro o0 (And.intro o1 (And.intro c0 c1)))
      clear hg hk c0 c1 o0 o1
      go_wp2_with (fail)
      go_region_held3 (fun w' => w'.cell? ⟨w.heap.size, 0, none⟩ = some (.int .i64 kind) ∧ w'.cell? ⟨w.heap.size, 1, none⟩ = some (.int .i64 m) ∧ w'.cell? ⟨g, 0, none⟩ = some (.int .i64 x) ∧ w'.cell? ⟨g, 1, none⟩ = some (.int .i64 y))
        (first
          | exact HP.out
          | exact ⟨K5.out.cell HP.out.1 id, K5.out.cell HP.out.2.1 id, K5.out.cell HP.out.2.2.1 id, K5.out.cell HP.out.2.2.2 id⟩
          | exact ⟨K6.out.cell HP.out.1 id, K6.out.cell HP.out.2.1 id, K6.out.cell HP.out.2.2.1 id, K6.out.cell HP.out.2.2.2 id⟩
          | exact ⟨K7.out.cell HP.out.1 id, K7.out.cell HP.out.2.1 id, K7.out.cell HP.out.2.2.1 id, K7.out.cell HP.out.2.2.2 id⟩
          | fail)
        (first
          | (go_at_call 49; refine (MM.out _ (by (repeat (first | apply Keep.drew | apply Keep.drewN)); exact K4.out)).mono ?_; rintro e w5 ⟨rfl, hk⟩; have K5 := hid (show Keep (fun _ => False) wc w5 from (by first | exact hk | exact hk.undrew | exact hk.undrewN | fail)); clear hk)
          | (go_at_call 39; refine (TD.out _).mono ?_; rintro e w6 ⟨rfl, hk⟩; have K6 := hid (K5.out.trans (by first | exact hk | exact hk.undrew | exact hk.undrewN | fail)); clear hk)
          | (go_at_call 31; refine (keeps_any _).mono ?_; rintro e w7 ⟨rfl, hk⟩; have K7 := hid (K6.out.trans (by first | exact hk | exact hk.undrew | exact hk.undrewN | fail)); clear hk)
          | fail)
      all_goals
        (try go_wp2_with (fail))
        go_ret
        exact ⟨rfl, (K0.out.trans (K4.out.trans K7.out)).to_below⟩

set_option maxRecDepth 100000 in
set_option maxHeartbeats 1600000 in
theorem fnExactFloor_walk {w : World} (kind m : Int) (v : Value) (acts : List Act3) (ha : ActsIn w w.heap.size v acts) (hn : acts.length ≤ maxLen) (key : Int) :
    Calls Try.prog 20 #[.agg #[.int .i64 kind, .int .i64 m], v, .int .i64 key] w fun e w' => e = .returned (.bool true) ∧ Below w.heap.size w w' := by
  unfold maxLen at hn
  by_cases hp : kind = 0 ∨ kind = 1
  · by_cases h300 : acts.length ≤ 300
    · exact exactfloor_main ha hp h300 key
    · obtain ⟨ao, cap, rfl⟩ := ha.len
      have PL := hid (Plain_any kind m (w.alloc (.cells #[.int .i64 kind, .int .i64 m] 23)))
      rw [decide_eq_true hp] at PL
      have h3 : (300 : Int) < acts.length := by omega
      clear ha hp h300
      by_cases hbig : (2147483647 : Int) < acts.length
      · go_enter Try.func20, Try.ntmps20
        go_wp2_with (fail)
        go_ret
        exact ⟨rfl, (Below.refl _ _).alloc (Nat.le_refl _) _⟩
      · go_enter Try.func20, Try.ntmps20
        go_wp2_with (go_at_call 26; refine PL.out.mono ?_; rintro e w1 ⟨rfl, hk⟩; have K1 := hid (((Keep.refl (fun _ => False) w).alloc _).trans hk); clear hk)
        go_ret
        exact ⟨rfl, K1.out.to_below⟩
  · obtain ⟨ao, cap, rfl⟩ := ha.len
    have PL := hid (Plain_any kind m (w.alloc (.cells #[.int .i64 kind, .int .i64 m] 23)))
    rw [decide_eq_false hp] at PL
    clear ha hp
    by_cases hbig : (2147483647 : Int) < acts.length
    · go_enter Try.func20, Try.ntmps20
      go_wp2_with (fail)
      go_ret
      exact ⟨rfl, (Below.refl _ _).alloc (Nat.le_refl _) _⟩
    · go_enter Try.func20, Try.ntmps20
      go_wp2_with (go_at_call 26; refine PL.out.mono ?_; rintro e w1 ⟨rfl, hk⟩; have K1 := hid (((Keep.refl (fun _ => False) w).alloc _).trans hk); clear hk)
      go_ret
      exact ⟨rfl, K1.out.to_below⟩

set_option maxRecDepth 100000 in
set_option maxHeartbeats 3200000 in
theorem exactceiling_main {w : World} {kind m : Int} {v : Value} {acts : List Act3} (ha : ActsIn w w.heap.size v acts) (hp : kind = 0 ∨ kind = 1) (hlen : acts.length ≤ 300) (key : Int) :
    Calls Try.prog 19 #[.agg #[.int .i64 kind, .int .i64 m], v, .int .i64 key] w fun e w' => e = .returned (.bool true) ∧ Below w.heap.size w w' := by
  obtain ⟨ao, cap, rfl⟩ := ha.len
  have PL := hid (Plain_any kind m (w.alloc (.cells #[.int .i64 kind, .int .i64 m] 23)))
  rw [decide_eq_true hp] at PL
  have K0 : Keep (fun _ => False) w (w.alloc (.cells #[.int .i64 kind, .int .i64 m] 23)) := (Keep.refl _ _).alloc _
  have HA := hid (ha.keep K0 fun _ _ => id)
  have HOK := hid (OrdOk.plain (m := m) hp)
  have MM := hid (fun W (hW : Keep (fun _ => False) (w.alloc (.cells #[.int .i64 kind, .int .i64 m] 23)) W) => MapCeiling_any key HOK.out (HA.out.keep hW fun _ _ => id) (Nat.le_trans (Nat.le_succ _) (by have := hW.size; simpa using this)) (by omega : acts.length ≤ 100000))
  have RN := hid (fun W (hW : Keep (fun _ => False) (w.alloc (.cells #[.int .i64 kind, .int .i64 m] 23)) W) => run_on HOK.out HA.out (by simp) (by omega : acts.length ≤ 100000) W hW)
  have K0 := hid K0
  have HLL := hid (show (runA (ordf kind m) acts).length ≤ 300 by have := runA_len (f := ordf kind m) acts; omega)
  obtain ⟨L, hL⟩ : ∃ L, L = runA (ordf kind m) acts := ⟨_, rfl⟩
  rw [← hL] at MM RN HLL
  have SP := hid (fun W (sv : Value) (h : RowIn W W.heap.size encP sv L) => SpCeiling_any HOK.out h (Nat.le_trans HLL.out (by decide)) key)
  clear ha hp hL HA
  cases hop : ceilA (ordf kind m) key L with
  | none =>
    have HOP := hid hop
    clear hop
    have SP : Hid (∀ W (sv : Value), RowIn W W.heap.size encP sv L → Calls Try.prog 46 #[.agg #[.int .i64 kind, .int .i64 m], sv, .int .i64 key] W fun e w' => e = .returned (.tuple #[.agg #[.int .i64 0, .int .i64 0], .bool false]) ∧ Keep (fun _ => False) W w') := fun W sv h => by have := SP.out W sv h; rw [HOP.out] at this; exact this
    have MM : Hid (∀ W, Keep (fun _ => False) (w.alloc (.cells #[.int .i64 kind, .int .i64 m] 23)) W → Calls Try.prog 47 #[.agg #[.int .i64 kind, .int .i64 m], .slice ao acts.length cap, .int .i64 key] W fun e w' => e = .returned (.agg #[.int .i64 0, .int .i64 0, .bool false]) ∧ Keep (fun _ => False) W w') := fun W h => by have := MM.out W h; rw [HOP.out] at this; exact this
    have TD := hid (fun W => Told_any (none) 0 0 W)
    simp only [Option.getD, Option.isSome, pairV] at TD
    have ex : ((0 : Int) == 0) = true := by simp
    have ey : ((0 : Int) == 0) = true := by simp
    go_enter Try.func19, Try.ntmps19
    go_wp2_with (go_at_call 26; refine PL.out.mono ?_; rintro e w1 ⟨rfl, hk⟩; have K1 := hid hk; clear hk)
    have HO := hid (ocells K1.out)
    go_cut [7, 8] (fun s7 s8 wx => LocalPair w kind m 0 0 false s7 s8 wx)
    case first =>
      go_region_held3 (fun w' => w'.cell? ⟨w.heap.size, 0, none⟩ = some (.int .i64 kind) ∧ w'.cell? ⟨w.heap.size, 1, none⟩ = some (.int .i64 m))
        (first
          | exact HO.out
          | exact ⟨K2.out.cell HO.out.1 id, K2.out.cell HO.out.2 id⟩
          | exact ⟨K3.out.cell HO.out.1 id, K3.out.cell HO.out.2 id⟩
          | (refine ⟨Keep.cell (w := w1) (S := fun _ => False) ?_ HO.out.1 id, Keep.cell (w := w1) (S := fun _ => False) ?_ HO.out.2 id⟩ <;> ((repeat (first | apply Keep.drew | apply Keep.alloc | apply Keep.drewN | (refine Keep.freshSet ?_ (by first | exact K3.out.size | exact K2.out.size | exact Nat.le_refl _ | (have := K3.out.size; simp; omega) | (have := K2.out.size; simp; omega) | fail) _ _))); (first | exact K3.out | exact K2.out | exact Keep.refl _ _ | fail)))
          | fail)
        (first
          | (go_at_call 32; refine (RN.out _ (by (repeat (first | apply Keep.drew | apply Keep.alloc | apply Keep.drewN)); exact K1.out)).mono ?_; rintro e w2 ⟨sv, rfl, hs, hk⟩; have K2 := hid (show Keep (fun _ => False) w1 w2 from (Keep.trans (by (repeat (first | apply Keep.drew | apply Keep.alloc | apply Keep.drewN)); exact Keep.refl _ _) hk)); have R2 := hid hs; have B2 := hid (hk.get (i := w1.heap.size) (zero_blk w1 _ rfl) id); obtain ⟨z0, z1, pl⟩ := blk_facts B2.out; clear hs hk)
          | (go_at_call 32; refine (RN.out _ (by (repeat (first | apply Keep.drew | apply Keep.alloc | apply Keep.drewN)); exact K1.out)).mono ?_; rintro e w2 ⟨sv, rfl, hs, hk⟩; have K2 := hid (show Keep (fun _ => False) w1 w2 from (Keep.trans (by (repeat (first | apply Keep.drew | apply Keep.alloc | apply Keep.drewN)); exact Keep.refl _ _) hk)); have R2 := hid hs; clear hs hk)
          | (go_at_call 46; refine (SP.out _ _ (RowIn.on R2.out (by (repeat (first | apply Keep.drew | apply Keep.alloc | apply Keep.drewN)); exact Keep.refl _ _))).mono ?_; rintro e w3 ⟨rfl, hk⟩; have K3 := hid (show Keep (fun _ => False) w1 w3 from (Keep.trans (by (repeat (first | apply Keep.drew | apply Keep.alloc | apply Keep.drewN)); exact K2.out) hk)); have B3 := hid (hk.get (i := w1.heap.size) B2.out id); obtain ⟨z0, z1, pl⟩ := blk_facts B3.out; clear hk)
          | (go_at_call 46; refine (SP.out _ _ (RowIn.on R2.out (by (repeat (first | apply Keep.drew | apply Keep.alloc | apply Keep.drewN)); exact Keep.refl _ _))).mono ?_; rintro e w3 ⟨rfl, hk⟩; have K3 := hid (show Keep (fun _ => False) w1 w3 from (Keep.trans (by (repeat (first | apply Keep.drew | apply Keep.alloc | apply Keep.drewN)); exact K2.out) hk)); have B3 := hid (hk.get (i := w2.heap.size) (zero_blk w2 _ rfl) id); obtain ⟨z0, z1, pl⟩ := blk_facts B3.out; clear hk)
          | (go_at_call 46; refine (SP.out _ _ (RowIn.on R2.out (by (repeat (first | apply Keep.drew | apply Keep.alloc | apply Keep.drewN)); exact Keep.refl _ _))).mono ?_; rintro e w3 ⟨rfl, hk⟩; have K3 := hid (show Keep (fun _ => False) w1 w3 from (Keep.trans (by (repeat (first | apply Keep.drew | apply Keep.alloc | apply Keep.drewN)); exact K2.out) hk)); clear hk)
          | fail)
      all_goals (go_wp2_with (fail); go_meet; refine ⟨⟨_, rfl, ?_⟩, rfl, K1.out.trans ?_⟩; (first | exact heap_alloc_new _ _ | exact set_two B3.out _ _ | fail); ((repeat (first | apply Keep.drew | apply Keep.alloc | apply Keep.drewN | (refine Keep.freshSet ?_ (by first | exact K3.out.size | exact K2.out.size | exact Nat.le_refl _ | fail) _ _))); (first | exact K3.out | fail)))
    case rest =>
      obtain ⟨⟨g, rfl, hg⟩, rfl, hk⟩ := hcut
      have K4 := hid hk
      obtain ⟨c0, c1, -⟩ := blk_facts hg
      obtain ⟨o0, o1⟩ := ocells hk
      have HP := hid (And.intro o0 (And.intro o1 (And.intro c0 c1)))
      clear hg hk c0 c1 o0 o1
      go_wp2_with (fail)
      go_region_held3 (fun w' => w'.cell? ⟨w.heap.size, 0, none⟩ = some (.int .i64 kind) ∧ w'.cell? ⟨w.heap.size, 1, none⟩ = some (.int .i64 m) ∧ w'.cell? ⟨g, 0, none⟩ = some (.int .i64 0) ∧ w'.cell? ⟨g, 1, none⟩ = some (.int .i64 0))
        (first
          | exact HP.out
          | exact ⟨K5.out.cell HP.out.1 id, K5.out.cell HP.out.2.1 id, K5.out.cell HP.out.2.2.1 id, K5.out.cell HP.out.2.2.2 id⟩
          | exact ⟨K6.out.cell HP.out.1 id, K6.out.cell HP.out.2.1 id, K6.out.cell HP.out.2.2.1 id, K6.out.cell HP.out.2.2.2 id⟩
          | exact ⟨K7.out.cell HP.out.1 id, K7.out.cell HP.out.2.1 id, K7.out.cell HP.out.2.2.1 id, K7.out.cell HP.out.2.2.2 id⟩
          | fail)
        (first
          | (go_at_call 47; refine (MM.out _ (by (repeat (first | apply Keep.drew | apply Keep.drewN)); exact K4.out)).mono ?_; rintro e w5 ⟨rfl, hk⟩; have K5 := hid (show Keep (fun _ => False) wc w5 from (by first | exact hk | exact hk.undrew | exact hk.undrewN | fail)); clear hk)
          | (go_at_call 39; refine (TD.out _).mono ?_; rintro e w6 ⟨rfl, hk⟩; have K6 := hid (K5.out.trans (by first | exact hk | exact hk.undrew | exact hk.undrewN | fail)); clear hk)
          | (go_at_call 31; refine (keeps_any _).mono ?_; rintro e w7 ⟨rfl, hk⟩; have K7 := hid (K6.out.trans (by first | exact hk | exact hk.undrew | exact hk.undrewN | fail)); clear hk)
          | fail)
      all_goals
        (try go_wp2_with (fail))
        go_ret
        exact ⟨rfl, (K0.out.trans (K4.out.trans K7.out)).to_below⟩
  | some e0 =>
    obtain ⟨x, y⟩ := e0
    have HOP := hid hop
    clear hop
    have SP : Hid (∀ W (sv : Value), RowIn W W.heap.size encP sv L → Calls Try.prog 46 #[.agg #[.int .i64 kind, .int .i64 m], sv, .int .i64 key] W fun e w' => e = .returned (.tuple #[.agg #[.int .i64 x, .int .i64 y], .bool true]) ∧ Keep (fun _ => False) W w') := fun W sv h => by have := SP.out W sv h; rw [HOP.out] at this; exact this
    have MM : Hid (∀ W, Keep (fun _ => False) (w.alloc (.cells #[.int .i64 kind, .int .i64 m] 23)) W → Calls Try.prog 47 #[.agg #[.int .i64 kind, .int .i64 m], .slice ao acts.length cap, .int .i64 key] W fun e w' => e = .returned (.agg #[.int .i64 x, .int .i64 y, .bool true]) ∧ Keep (fun _ => False) W w') := fun W h => by have := MM.out W h; rw [HOP.out] at this; exact this
    have TD := hid (fun W => Told_any (some (x, y)) 0 0 W)
    simp only [Option.getD, Option.isSome, pairV] at TD
    have ex : ((x : Int) == x) = true := by simp
    have ey : ((y : Int) == y) = true := by simp
    go_enter Try.func19, Try.ntmps19
    go_wp2_with (go_at_call 26; refine PL.out.mono ?_; rintro e w1 ⟨rfl, hk⟩; have K1 := hid hk; clear hk)
    have HO := hid (ocells K1.out)
    go_cut [7, 8] (fun s7 s8 wx => LocalPair w kind m x y true s7 s8 wx)
    case first =>
      go_region_held3 (fun w' => w'.cell? ⟨w.heap.size, 0, none⟩ = some (.int .i64 kind) ∧ w'.cell? ⟨w.heap.size, 1, none⟩ = some (.int .i64 m))
        (first
          | exact HO.out
          | exact ⟨K2.out.cell HO.out.1 id, K2.out.cell HO.out.2 id⟩
          | exact ⟨K3.out.cell HO.out.1 id, K3.out.cell HO.out.2 id⟩
          | (refine ⟨Keep.cell (w := w1) (S := fun _ => False) ?_ HO.out.1 id, Keep.cell (w := w1) (S := fun _ => False) ?_ HO.out.2 id⟩ <;> ((repeat (first | apply Keep.drew | apply Keep.alloc | apply Keep.drewN | (refine Keep.freshSet ?_ (by first | exact K3.out.size | exact K2.out.size | exact Nat.le_refl _ | (have := K3.out.size; simp; omega) | (have := K2.out.size; simp; omega) | fail) _ _))); (first | exact K3.out | exact K2.out | exact Keep.refl _ _ | fail)))
          | fail)
        (first
          | (go_at_call 32; refine (RN.out _ (by (repeat (first | apply Keep.drew | apply Keep.alloc | apply Keep.drewN)); exact K1.out)).mono ?_; rintro e w2 ⟨sv, rfl, hs, hk⟩; have K2 := hid (show Keep (fun _ => False) w1 w2 from (Keep.trans (by (repeat (first | apply Keep.drew | apply Keep.alloc | apply Keep.drewN)); exact Keep.refl _ _) hk)); have R2 := hid hs; have B2 := hid (hk.get (i := w1.heap.size) (zero_blk w1 _ rfl) id); obtain ⟨z0, z1, pl⟩ := blk_facts B2.out; clear hs hk)
          | (go_at_call 32; refine (RN.out _ (by (repeat (first | apply Keep.drew | apply Keep.alloc | apply Keep.drewN)); exact K1.out)).mono ?_; rintro e w2 ⟨sv, rfl, hs, hk⟩; have K2 := hid (show Keep (fun _ => False) w1 w2 from (Keep.trans (by (repeat (first | apply Keep.drew | apply Keep.alloc | apply Keep.drewN)); exact Keep.refl _ _) hk)); have R2 := hid hs; clear hs hk)
          | (go_at_call 46; refine (SP.out _ _ (RowIn.on R2.out (by (repeat (first | apply Keep.drew | apply Keep.alloc | apply Keep.drewN)); exact Keep.refl _ _))).mono ?_; rintro e w3 ⟨rfl, hk⟩; have K3 := hid (show Keep (fun _ => False) w1 w3 from (Keep.trans (by (repeat (first | apply Keep.drew | apply Keep.alloc | apply Keep.drewN)); exact K2.out) hk)); have B3 := hid (hk.get (i := w1.heap.size) B2.out id); obtain ⟨z0, z1, pl⟩ := blk_facts B3.out; clear hk)
          | (go_at_call 46; refine (SP.out _ _ (RowIn.on R2.out (by (repeat (first | apply Keep.drew | apply Keep.alloc | apply Keep.drewN)); exact Keep.refl _ _))).mono ?_; rintro e w3 ⟨rfl, hk⟩; have K3 := hid (show Keep (fun _ => False) w1 w3 from (Keep.trans (by (repeat (first | apply Keep.drew | apply Keep.alloc | apply Keep.drewN)); exact K2.out) hk)); have B3 := hid (hk.get (i := w2.heap.size) (zero_blk w2 _ rfl) id); obtain ⟨z0, z1, pl⟩ := blk_facts B3.out; clear hk)
          | (go_at_call 46; refine (SP.out _ _ (RowIn.on R2.out (by (repeat (first | apply Keep.drew | apply Keep.alloc | apply Keep.drewN)); exact Keep.refl _ _))).mono ?_; rintro e w3 ⟨rfl, hk⟩; have K3 := hid (show Keep (fun _ => False) w1 w3 from (Keep.trans (by (repeat (first | apply Keep.drew | apply Keep.alloc | apply Keep.drewN)); exact K2.out) hk)); clear hk)
          | fail)
      all_goals (go_wp2_with (fail); go_meet; refine ⟨⟨_, rfl, ?_⟩, rfl, K1.out.trans ?_⟩; (first | exact heap_alloc_new _ _ | exact set_two B3.out _ _ | fail); ((repeat (first | apply Keep.drew | apply Keep.alloc | apply Keep.drewN | (refine Keep.freshSet ?_ (by first | exact K3.out.size | exact K2.out.size | exact Nat.le_refl _ | fail) _ _))); (first | exact K3.out | fail)))
    case rest =>
      obtain ⟨⟨g, rfl, hg⟩, rfl, hk⟩ := hcut
      have K4 := hid hk
      obtain ⟨c0, c1, -⟩ := blk_facts hg
      obtain ⟨o0, o1⟩ := ocells hk
      have HP := hid (And.intro o0 (And.intro o1 (And.intro c0 c1)))
      clear hg hk c0 c1 o0 o1
      go_wp2_with (fail)
      go_region_held3 (fun w' => w'.cell? ⟨w.heap.size, 0, none⟩ = some (.int .i64 kind) ∧ w'.cell? ⟨w.heap.size, 1, none⟩ = some (.int .i64 m) ∧ w'.cell? ⟨g, 0, none⟩ = some (.int .i64 x) ∧ w'.cell? ⟨g, 1, none⟩ = some (.int .i64 y))
        (first
          | exact HP.out
          | exact ⟨K5.out.cell HP.out.1 id, K5.out.cell HP.out.2.1 id, K5.out.cell HP.out.2.2.1 id, K5.out.cell HP.out.2.2.2 id⟩
          | exact ⟨K6.out.cell HP.out.1 id, K6.out.cell HP.out.2.1 id, K6.out.cell HP.out.2.2.1 id, K6.out.cell HP.out.2.2.2 id⟩
          | exact ⟨K7.out.cell HP.out.1 id, K7.out.cell HP.out.2.1 id, K7.out.cell HP.out.2.2.1 id, K7.out.cell HP.out.2.2.2 id⟩
          | fail)
        (first
          | (go_at_call 47; refine (MM.out _ (by (repeat (first | apply Keep.drew | apply Keep.drewN)); exact K4.out)).mono ?_; rintro e w5 ⟨rfl, hk⟩; have K5 := hid (show Keep (fun _ => False) wc w5 from (by first | exact hk | exact hk.undrew | exact hk.undrewN | fail)); clear hk)
          | (go_at_call 39; refine (TD.out _).mono ?_; rintro e w6 ⟨rfl, hk⟩; have K6 := hid (K5.out.trans (by first | exact hk | exact hk.undrew | exact hk.undrewN | fail)); clear hk)
          | (go_at_call 31; refine (keeps_any _).mono ?_; rintro e w7 ⟨rfl, hk⟩; have K7 := hid (K6.out.trans (by first | exact hk | exact hk.undrew | exact hk.undrewN | fail)); clear hk)
          | fail)
      all_goals
        (try go_wp2_with (fail))
        go_ret
        exact ⟨rfl, (K0.out.trans (K4.out.trans K7.out)).to_below⟩

set_option maxRecDepth 100000 in
set_option maxHeartbeats 1600000 in
theorem fnExactCeiling_walk {w : World} (kind m : Int) (v : Value) (acts : List Act3) (ha : ActsIn w w.heap.size v acts) (hn : acts.length ≤ maxLen) (key : Int) :
    Calls Try.prog 19 #[.agg #[.int .i64 kind, .int .i64 m], v, .int .i64 key] w fun e w' => e = .returned (.bool true) ∧ Below w.heap.size w w' := by
  unfold maxLen at hn
  by_cases hp : kind = 0 ∨ kind = 1
  · by_cases h300 : acts.length ≤ 300
    · exact exactceiling_main ha hp h300 key
    · obtain ⟨ao, cap, rfl⟩ := ha.len
      have PL := hid (Plain_any kind m (w.alloc (.cells #[.int .i64 kind, .int .i64 m] 23)))
      rw [decide_eq_true hp] at PL
      have h3 : (300 : Int) < acts.length := by omega
      clear ha hp h300
      by_cases hbig : (2147483647 : Int) < acts.length
      · go_enter Try.func19, Try.ntmps19
        go_wp2_with (fail)
        go_ret
        exact ⟨rfl, (Below.refl _ _).alloc (Nat.le_refl _) _⟩
      · go_enter Try.func19, Try.ntmps19
        go_wp2_with (go_at_call 26; refine PL.out.mono ?_; rintro e w1 ⟨rfl, hk⟩; have K1 := hid (((Keep.refl (fun _ => False) w).alloc _).trans hk); clear hk)
        go_ret
        exact ⟨rfl, K1.out.to_below⟩
  · obtain ⟨ao, cap, rfl⟩ := ha.len
    have PL := hid (Plain_any kind m (w.alloc (.cells #[.int .i64 kind, .int .i64 m] 23)))
    rw [decide_eq_false hp] at PL
    clear ha hp
    by_cases hbig : (2147483647 : Int) < acts.length
    · go_enter Try.func19, Try.ntmps19
      go_wp2_with (fail)
      go_ret
      exact ⟨rfl, (Below.refl _ _).alloc (Nat.le_refl _) _⟩
    · go_enter Try.func19, Try.ntmps19
      go_wp2_with (go_at_call 26; refine PL.out.mono ?_; rintro e w1 ⟨rfl, hk⟩; have K1 := hid (((Keep.refl (fun _ => False) w).alloc _).trans hk); clear hk)
      go_ret
      exact ⟨rfl, K1.out.to_below⟩
end Go.Proofs.Ytdamfannmlncnaa
