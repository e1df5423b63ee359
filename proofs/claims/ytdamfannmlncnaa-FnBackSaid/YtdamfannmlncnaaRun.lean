/- The reference's Run walked: the list that acts come to, in memory. -/
import Derived.Test.YtdamfannmlncnaaSpec
import Derived.Test.YtdamfannmlncnaaApp
import Derived.IntWalk
namespace Go.Proofs.Ytdamfannmlncnaa
open Go.RowKit
set_option linter.unusedVariables false
set_option linter.unusedSimpArgs false
set_option maxHeartbeats 1600000
attribute [local go_sem ↓] Go.wp_at_zero Go.wp_at_succ

theorem info57 : (Try.prog.info? 57).map (fun i => (i.zero, i.size, i.bytes)) = some (some (.agg #[.int .i64 0, .int .i64 0]), 2, 16) := by kernel_rfl
theorem parts57 : ∃ i, Try.prog.info? 57 = some i ∧ i.zero = some (.agg #[.int .i64 0, .int .i64 0]) ∧ i.size = 2 ∧ i.bytes = 16 := by
  have h := info57
  cases hi : Try.prog.info? 57 with
  | none => rw [hi] at h; cases h
  | some i => rw [hi] at h; simp only [Option.map_some, Option.some.injEq, Prod.mk.injEq] at h; exact ⟨i, rfl, h.1, h.2.1, h.2.2⟩
theorem size57 (w : World) : (sizeOf (Try.prog.elem 38)).run Try.prog w = .ok 2 w := by kernel_rfl
theorem elem38 : Try.prog.underlying 38 = some (.slice (Try.prog.elem 38)) := by kernel_rfl

theorem SrcRow.keep {S : Nat → Prop} {w w' : World} {size : Nat} {v : Value} {m : Nat} {news : List Value} (h : SrcRow w size v m news) (hk : Keep S w w') (hs : ∀ i, i < w.heap.size → ¬ S i) : SrcRow w' size v m news := by
  rcases h with h | ⟨ad, c, hv, hl, hc, h1⟩
  · exact .inl h
  · refine .inr ⟨ad, c, hv, hl, fun j u hu => ?_, h1⟩
    have := hc j u hu
    have hlt := World.block_lt_of_cell? _ _ this
    rw [World.cell?_of_block (w := w) (w' := w') (hk.block _ hlt (hs _ hlt))]
    exact this

theorem run_cut_head (a : Option Addr) (n c k : Nat) (hk : k ≤ c) (w : World) :
    (Instr.slice 38 (.slice a n c) none (some (.int .i64 k)) none).run Try.prog w = .ok (sliced a 0 k c 2) w := by
  rw [run_slice_h w 38 a n c elem38 .i64 k (by omega) (by omega), size57]
  simp [Result.andThen]
theorem run_cut_tail (a : Option Addr) (n c k : Nat) (hk : k ≤ n) (w : World) :
    (Instr.slice 38 (.slice a n c) (some (.int .i64 k)) none none).run Try.prog w = .ok (sliced a k n c 2) w := by
  rw [run_slice_l w 38 a n c elem38 .i64 k (by omega) (by omega), size57]
  simp [Result.andThen]
theorem add_zero (a : Addr) : a.add 0 = a := by simp [Addr.add]

theorem flat_take (L : List (Int × Int)) (k : Nat) {j : Nat} {u : Value} (h : ((L.take k).flatMap encP)[j]? = some u) : (L.flatMap encP)[j]? = some u := by
  have e : L.flatMap encP = (L.take k).flatMap encP ++ (L.drop k).flatMap encP := by rw [← List.flatMap_append, List.take_append_drop]
  rw [e, List.getElem?_append_left (List.getElem?_eq_some_iff.1 h).1, h]
theorem flat_drop (L : List (Int × Int)) (k : Nat) (hk : k ≤ L.length) {j : Nat} {u : Value} (h : ((L.drop k).flatMap encP)[j]? = some u) : (L.flatMap encP)[k * 2 + j]? = some u := by
  have e : L.flatMap encP = (L.take k).flatMap encP ++ (L.drop k).flatMap encP := by rw [← List.flatMap_append, List.take_append_drop]
  have hl : ((L.take k).flatMap encP).length = k * 2 := by rw [flat_length encP_len, List.length_take]; omega
  rw [e, List.getElem?_append_right (by omega), hl, show k * 2 + j - k * 2 = j by omega, h]

theorem flat_one (l : List (Int × Int)) : ∀ u ∈ l.flatMap encP, u.oneCell' = true := by
  intro u hu
  obtain ⟨a, _, hu⟩ := List.mem_flatMap.1 hu
  exact encP_one a u hu

/-- The beginning of a row of pairs: what append reads of it. -/
theorem cut_head {w : World} {B : Nat} {lv : Value} {L : List (Int × Int)} (h : RowIn w B encP lv L) (hcap : ∀ a n c, lv = .slice a n c → n ≤ c) {k : Nat} (hk : k ≤ L.length) :
    ∃ hd, (∀ W, (Instr.slice 38 lv none (some (.int .i64 k)) none).run Try.prog W = .ok hd W) ∧ SrcRow w 2 hd k ((L.take k).flatMap encP) := by
  rcases h with ⟨rfl, rfl | ⟨ad, cap, rfl⟩⟩ | ⟨b, off, cap, rfl, hb, hc⟩
  · obtain rfl : k = 0 := by simpa using hk
    exact ⟨.slice none 0 0, fun W => by have := run_cut_head none 0 0 0 (Nat.le_refl _) W; simpa [sliced] using this, .inl ⟨rfl, rfl, rfl⟩⟩
  · obtain rfl : k = 0 := by simpa using hk
    refine ⟨.slice (some ad) 0 cap, fun W => ?_, .inr ⟨ad, cap, rfl, rfl, by simp, by simp⟩⟩
    have := run_cut_head (some ad) 0 cap 0 (Nat.zero_le _) W
    simpa [sliced, add_zero] using this
  · have hc2 := hcap _ _ _ rfl
    refine ⟨.slice (some ⟨b, off, none⟩) k cap, fun W => ?_, .inr ⟨⟨b, off, none⟩, cap, rfl, by rw [flat_length encP_len, List.length_take, Nat.min_eq_left hk], fun j u hu => ?_, flat_one _⟩⟩
    · have := run_cut_head (some ⟨b, off, none⟩) L.length cap k (by omega) W
      simpa [sliced, add_zero] using this
    · rw [add_off]; exact hc j u (flat_take L k hu)
/-- The rest of a row of pairs. -/
theorem cut_tail {w : World} {B : Nat} {lv : Value} {L : List (Int × Int)} (h : RowIn w B encP lv L) (hcap : ∀ a n c, lv = .slice a n c → n ≤ c) {k : Nat} (hk : k ≤ L.length) :
    ∃ tl, (∀ W, (Instr.slice 38 lv (some (.int .i64 k)) none none).run Try.prog W = .ok tl W) ∧ SrcRow w 2 tl (L.length - k) ((L.drop k).flatMap encP) := by
  rcases h with ⟨rfl, rfl | ⟨ad, cap, rfl⟩⟩ | ⟨b, off, cap, rfl, hb, hc⟩
  · obtain rfl : k = 0 := by simpa using hk
    exact ⟨.slice none 0 0, fun W => by have := run_cut_tail none 0 0 0 (Nat.le_refl _) W; simpa [sliced] using this, .inl ⟨rfl, rfl, rfl⟩⟩
  · obtain rfl : k = 0 := by simpa using hk
    refine ⟨.slice (some ad) 0 cap, fun W => ?_, .inr ⟨ad, cap, rfl, rfl, by simp, by simp⟩⟩
    have := run_cut_tail (some ad) 0 cap 0 (Nat.zero_le _) W
    simpa [sliced, add_zero] using this
  · by_cases he : cap = k
    · refine ⟨.slice (some ⟨b, off, none⟩) (L.length - k) (cap - k), fun W => ?_, ?_⟩
      · have := run_cut_tail (some ⟨b, off, none⟩) L.length cap k hk W
        simpa [sliced, he] using this
      · by_cases hl : L.length = k
        · have e : L.drop k = [] := by rw [List.drop_eq_nil_iff]; omega
          rw [e]
          exact .inr ⟨⟨b, off, none⟩, cap - k, rfl, by simp [hl], by simp, by simp⟩
        · have := hcap _ _ _ rfl
          omega
    · refine ⟨.slice (some ⟨b, off + k * 2, none⟩) (L.length - k) (cap - k), fun W => ?_, .inr ⟨⟨b, off + k * 2, none⟩, cap - k, rfl, by rw [flat_length encP_len, List.length_drop], fun j u hu => ?_, flat_one _⟩⟩
      · have := run_cut_tail (some ⟨b, off, none⟩) L.length cap k hk W
        simpa [sliced, he, add_off] using this
      · rw [add_off, Nat.add_assoc]; exact hc _ u (flat_drop L k hk hu)

/-- What stands at the head of Run's round. -/
structure RunRel (w : World) (kind m : Int) (acts : List Act3) (k : Nat) (lv : Value) (wr : World) : Prop where
  row : wr.ownsRow (w.heap.size + 1) 57 2 lv (runA (ordf kind m) (acts.take k)).length ((runA (ordf kind m) (acts.take k)).flatMap encP)
  keep : Keep (fun _ => False) (w.alloc (.cells #[.int .i64 kind, .int .i64 m] 23)) wr

theorem owns_cap {w : World} {base : Nat} {e : TypeId} {sz : Nat} {v : Value} {n : Nat} {xs : List Value} (h : w.ownsRow base e sz v n xs) : ∀ a n' c, v = .slice a n' c → n' ≤ c := by
  rintro a n' c rfl
  rcases h.2 with ⟨e1, e2⟩ | ⟨g, cap, cur, e1, hb, hg, h1, h2, h3, h4⟩
  · simp only [Value.slice.injEq] at e1; omega
  · simp only [Value.slice.injEq] at e1; omega

/-- The order's box and the act's box, read. -/
theorem run_boxes {w wr W : World} {kind m o key val : Int} (h1 : Keep (fun _ => False) (w.alloc (.cells #[.int .i64 kind, .int .i64 m] 23)) wr) (h2 : Keep (fun _ => False) (wr.alloc (.cells #[.int .i64 o, .int .i64 key, .int .i64 val] 27)) W) :
    (W.cell? ⟨w.heap.size, 0, none⟩ = some (.int .i64 kind) ∧ W.cell? ⟨w.heap.size, 1, none⟩ = some (.int .i64 m)) ∧
    (W.cell? ⟨wr.heap.size, 0, none⟩ = some (.int .i64 o) ∧ W.cell? ⟨wr.heap.size, 1, none⟩ = some (.int .i64 key) ∧ W.cell? ⟨wr.heap.size, 2, none⟩ = some (.int .i64 val)) := by
  have h := h1.trans (((Keep.refl _ _).alloc _).trans h2)
  refine ⟨⟨h.cell (box2 w kind m).1 id, h.cell (box2 w kind m).2 id⟩, h2.cell ?_ id, h2.cell ?_ id, h2.cell ?_ id⟩ <;> (rw [World.cell?_alloc_new]; rfl)

theorem owns_snocP {w : World} {b : Nat} {v : Value} {L : List (Int × Int)} {r : Nat} {e : Int × Int} (h : w.ownsRow b 57 2 v (0 + r + 1) ([] ++ (L.take r).flatMap encP ++ encP e)) : w.ownsRow b 57 2 v (r + 1) ((L.take r ++ [e]).flatMap encP) := by
  simpa [List.flatMap_append] using h

theorem put_row {w : World} {f : Int → Int} {key val : Int} {L : List (Int × Int)} {r d : Nat} {hb : Bool} (hr : r = rank f key L) (hh : hasA f key L = hb) (hd : d = if hb = true then 1 else 0) {b : Nat} {v : Value}
    (h : w.ownsRow b 57 2 v (r + 1 + (L.length - (r + d))) ((L.take r ++ [(key, val)]).flatMap encP ++ (L.drop (r + d)).flatMap encP)) : w.ownsRow b 57 2 v (stepA f L (1, key, val)).length ((stepA f L (1, key, val)).flatMap encP) := by
  have e : stepA f L (1, key, val) = (L.take r ++ [(key, val)]) ++ L.drop (r + d) := by rw [stepA_put, put_rank, hh, ← hr, ← hd]; simp
  have hl : r ≤ L.length := by rw [hr]; exact rank_le key L
  have e2 : ((L.take r ++ [(key, val)]) ++ L.drop (r + d)).length = r + 1 + (L.length - (r + d)) := by simp [Nat.min_eq_left hl]; omega
  rw [e, e2, List.flatMap_append]
  exact h
theorem del_row {w : World} {f : Int → Int} {key val : Int} {L : List (Int × Int)} {r : Nat} (hr : r = rank f key L) (hh : hasA f key L = true) {b : Nat} {v : Value}
    (h : w.ownsRow b 57 2 v (0 + r + (L.length - (r + 1))) ([] ++ (L.take r).flatMap encP ++ (L.drop (r + 1)).flatMap encP)) : w.ownsRow b 57 2 v (stepA f L (2, key, val)).length ((stepA f L (2, key, val)).flatMap encP) := by
  have e : stepA f L (2, key, val) = L.take r ++ L.drop (r + 1) := by rw [stepA_del, del_rank, hh, ← hr]; rfl
  have hl : r ≤ L.length := by rw [hr]; exact rank_le key L
  have e2 : (L.take r ++ L.drop (r + 1)).length = 0 + r + (L.length - (r + 1)) := by simp [Nat.min_eq_left hl]
  rw [e, e2, List.flatMap_append]
  simpa using h

set_option maxRecDepth 100000 in
set_option maxHeartbeats 3200000 in
theorem Run_any {w : World} {kind m : Int} {v : Value} {acts : List Act3} (hok : OrdOk kind m) (ha : ActsIn w w.heap.size v acts) (hlen : acts.length ≤ 100000) :
    Calls Try.prog 32 #[.agg #[.int .i64 kind, .int .i64 m], v] w fun e w' => ∃ sv, e = .returned sv ∧ w'.ownsRow w.heap.size 57 2 sv (runA (ordf kind m) acts).length ((runA (ordf kind m) acts).flatMap encP) ∧ Keep (fun _ => False) w w' := by
  have K0 := hid (show Keep (fun _ => False) w (w.alloc (.cells #[.int .i64 kind, .int .i64 m] 23)) from (Keep.refl _ _).alloc _)
  obtain ⟨i0, hi, hz0, hz1, hz2⟩ := parts57
  have HI := hid (And.intro hi (And.intro hz0 (And.intro hz1 hz2)))
  have HOK := hid hok
  clear hi hz0 hz1 hz2 hok
  obtain ⟨ao, cap0, hav⟩ := ha.len
  rcases ha with ⟨rfl, _⟩ | ⟨b, off, cap, rfl, hb, hc⟩
  · subst hav
    clear hlen
    go_enter Try.func32, Try.ntmps32
    go_wp2_with (fail)
    refine wp_loop_rounds 1 ?_
    rw [rounds_succ]
    go_wp2_with (fail)
    go_ret
    exact ⟨_, rfl, owns_empty _ 57 2 _ (by simp) _ (by omega), K0.out.alloc _⟩
  · have HC := hid (And.intro hb (acts_cells hc))
    have HLEN := hid hlen
    obtain ⟨n, hn⟩ : ∃ n, n = acts.length := ⟨_, rfl⟩
    have HN := hid hn
    rw [← hn]
    clear hb hc hav hlen hn
    go_enter Try.func32, Try.ntmps32
    go_wp2_with (fail)
    go_loopw [5, 14] (fun lv i wr => ∃ k : Nat, k ≤ n ∧ i = .int .i64 k ∧ RunRel w kind m acts k lv wr) (fun _ i _ => n - (intOf i).toNat)
    case atStart => exact ⟨0, Nat.zero_le _, rfl, owns_empty _ 57 2 _ (by simp) _ (by omega), (Keep.refl _ _).alloc _⟩
    case round =>
      obtain ⟨k, hk, rfl, hrel⟩ := hrel
      have HR := hid hrel
      clear hrel
      by_cases hlt : k < n
      · have hnb : n ≤ 100000 := by rw [HN.out]; exact HLEN.out
        have hkL : k < acts.length := by rw [← HN.out]; exact hlt
        obtain ⟨hcb, hcells⟩ := HC.out
        have KW := hid (K0.out.trans HR.out.keep)
        have c0 : wr.cell? ⟨b, off + k * 3, none⟩ = some (.int .i64 acts[k].1) := KW.out.cell (hcells k hkL).1 id
        have c1 : wr.cell? ⟨b, off + k * 3 + 1, none⟩ = some (.int .i64 acts[k].2.1) := KW.out.cell (hcells k hkL).2.1 id
        have c2 : wr.cell? ⟨b, off + k * 3 + 2, none⟩ = some (.int .i64 acts[k].2.2) := KW.out.cell (hcells k hkL).2.2 id
        obtain ⟨a, ha⟩ : ∃ a : Act3, acts[k] = a := ⟨_, rfl⟩
        rw [ha] at c0 c1 c2
        obtain ⟨o, key, val⟩ := a
        simp only at c0 c1 c2
        have HS := hid (show runA (ordf kind m) (acts.take (k + 1)) = stepA (ordf kind m) (runA (ordf kind m) (acts.take k)) (o, key, val) by rw [List.take_succ_eq_append_getElem hkL, runA_snoc, ha])
        have hLL : (runA (ordf kind m) (acts.take k)).length ≤ 100000 := by have := runA_length (ordf kind m) (acts.take k); have h2 := HLEN.out; rw [List.length_take] at this; omega
        obtain ⟨hrow, hkeep⟩ := HR.out
        obtain ⟨L, hL⟩ : ∃ L, L = runA (ordf kind m) (acts.take k) := ⟨_, rfl⟩
        rw [← hL] at hrow hLL HS
        have HROW := hid hrow
        have HK := hid hkeep
        have HLL := hid hLL
        have RI := hid (fun W (hW : Keep (fun _ => False) wr W) => RowIn.of_owns (enc := encP) (ownsRow.on hrow hW))
        have bx := run_boxes (o := o) (key := key) (val := val) hkeep (Keep.refl _ _)
        obtain ⟨⟨e0, e1⟩, ⟨f0, f1, f2⟩⟩ := bx
        have HA := hid (show Keep (fun _ => False) wr (wr.alloc (.cells #[.int .i64 o, .int .i64 key, .int .i64 val] 27)) from (Keep.refl _ _).alloc _)
        clear ha hkL hcb hcells hL hrow hkeep hLL HR
        go_wp2_with (fail)
        refine (At_any HOK.out (RI.out _ HA.out) (by have := HLL.out; omega) key).mono ?_
        rintro e w2 ⟨rfl, hk2⟩
        obtain ⟨r, hr⟩ : ∃ r, r = rank (ordf kind m) key L := ⟨_, rfl⟩
        rw [← hr]
        have HRK := hid hr
        have HRL := hid (show r ≤ L.length by rw [hr]; exact rank_le key L)
        have K2 := hid hk2
        clear e0 e1 f0 f1 f2 hk2 hr
        obtain ⟨⟨e0, e1⟩, ⟨f0, f1, f2⟩⟩ := run_boxes HK.out K2.out
        go_wp2_with (fail)
        refine (Has_any HOK.out (RI.out _ (HA.out.trans K2.out)) (by have := HLL.out; omega) key HRK.out).mono ?_
        rintro e w3 ⟨rfl, hk3⟩
        obtain ⟨hb, hhb⟩ : ∃ hb, hasA (ordf kind m) key L = hb := ⟨_, rfl⟩
        rw [hhb]
        have HHB := hid hhb
        have K3 := hid (K2.out.trans hk3)
        clear e0 e1 f0 f1 f2 hk3 hhb K2
        obtain ⟨⟨e0, e1⟩, ⟨f0, f1, f2⟩⟩ := run_boxes HK.out K3.out
        have KW3 := hid (HA.out.trans K3.out)
        have HF := hid (And.intro f1 f2)
        by_cases h1 : o = 1
        · subst h1
          obtain ⟨hd, hd1, hd2⟩ := cut_head (RI.out w3 KW3.out) (owns_cap HROW.out) HRL.out
          have HD := hid hd2
          clear hd2
          have hrl := HRL.out
          have hll := HLL.out
          go_wp2_with (fail)
          go_cut [10] (fun s wx => wx.ownsRow w3.heap.size 57 2 s (r + 1) ((L.take r ++ [(key, val)]).flatMap encP) ∧ Keep (fun _ => False) w3 wx)
          case first =>
            go_region_held3 (fun w' => w'.cell? ⟨wr.heap.size, 1, none⟩ = some (.int .i64 key) ∧ w'.cell? ⟨wr.heap.size, 2, none⟩ = some (.int .i64 val))
              (first
                | exact HF.out
                | (refine ⟨Keep.cell (w := w3) (S := fun _ => False) ?_ HF.out.1 id, Keep.cell (w := w3) (S := fun _ => False) ?_ HF.out.2 id⟩ <;> ((repeat (first | apply Keep.drew | apply Keep.alloc | apply Keep.drewN)); (first | exact K5.out | exact K4.out | exact Keep.refl _ _ | fail)))
                | fail)
              (first
                | ((with_reducible refine slot_guard ⟨some 37, _, _, _, _, _⟩ ?_); refine step_appk w3 (by (repeat (first | apply Keep.drew | apply Keep.alloc | apply Keep.drewN)); exact Keep.refl _ _) rfl (.tmp 33) (.tmp 36) 38 rfl 57 i0 _ 2 16 Try.underlying38 HI.out.1 HI.out.2.1 HI.out.2.2.1 HI.out.2.2.2 rfl (by decide) _ 0 [] rfl (by (repeat (first | apply owns_drew | exact owns_empty _ _ _ _ (by simp) _ (by simp) | apply World.ownsRow.alloc)); done) _ r _ rfl (HD.out.keep (S := fun _ => False) (by (repeat (first | apply Keep.drew | apply Keep.alloc | apply Keep.drewN)); exact Keep.refl _ _) fun _ _ => id) (by unfold maxLen; omega) (by omega) ?_; intro v4 w4 hown hkp hgr; have O4 := hid hown; have K4 := hid hkp; have G4 := hid hgr; clear hown hgr hkp)
                | ((with_reducible refine slot_guard ⟨some 44, _, _, _, _, _⟩ ?_); refine step_appk w3 (by (repeat (first | apply Keep.drew | apply Keep.alloc | apply Keep.drewN)); exact K4.out) rfl (.tmp 37) (.tmp 43) 38 rfl 57 i0 _ 2 16 Try.underlying38 HI.out.1 HI.out.2.1 HI.out.2.2.1 HI.out.2.2.2 rfl (by decide) _ (0 + r) _ rfl (by (repeat (first | exact O4.out | apply owns_drew | apply World.ownsRow.alloc)); done) _ 1 _ rfl (src_blk (cs := #[.int .i64 key, .int .i64 val]) (e := 57) (fr := (0, 0)) (by first | exact heap_alloc_new w4 _ | ((refine (G4.out _ (by intro h; first | (replace h : some w3.heap.size = some (w3.heap.size + 1) := h; simp at h; done) | (replace h : some (w3.heap.size + 1) = some w3.heap.size := h; simp at h; done) | fail) (by (try simp) <;> (try omega))).trans ?_); (first | exact blk_second w3 _ _ _ | exact blk_first w3 _ _ _ | fail)) | fail) 1 (by rfl) (by simp [Value.oneCell'])) (by unfold maxLen; omega) (by omega) ?_; intro v5 w5 hown hkp hgr; have O5 := hid hown; have K5 := hid hkp; clear hown hgr hkp)
                | fail)
            all_goals (go_wp2_with (fail); go_meet; exact ⟨owns_snocP O5.out, K5.out⟩)
          case rest =>
            obtain ⟨hco, hck⟩ := hcut
            have OC := hid hco
            have KC := hid hck
            clear hco hck
            cases hb with
            | true =>
              have hlt' : r + 1 ≤ L.length := by have := hasA_lt HHB.out; rw [← HRK.out] at this; omega
              obtain ⟨tl, ht1, ht2⟩ := cut_tail (RI.out wc (KW3.out.trans KC.out)) (owns_cap HROW.out) (k := r + 1) hlt'
              have HT := hid ht2
              have ht3 : ∀ W, (Instr.slice 38 u5 (some (.int .i64 ((r : Int) + 1))) none none).run Try.prog W = .ok tl W := ht1
              clear ht1 ht2
              go_wp2_with (at_builtin; refine wpList_app rfl (.tmp 48) (.tmp 51) 38 rfl w3.heap.size 57 i0 _ 2 16 Try.underlying38 HI.out.1 HI.out.2.1 HI.out.2.2.1 HI.out.2.2.2 rfl (by decide) _ (r + 1) _ rfl OC.out _ (L.length - (r + 1)) _ rfl HT.out (by unfold maxLen; omega) (by omega) KC.out.size ?_; intro v6 w6 hown hgr; have O6 := hid hown; have K6 := hid (keep_app KC.out OC.out hgr); clear hown hgr)
              have HQ := hid (put_row HRK.out HHB.out (d := 1) (by decide) O6.out)
              go_roundw
              case rel => exact ⟨k + 1, by omega, by go_num, ⟨by rw [HS.out]; exact owns_mono HQ.out (by have := KW3.out.size; have := HK.out.size; simp at this; omega), HK.out.trans (KW3.out.trans K6.out)⟩⟩
              case measure => simp [intOf]; omega
            | false =>
              have hlt' : r ≤ L.length := hrl
              obtain ⟨tl, ht1, ht2⟩ := cut_tail (RI.out wc (KW3.out.trans KC.out)) (owns_cap HROW.out) (k := r) hlt'
              have HT := hid ht2
              have ht3 : ∀ W, (Instr.slice 38 u5 (some (.int .i64 ((r : Int)))) none none).run Try.prog W = .ok tl W := ht1
              clear ht1 ht2
              go_wp2_with (at_builtin; refine wpList_app rfl (.tmp 48) (.tmp 51) 38 rfl w3.heap.size 57 i0 _ 2 16 Try.underlying38 HI.out.1 HI.out.2.1 HI.out.2.2.1 HI.out.2.2.2 rfl (by decide) _ (r + 1) _ rfl OC.out _ (L.length - r) _ rfl HT.out (by unfold maxLen; omega) (by omega) KC.out.size ?_; intro v6 w6 hown hgr; have O6 := hid hown; have K6 := hid (keep_app KC.out OC.out hgr); clear hown hgr)
              have HQ := hid (put_row HRK.out HHB.out (d := 0) (by decide) O6.out)
              go_roundw
              case rel => exact ⟨k + 1, by omega, by go_num, ⟨by rw [HS.out]; exact owns_mono HQ.out (by have := KW3.out.size; have := HK.out.size; simp at this; omega), HK.out.trans (KW3.out.trans K6.out)⟩⟩
              case measure => simp [intOf]; omega
        · by_cases h2 : o = 2
          · subst h2
            have hrl := HRL.out
            have hll := HLL.out
            cases hb with
            | true =>
              have hlt' : r + 1 ≤ L.length := by have := hasA_lt HHB.out; rw [← HRK.out] at this; omega
              obtain ⟨hd, hd1, hd2⟩ := cut_head (RI.out w3 KW3.out) (owns_cap HROW.out) HRL.out
              have HD := hid hd2
              obtain ⟨tl, ht1, ht2⟩ := cut_tail (RI.out w3 KW3.out) (owns_cap HROW.out) (k := r + 1) hlt'
              have HT := hid ht2
              have ht3 : ∀ W, (Instr.slice 38 u5 (some (.int .i64 ((r : Int) + 1))) none none).run Try.prog W = .ok tl W := ht1
              have hw : IntKind.i64.wrap ((r : Int) + 1) = (r : Int) + 1 := IntWalk.i64_in _ (by omega)
              clear ht1 ht2 hd2
              go_wp2_with (fail)
              go_region_held3 (fun w' => w'.cell? ⟨wr.heap.size, 1, none⟩ = some (.int .i64 key))
                (first
                  | exact HF.out.1
                  | (refine Keep.cell (w := w3) (S := fun _ => False) ?_ HF.out.1 id; (repeat (first | apply Keep.drew | apply Keep.alloc | apply Keep.drewN)); (first | exact K5.out | exact K4.out | exact Keep.refl _ _ | fail))
                  | fail)
                (first
                  | ((with_reducible refine slot_guard ⟨some 60, _, _, _, _, _⟩ ?_); refine step_appk w3 (by (repeat (first | apply Keep.drew | apply Keep.alloc | apply Keep.drewN)); exact Keep.refl _ _) rfl (.tmp 56) (.tmp 59) 38 rfl 57 i0 _ 2 16 Try.underlying38 HI.out.1 HI.out.2.1 HI.out.2.2.1 HI.out.2.2.2 rfl (by decide) _ 0 [] rfl (by (repeat (first | apply owns_drew | exact owns_empty _ _ _ _ (by simp) _ (by simp) | apply World.ownsRow.alloc)); done) _ r _ rfl (HD.out.keep (S := fun _ => False) (by (repeat (first | apply Keep.drew | apply Keep.alloc | apply Keep.drewN)); exact Keep.refl _ _) fun _ _ => id) (by unfold maxLen; omega) (by omega) ?_; intro v4 w4 hown hkp hgr; have O4 := hid hown; have K4 := hid hkp; clear hown hgr hkp)
                  | ((with_reducible refine slot_guard ⟨some 65, _, _, _, _, _⟩ ?_); refine step_appk w3 (by (repeat (first | apply Keep.drew | apply Keep.alloc | apply Keep.drewN)); exact K4.out) rfl (.tmp 60) (.tmp 64) 38 rfl 57 i0 _ 2 16 Try.underlying38 HI.out.1 HI.out.2.1 HI.out.2.2.1 HI.out.2.2.2 rfl (by decide) _ (0 + r) _ rfl (by (repeat (first | exact O4.out | apply owns_drew | apply World.ownsRow.alloc)); done) _ (L.length - (r + 1)) _ rfl (HT.out.keep (S := fun _ => False) (by (repeat (first | apply Keep.drew | apply Keep.alloc | apply Keep.drewN)); (first | exact K4.out | exact Keep.refl _ _ | fail)) fun _ _ => id) (by unfold maxLen; omega) (by omega) ?_; intro v5 w5 hown hkp hgr; have O5 := hid hown; have K5 := hid hkp; clear hown hgr hkp)
                  | fail)
              all_goals
                go_wp2_with (fail)
                have HQ := hid (del_row (val := val) HRK.out HHB.out O5.out)
                go_roundw
                case rel => exact ⟨k + 1, by omega, by go_num, ⟨by rw [HS.out]; exact owns_mono HQ.out (by have := KW3.out.size; have := HK.out.size; simp at this; omega), HK.out.trans (KW3.out.trans K5.out)⟩⟩
                case measure => simp [intOf]; omega
            | false =>
              have HQ := hid (ownsRow.on HROW.out KW3.out)
              go_wp2_with (fail)
              go_roundw
              case rel => exact ⟨k + 1, by omega, by go_num, ⟨by rw [HS.out, stepA_del, del_rank, HHB.out]; exact HQ.out, HK.out.trans KW3.out⟩⟩
              case measure => simp [intOf]; omega
          · by_cases h3 : o = 3
            · subst h3
              go_wp2_with (fail)
              go_roundw
              case rel => exact ⟨k + 1, by omega, by go_num, ⟨by rw [HS.out, stepA_clear]; exact owns_empty _ 57 2 _ rfl _ (by have := KW3.out.size; have := HK.out.size; simp at this; omega), (HK.out.trans KW3.out).alloc _⟩⟩
              case measure => simp [intOf]; omega
            · have HQ := hid (ownsRow.on HROW.out KW3.out)
              have HX := hid (stepA_other (ordf kind m) L key val h1 h2 h3)
              have b1 : (o == 1) = false := by simpa using h1
              have b2 : (o == 2) = false := by simpa using h2
              have b3 : (o == 3) = false := by simpa using h3
              clear h1 h2 h3
              go_wp2_with (fail)
              go_roundw
              case rel => exact ⟨k + 1, by omega, by go_num, ⟨by rw [HS.out, HX.out]; exact HQ.out, HK.out.trans KW3.out⟩⟩
              case measure => simp [intOf]; omega
      · obtain rfl : n = k := by omega
        go_wp2_with (fail)
        go_ret
        have e : acts.take n = acts := by rw [HN.out, List.take_length]
        obtain ⟨h1, h2⟩ := HR.out
        rw [e] at h1
        exact ⟨_, rfl, owns_mono h1 (by omega), K0.out.trans h2⟩
end Go.Proofs.Ytdamfannmlncnaa
