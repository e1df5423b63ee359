/- The reference's Walk walked. -/
import Derived.Test.YtdamfannmlncnaaMapWalk
import Derived.Test.YtdamfannmlncnaaMinMax
import Derived.Test.YtdamfannmlncnaaPuts
import Derived.Deep.DeepCutAuto
import Derived.Deep.CutBlock
namespace Go.Proofs.Ytdamfannmlncnaa
open Go.RowKit
set_option linter.unusedVariables false
set_option linter.unusedSimpArgs false
set_option maxHeartbeats 1600000
attribute [local go_sem ↓] Go.wp_at_zero Go.wp_at_succ

/-- A round of the reference's Walk. -/
structure SwRel (w : World) (n p k : Nat) (out : Value) (S : List Seen3) (wr : World) : Prop where
  row : wr.ownsRow w.heap.size 89 3 out k (S.flatMap encS)
  keep : Keep (fun _ => False) w wr
  le : p ≤ n + 1
section
variable {w wr w' W : World} {n p p' k : Nat} {out out' : Value} {S : List Seen3}
theorem SwRel.on (h : SwRel w n p k out S wr) (hk : Keep (fun _ => False) wr w') : SwRel w n p k out S w' := ⟨ownsRow.on h.row hk, h.keep.trans hk, h.le⟩
theorem SwRel.app (h : SwRel w n p k out S W) (hp : p' ≤ n + 1) {s : Seen3} (hown : w'.ownsRow w.heap.size 89 3 out' (k + 1) (S.flatMap encS ++ encS s)) (hgr : W.grownBy w' out.ownBlock) : SwRel w n p' (k + 1) out' (S ++ [s]) w' :=
  ⟨by simpa [List.flatMap_append] using hown, keep_app h.keep h.row hgr, hp⟩
end
theorem at_val {x y : Int} (h : x = y) : Value.int .i64 x = Value.int .i64 y := by rw [h]
theorem tst_is (mm mr x y : Int) : tst mm mr (x, y) = decide (x % mm = mr) := rfl

theorem two_kept {w W W' : World} {g1 g2 o1 o2 : Nat} {v1 v2 : Value} (hk : Keep (fun _ => False) w W) (h : W.cell? ⟨g1, o1, none⟩ = some v1 ∧ W.cell? ⟨g2, o2, none⟩ = some v2) (hlt : g1 < w.heap.size ∧ g2 < w.heap.size) (hk' : Keep (fun _ => False) w W') :
    W'.cell? ⟨g1, o1, none⟩ = some v1 ∧ W'.cell? ⟨g2, o2, none⟩ = some v2 := by
  have f : ∀ {g o : Nat} {v : Value}, g < w.heap.size → W.cell? ⟨g, o, none⟩ = some v → W'.cell? ⟨g, o, none⟩ = some v := fun {g o v} hg hc => by
    rw [World.cell?_of_block (w := W) (w' := W') ((hk'.block g hg id).trans (hk.block g hg id).symm)]; exact hc
  exact ⟨f hlt.1 h.1, f hlt.2 h.2⟩

set_option maxRecDepth 100000 in
set_option maxHeartbeats 6400000 in
theorem spWalk_any {w : World} {B B2 : Nat} {lv v : Value} {L : List (Int × Int)} {ms : List Act3} (hl : RowIn w B2 encP lv L) (ha : RowIn w B encA v ms) (hlen : L.length ≤ 100000) (hlen3 : ms.length ≤ 100000) (hok : MovesOk ms) :
    Calls Try.prog 35 #[lv, .int .i64 (-1), v] w fun e w' => ∃ sv, e = .returned sv ∧ w'.ownsRow w.heap.size 89 3 sv (walkA L ms).2.length ((walkA L ms).2.flatMap encS) ∧ Keep (fun _ => False) w w' := by
  obtain ⟨la, lc, rfl⟩ := hl.len
  obtain ⟨a0, c0, rfl⟩ := ha.len
  obtain ⟨i0, hi, hz0, hz1, hz2⟩ := parts89
  have HI := hid (And.intro hi (And.intro hz0 (And.intro hz1 hz2)))
  obtain ⟨n, hn⟩ : ∃ n, L.length = n := ⟨_, rfl⟩
  obtain ⟨r, hr⟩ : ∃ r, ms.length = r := ⟨_, rfl⟩
  have HN := hid (And.intro hn hr)
  rw [hn] at hlen ⊢
  rw [hr] at hlen3 ⊢
  have SR := hid (show SwRel w n (walkA L (ms.take 0)).1 0 (.slice (some ⟨w.heap.size, 0, none⟩) 0 0) (walkA L (ms.take 0)).2 (w.alloc (.cells #[] 89)) from
    ⟨owns_empty w 89 3 _ rfl _ (Nat.le_refl _), (Keep.refl _ _).alloc _, Nat.zero_le _⟩)
  have HA := hid ha
  have HLR := hid hl
  have HOK := hid hok
  clear hi hz0 hz1 hz2 hn hr ha hl hok
  go_enter Try.func35, Try.ntmps35
  go_wp2_with (fail)
  go_loopw [1, 7, 14] (fun s1 s i wr => ∃ k : Nat, k ≤ r ∧ i = .int .i64 k ∧ s1 = .int .i64 (((walkA L (ms.take k)).1 : Nat) - 1 : Int) ∧ SwRel w n (walkA L (ms.take k)).1 k s (walkA L (ms.take k)).2 wr) (fun _ _ i _ => r - (intOf i).toNat)
  case atStart => exact ⟨0, Nat.zero_le _, rfl, rfl, SR.out⟩
  case round =>
    obtain ⟨k, hk, rfl, rfl, hrel⟩ := hrel
    by_cases hlt : k < r
    · obtain ⟨a, hak⟩ : ∃ a : Act3, ms[k]? = some a := ⟨_, List.getElem?_eq_getElem (by rw [HN.out.2]; exact hlt)⟩
      have htk : ms.take (k + 1) = ms.take k ++ [a] := by obtain ⟨hl, rfl⟩ := List.getElem?_eq_some_iff.1 hak; exact List.take_succ_eq_append_getElem hl
      obtain ⟨p, hp⟩ : ∃ p, (walkA L (ms.take k)).1 = p := ⟨_, rfl⟩
      obtain ⟨S, hS⟩ : ∃ S, (walkA L (ms.take k)).2 = S := ⟨_, rfl⟩
      have HT := hid (show walkA L (ms.take (k + 1)) = (moveP L a p, S ++ [seenP L (tellsA a) (moveP L a p)]) by rw [htk, walkA_snoc, walkS, hp, hS])
      rw [hp, hS] at hrel
      rw [hp]
      have HMV := hid (HOK.out a (List.mem_of_getElem? hak))
      obtain ⟨o, mm, mr⟩ := a
      obtain ⟨b, off, ha3, hc0, hc1, hc2⟩ := move_at HA.out hak
      subst ha3
      have g0 := hrel.keep.cell hc0 id
      have g1 := hrel.keep.cell hc1 id
      have g2 := hrel.keep.cell hc2 id
      have hpn := hrel.le
      have HRR := hid (hrel.on ((Keep.refl _ _).alloc (.cells #[.int .i64 o, .int .i64 mm, .int .i64 mr] 42)))
      have HQ := hid (show (wr.alloc (.cells #[.int .i64 o, .int .i64 mm, .int .i64 mr] 42)).heap[wr.heap.size]? = some (mobj (o, mm, mr)) from heap_alloc_new wr _)
      obtain ⟨x0, x1, x2⟩ := mobj_cells HQ.out
      clear hak htk hp hS hc0 hc1 hc2 hrel
      go_upto_block 2 with (fail)
      go_cut [1, 10] (fun s1 s10 wx => ∃ x : Int, s1 = .int .i64 x ∧ x = ((moveP L (o, mm, mr) p : Nat) : Int) - 1 ∧ s10 = .bool (tellsA (o, mm, mr)) ∧ Keep (fun _ => False) (wr.alloc (.cells #[.int .i64 o, .int .i64 mm, .int .i64 mr] 42)) wx)
      case first =>
        by_cases h1 : o = 1
        · subst h1
          by_cases hq : p ≤ n
          · go_wp2_with (fail)
            go_meet
            exact ⟨_, rfl, (by rw [show moveP L (1, mm, mr) p = min (p + 1) (L.length + 1) by simp [moveP]]; have := HN.out.1; omega), rfl, Keep.refl _ _⟩
          · go_wp2_with (fail)
            go_meet
            exact ⟨_, rfl, (by rw [show moveP L (1, mm, mr) p = min (p + 1) (L.length + 1) by simp [moveP]]; have := HN.out.1; omega), rfl, Keep.refl _ _⟩
        by_cases h2 : o = 2
        · subst h2
          by_cases hq : p = 0
          · go_wp2_with (fail)
            go_meet
            exact ⟨_, rfl, (by rw [show moveP L (2, mm, mr) p = p - 1 by simp [moveP]]; have := HN.out.1; omega), rfl, Keep.refl _ _⟩
          · go_wp2_with (fail)
            go_meet
            exact ⟨_, rfl, (by rw [show moveP L (2, mm, mr) p = p - 1 by simp [moveP]]; have := HN.out.1; omega), rfl, Keep.refl _ _⟩
        by_cases h3 : o = 3
        · subst h3
          go_wp2_with (fail)
          go_meet
          exact ⟨_, rfl, (by rw [show moveP L (3, mm, mr) p = 1 by simp [moveP]]; have := HN.out.1; omega), rfl, Keep.refl _ _⟩
        by_cases h4 : o = 4
        · subst h4
          go_wp2_with (fail)
          go_meet
          exact ⟨_, rfl, (by rw [show moveP L (4, mm, mr) p = L.length by simp [moveP]]; have := HN.out.1; omega), rfl, Keep.refl _ _⟩
        by_cases h5 : o = 5
        · subst h5
          go_wp2_with (fail)
          go_meet
          exact ⟨_, rfl, (by rw [show moveP L (5, mm, mr) p = 0 by simp [moveP]]; have := HN.out.1; omega), rfl, Keep.refl _ _⟩
        by_cases h6 : o = 6
        · subst h6
          go_wp2_with (fail)
          go_meet
          exact ⟨_, rfl, (by rw [show moveP L (6, mm, mr) p = L.length + 1 by simp [moveP]]; have := HN.out.1; omega), rfl, Keep.refl _ _⟩
        by_cases h7 : o = 7
        · subst h7
          obtain ⟨hm1, hm2⟩ : 1 ≤ mm ∧ mm ≤ 1000 := HMV.out (.inl rfl)
          have RS := hid (fun x W => srest_any x mm hm1 hm2 W)
          obtain ⟨z, hz⟩ : ∃ z, moveP L (7, mm, mr) p = z := ⟨_, rfl⟩
          have HZM := hid hz
          have hz2 : nextP L (tst mm mr) p = z := by rw [← hz]; simp [moveP]
          have HZ := hid hz2
          have HQ2 := HQ
          clear hz hz2 hm1 hm2
          obtain ⟨j0, hj0, hj1, hj2⟩ : ∃ j0 : Nat, j0 ≤ n ∧ j0 = min p n ∧ nextP L (tst mm mr) j0 = z := by
            refine ⟨min p n, by omega, rfl, ?_⟩
            rw [← HZ.out]
            by_cases hq : p ≤ n
            · rw [Nat.min_eq_left hq]
            · rw [Nat.min_eq_right (by omega), nextP_end (by rw [HN.out.1]; omega), nextP_end (by rw [HN.out.1]; omega)]
          have HJ := hid (And.intro hj0 (And.intro hj1 hj2))
          have hst : ∀ x : Int, x = j0 → ∃ j : Nat, j ≤ n ∧ x = j ∧ nextP L (tst mm mr) j = z := fun x hx => ⟨j0, HJ.out.1, hx, HJ.out.2.2⟩
          have HST := hid hst
          clear hj0 hj1 hj2 hst
          by_cases hq : p ≤ n
          all_goals
            go_wp2_with (fail)
            go_loopw [1] (fun s1 wx => ∃ x : Int, s1 = .int .i64 x ∧ (∃ j : Nat, j ≤ n ∧ x = j ∧ nextP L (tst mm mr) j = z) ∧ Keep (fun _ => False) (wr.alloc (.cells #[.int .i64 7, .int .i64 mm, .int .i64 mr] 42)) wx) (fun s1 _ => n + 1 - (intOf s1).toNat)
            case atStart => exact ⟨_, rfl, HST.out _ (by have := HJ.out.2.1; omega), Keep.refl _ _⟩
            case round =>
              obtain ⟨x, rfl, ⟨j, hj, rfl, hz⟩, hkr⟩ := hrel
              have HZJ := hid hz
              have KR := hid hkr
              clear hz hkr
              by_cases hjl : j < n
              · obtain ⟨e0, he0⟩ : ∃ e0, L[j]? = some e0 := ⟨_, List.getElem?_eq_getElem (by rw [HN.out.1]; exact hjl)⟩
                obtain ⟨x, y⟩ := e0
                obtain ⟨g, f, hv, hc0, hc1⟩ := row_at' HLR.out he0
                have HV := hid hv
                have c0 := (HRR.out.keep.trans KR.out).cell hc0 id
                obtain ⟨y0, y1, y2⟩ := mobj_cells (KR.out.get HQ2.out id)
                have HE := hid he0
                obtain ⟨xr, hxr⟩ : ∃ xr, x % mm = xr := ⟨_, rfl⟩
                have RX := hid (fun W => RS.out x W)
                rw [hxr] at RX
                have n1 : (0 : Int) ≤ (j : Int) := by omega
                have n2 : (j : Int) < (n : Int) := by omega
                subst hv
                by_cases hh : xr = mr
                · have HH := hid (show tst mm mr (x, y) = true by rw [tst_is, hxr]; exact decide_eq_true hh)
                  have d1 : (xr != mr) = false := by simp [hh]
                  have d2 : (xr == mr) = true := by simp [hh]
                  clear hh hxr hc0 hc1 he0
                  go_wp2_with (fail)
                  go_quiet ((go_at_call 63; (with_reducible exact q_of (RX.out _))))
                  go_wp2_with (fail)
                  go_meet
                  exact ⟨_, rfl, (by have := nextP_hit HE.out HH.out; rw [HZJ.out] at this; rw [HZM.out, this]; omega), rfl, KR.out.drewN _⟩
                · have HH := hid (show tst mm mr (x, y) = false by rw [tst_is, hxr]; exact decide_eq_false hh)
                  have d1 : (xr != mr) = true := by simp [hh]
                  have d2 : (xr == mr) = false := by simp [hh]
                  clear hh hxr hc0 hc1 he0
                  go_wp2_with (fail)
                  go_quiet ((go_at_call 63; (with_reducible exact q_of (RX.out _))))
                  go_wp2_with (fail)
                  go_roundw
                  case rel => exact ⟨_, rfl, ⟨j + 1, by omega, by omega, by rw [← nextP_miss HE.out HH.out]; exact HZJ.out⟩, KR.out.drewN _⟩
                  case measure => simp [intOf]; omega
              · obtain rfl : n = j := by omega
                have hz := nextP_end (L := L) (T := tst mm mr) (p := n) (by rw [HN.out.1]; omega)
                rw [HZJ.out, HN.out.1] at hz
                have HZE := hid hz
                clear hz
                go_wp2_with (fail)
                go_quiet (fail)
                go_wp2_with (fail)
                go_meet
                exact ⟨_, rfl, (by rw [HZM.out, HZE.out]; try omega), rfl, KR.out.drewN _⟩
        by_cases h8 : o = 8
        · subst h8
          obtain ⟨hm1, hm2⟩ : 1 ≤ mm ∧ mm ≤ 1000 := HMV.out (.inr rfl)
          have RS := hid (fun x W => srest_any x mm hm1 hm2 W)
          obtain ⟨z, hz⟩ : ∃ z, moveP L (8, mm, mr) p = z := ⟨_, rfl⟩
          have HZM := hid hz
          have hz2 : prevTo L (tst mm mr) p = z := by rw [← hz]; simp [moveP]
          have HZ := hid hz2
          have HQ2 := HQ
          clear hz hz2 hm1 hm2
          have hst : ∀ x : Int, x = ((p - 1 : Nat) : Int) - 1 → ∃ q : Nat, q ≤ n ∧ x = (q : Int) - 1 ∧ prevTo L (tst mm mr) (q + 1) = z := fun x hx => by
            refine ⟨p - 1, by omega, hx, ?_⟩
            rw [← HZ.out]
            cases p with
            | zero => rfl
            | succ p => rfl
          have HST := hid hst
          clear hst
          by_cases hq : p = 0
          all_goals
            go_wp2_with (fail)
            go_loopw [1] (fun s1 wx => ∃ x : Int, s1 = .int .i64 x ∧ (∃ q : Nat, q ≤ n ∧ x = (q : Int) - 1 ∧ prevTo L (tst mm mr) (q + 1) = z) ∧ Keep (fun _ => False) (wr.alloc (.cells #[.int .i64 8, .int .i64 mm, .int .i64 mr] 42)) wx) (fun s1 _ => (intOf s1 + 1).toNat)
            case atStart => exact ⟨_, rfl, HST.out _ (by omega), Keep.refl _ _⟩
            case round =>
              obtain ⟨x, rfl, ⟨q, hqn, hx, hz⟩, hkr⟩ := hrel
              have HZJ := hid hz
              have KR := hid hkr
              clear hz hkr
              cases q with
              | succ j =>
                obtain rfl : x = (j : Int) := by omega
                have hjl : j < n := by omega
                obtain ⟨e0, he0⟩ : ∃ e0, L[j]? = some e0 := ⟨_, List.getElem?_eq_getElem (by rw [HN.out.1]; exact hjl)⟩
                obtain ⟨x, y⟩ := e0
                obtain ⟨g, f, hv, hc0, hc1⟩ := row_at' HLR.out he0
                have c0 := (HRR.out.keep.trans KR.out).cell hc0 id
                obtain ⟨y0, y1, y2⟩ := mobj_cells (KR.out.get HQ2.out id)
                have HE := hid he0
                obtain ⟨xr, hxr⟩ : ∃ xr, x % mm = xr := ⟨_, rfl⟩
                have RX := hid (fun W => RS.out x W)
                rw [hxr] at RX
                have n1 : (0 : Int) ≤ (j : Int) := by omega
                have n2 : (j : Int) < (n : Int) := by omega
                subst hv
                by_cases hh : xr = mr
                · have HH := hid (show tst mm mr (x, y) = true by rw [tst_is, hxr]; exact decide_eq_true hh)
                  have d1 : (xr != mr) = false := by simp [hh]
                  have d2 : (xr == mr) = true := by simp [hh]
                  clear hh hxr hc0 hc1 he0 hx
                  go_wp2_with (fail)
                  go_quiet ((go_at_call 63; (with_reducible exact q_of (RX.out _))))
                  go_wp2_with (fail)
                  go_meet
                  exact ⟨_, rfl, (by have := prevTo_hit HE.out HH.out; rw [HZJ.out] at this; rw [HZM.out, this]; omega), rfl, KR.out.drewN _⟩
                · have HH := hid (show tst mm mr (x, y) = false by rw [tst_is, hxr]; exact decide_eq_false hh)
                  have d1 : (xr != mr) = true := by simp [hh]
                  have d2 : (xr == mr) = false := by simp [hh]
                  clear hh hxr hc0 hc1 he0 hx
                  go_wp2_with (fail)
                  go_quiet ((go_at_call 63; (with_reducible exact q_of (RX.out _))))
                  go_wp2_with (fail)
                  go_roundw
                  case rel => exact ⟨_, rfl, ⟨j, by omega, rfl, by rw [← prevTo_miss HE.out HH.out]; exact HZJ.out⟩, KR.out.drewN _⟩
                  case measure => (simp [intOf] <;> omega)
              | zero =>
                obtain rfl : x = -1 := by omega
                have HZE := hid (show z = 0 from HZJ.out.symm)
                clear hx
                go_wp2_with (fail)
                go_quiet (fail)
                go_wp2_with (fail)
                go_meet
                exact ⟨_, rfl, (by rw [HZM.out, HZE.out]; try omega), rfl, KR.out.drewN _⟩
        have b1 : (o == 1) = false := by simpa using h1
        have b2 : (o == 2) = false := by simpa using h2
        have b3 : (o == 3) = false := by simpa using h3
        have b4 : (o == 4) = false := by simpa using h4
        have b5 : (o == 5) = false := by simpa using h5
        have b6 : (o == 6) = false := by simpa using h6
        have b7 : (o == 7) = false := by simpa using h7
        have b8 : (o == 8) = false := by simpa using h8
        have HX := hid (show moveP L (o, mm, mr) p = p ∧ tellsA (o, mm, mr) = false from ⟨by simp [moveP, h1, h2, h3, h4, h5, h6, h7, h8], by simp [tellsA, h1, h2, h3, h4, h7, h8]⟩)
        clear h1 h2 h3 h4 h5 h6 h7 h8
        go_wp2_with (fail)
        go_meet
        exact ⟨_, rfl, by rw [HX.out.1], by rw [HX.out.2], Keep.refl _ _⟩
      case rest =>
        obtain ⟨x, rfl, hx, rfl, hkc⟩ := hcut
        obtain ⟨p1, hp1⟩ : ∃ p1, moveP L (o, mm, mr) p = p1 := ⟨_, rfl⟩
        obtain ⟨tl, htl⟩ : ∃ tl, tellsA (o, mm, mr) = tl := ⟨_, rfl⟩
        have hl1 : p1 ≤ n + 1 := by rw [← hp1]; have := moveP_le L (o, mm, mr) (p := p) (by rw [HN.out.1]; exact hpn); rw [HN.out.1] at this; exact this
        rw [hp1, htl] at HT
        rw [hp1] at hx
        rw [htl]
        have HC := hid (HRR.out.on hkc)
        clear hp1 htl hkc x0 x1 x2 g0 g1 g2
        have HL1 := hid hl1
        have HXX := hid hx
        cases tl with
        | false =>
          clear hx hl1
          go_wp2_with (first
            | (at_builtin; refine wpList_append_own_at _ rfl (.tmp 118) (.tmp 120) 44 rfl w.heap.size 89 i0 _ 3 24 Try.underlying44 HI.out.1 HI.out.2.1 HI.out.2.2.1 HI.out.2.2.2 rfl (by decide) u7 k _ rfl (HC.out.row.alloc _) _ 1 _ (encS (false, 0, 0)) rfl (by rfl) (seen_src (new_at (by simp))) (encS_one _) (by unfold maxLen; omega) (by omega) (by have := HC.out.keep.size; simp; omega) ?_; intro v5 w5 hown hgr hnil hat; have O5 := hid (SwRel.app (p' := p1) (s := (false, 0, 0)) (HC.out.on ((Keep.refl _ _).alloc _)) HL1.out hown hgr); clear hown hgr hnil hat)
            | fail)
          go_roundw
          case rel => exact ⟨k + 1, by omega, by go_num, at_val (by rw [HT.out]; exact HXX.out), by rw [HT.out]; rw [show seenP L false p1 = (false, 0, 0) from rfl]; exact O5.out⟩
          case measure => simp [intOf]; omega
        | true =>
          obtain ⟨bz, hbz⟩ : ∃ bz, (atP L p1).1 = bz := ⟨_, rfl⟩
          cases bz with
          | false =>
            have HSF := hid (seen_false hbz)
            have hor : p1 = 0 ∨ p1 = n + 1 := by
              rw [atP_bool, HN.out.1] at hbz
              have := of_decide_eq_false hbz
              omega
            clear hbz
            rcases hor with h0 | h0
            · obtain rfl : x = -1 := by omega
              clear hx h0 hl1
              go_wp2_with (first
                | (at_builtin; refine wpList_append_own_at _ rfl (.tmp 118) (.tmp 120) 44 rfl w.heap.size 89 i0 _ 3 24 Try.underlying44 HI.out.1 HI.out.2.1 HI.out.2.2.1 HI.out.2.2.2 rfl (by decide) u7 k _ rfl (HC.out.row.alloc _) _ 1 _ (encS (false, 0, 0)) rfl (by rfl) (seen_src (new_at (by simp))) (encS_one _) (by unfold maxLen; omega) (by omega) (by have := HC.out.keep.size; simp; omega) ?_; intro v5 w5 hown hgr hnil hat; have O5 := hid (SwRel.app (p' := p1) (s := (false, 0, 0)) (HC.out.on ((Keep.refl _ _).alloc _)) HL1.out hown hgr); clear hown hgr hnil hat)
                | fail)
              go_roundw
              case rel => exact ⟨k + 1, by omega, by go_num, at_val (by rw [HT.out]; exact HXX.out), by rw [HT.out]; rw [show seenP L true p1 = (false, 0, 0) from HSF.out]; exact O5.out⟩
              case measure => simp [intOf]; omega
            · obtain rfl : x = (n : Int) := by omega
              have n1 : (0 : Int) ≤ (n : Int) := by omega
              clear hx h0 hl1
              go_wp2_with (first
                | (at_builtin; refine wpList_append_own_at _ rfl (.tmp 118) (.tmp 120) 44 rfl w.heap.size 89 i0 _ 3 24 Try.underlying44 HI.out.1 HI.out.2.1 HI.out.2.2.1 HI.out.2.2.2 rfl (by decide) u7 k _ rfl (HC.out.row.alloc _) _ 1 _ (encS (false, 0, 0)) rfl (by rfl) (seen_src (new_at (by simp))) (encS_one _) (by unfold maxLen; omega) (by omega) (by have := HC.out.keep.size; simp; omega) ?_; intro v5 w5 hown hgr hnil hat; have O5 := hid (SwRel.app (p' := p1) (s := (false, 0, 0)) (HC.out.on ((Keep.refl _ _).alloc _)) HL1.out hown hgr); clear hown hgr hnil hat)
                | fail)
              go_roundw
              case rel => exact ⟨k + 1, by omega, by go_num, at_val (by rw [HT.out]; exact HXX.out), by rw [HT.out]; rw [show seenP L true p1 = (false, 0, 0) from HSF.out]; exact O5.out⟩
              case measure => simp [intOf]; omega
          | true =>
            obtain ⟨q, kx, vx, hpq, hq, hat⟩ := seen_true hbz
            have hql : q < n := by rw [← HN.out.1]; exact (List.getElem?_eq_some_iff.1 hq).1
            obtain rfl : x = (q : Int) := by omega
            have HSF := hid hat
            obtain ⟨g, f, hv, hc0, hc1⟩ := row_at' HLR.out hq
            have HCL := hid (And.intro (HC.out.keep.cell hc0 id) (HC.out.keep.cell hc1 id))
            have HLT := hid (And.intro (World.block_lt_of_cell? _ _ hc0) (World.block_lt_of_cell? _ _ hc1))
            subst hv
            have n1 : (0 : Int) ≤ (q : Int) := by omega
            have n2 : (q : Int) < (n : Int) := by omega
            clear hbz hpq hq hat hc0 hc1 hx hl1
            go_wp2_with (fail)
            go_region_held3 (fun w' => w'.cell? ⟨g, f + q * 2, none⟩ = some (.int .i64 kx) ∧ w'.cell? ⟨g, f + q * 2 + 1, none⟩ = some (.int .i64 vx))
              (first
                | exact HCL.out
                | (refine two_kept (w := w) HC.out.keep HCL.out HLT.out ?_; (repeat (first | exact Keep.refl _ _ | exact HC.out.keep | exact K5.out | apply Keep.drew | apply Keep.alloc | apply Keep.drewN)); done)
                | fail)
              (first
                | ((with_reducible refine slot_guard ⟨some 117, _, _, _, _, _⟩ ?_); refine step_app_at rfl (.tmp 104) (.tmp 116) 44 rfl w.heap.size 89 i0 _ 3 24 Try.underlying44 HI.out.1 HI.out.2.1 HI.out.2.2.1 HI.out.2.2.2 rfl (by decide) u7 k _ rfl (by have h := HC.out.row; (repeat (first | exact h | apply owns_drew | apply World.ownsRow.alloc)); done) _ 1 _ (encS (true, kx, vx)) rfl (by rfl) (seen_src (new_at rfl)) (encS_one _) (by unfold maxLen; omega) (by omega) (by have := HC.out.keep.size; simp; omega) ?_; intro v5 w5 hown hgr hat; have O5 := hid (SwRel.app (p' := p1) (s := (true, kx, vx)) (HC.out.on (by (repeat (first | exact Keep.refl _ _ | apply Keep.drew | apply Keep.alloc | apply Keep.drewN)); done)) HL1.out hown hgr); have K5 := hid O5.out.keep; clear hown hgr hat)
                | fail)
            all_goals
              (try go_wp2_with (fail))
              go_roundw
              case rel => exact ⟨k + 1, by omega, by go_num, at_val (by rw [HT.out]; exact HXX.out), by rw [HT.out]; rw [show seenP L true p1 = (true, kx, vx) from HSF.out]; exact O5.out⟩
              case measure => simp [intOf]; omega
    · obtain rfl : r = k := by omega
      have HW := hid hrel
      clear hrel
      go_wp2_with (fail)
      go_ret
      have h := HW.out
      rw [List.take_of_length_le (by rw [HN.out.2]; omega)] at h
      exact ⟨_, rfl, by rw [walkA_len, HN.out.2]; exact h.row, h.keep⟩
end Go.Proofs.Ytdamfannmlncnaa
