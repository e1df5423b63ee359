/- walked, walked by an iterator's places. -/
import Derived.Test.YtdamfannmlncnaaTo
import Derived.Maps.AppendAt
namespace Go.Proofs.Ytdamfannmlncnaa
open Go.RowKit
set_option linter.unusedVariables false
set_option linter.unusedSimpArgs false
set_option maxHeartbeats 1600000
attribute [local go_sem ↓] Go.wp_at_zero Go.wp_at_succ

/-- A seen pair's cells. -/
def encS (s : Seen3) : List Value := [.bool s.1, .int .i64 s.2.1, .int .i64 s.2.2]
theorem encS_len (s : Seen3) : (encS s).length = 3 := rfl
theorem encS_one (s : Seen3) : ∀ u ∈ encS s, u.oneCell' = true := by simp [encS, Value.oneCell']
theorem info89 : (Try.prog.info? 89).map (fun i => (i.zero, i.size, i.bytes)) = some (some (.agg #[.bool false, .int .i64 0, .int .i64 0]), 3, 24) := by kernel_rfl
theorem parts89 : ∃ i, Try.prog.info? 89 = some i ∧ i.zero = some (.agg #[.bool false, .int .i64 0, .int .i64 0]) ∧ i.size = 3 ∧ i.bytes = 24 := by
  have h := info89
  cases hi : Try.prog.info? 89 with
  | none => rw [hi] at h; cases h
  | some i => rw [hi] at h; simp only [Option.map_some, Option.some.injEq, Prod.mk.injEq] at h; exact ⟨i, rfl, h.1, h.2.1, h.2.2⟩
theorem seen_src {W : World} {g : Nat} {b : Bool} {k x : Int} (h : W.heap[g]? = some (.cells #[.bool b, .int .i64 k, .int .i64 x] 89 (0, 0))) : ∀ j u, (encS (b, k, x))[j]? = some u → W.cell? ((⟨g, 0, none⟩ : Addr).add j) = some u := fun j u hu => by
  rw [add_off, Nat.zero_add, World.cell?, h]; simpa [encS] using hu
theorem new_at {X : World} {O : Obj} {g : Nat} (hg : X.heap.size = g) : (X.alloc O).heap[g]? = some O := by subst hg; exact heap_alloc_new X O

theorem seen_true {L : List (Int × Int)} {p : Nat} (h : (atP L p).1 = true) : ∃ q k v, p = q + 1 ∧ L[q]? = some (k, v) ∧ atP L p = (true, k, v) := by
  cases p with
  | zero => cases h
  | succ q =>
    cases hq : L[q]? with
    | none => rw [show atP L (q + 1) = (false, 0, 0) by simp [atP, hq]] at h; cases h
    | some e => exact ⟨q, e.1, e.2, rfl, hq, atP_some hq⟩
theorem seen_false {L : List (Int × Int)} {p : Nat} (h : (atP L p).1 = false) : atP L p = (false, 0, 0) := by
  cases p with
  | zero => rfl
  | succ q =>
    cases hq : L[q]? with
    | none => simp [atP, hq]
    | some e => rw [atP_some hq] at h; cases h
theorem ents_of {t : T} {q : Nat} {k v : Int} (h : t.toList[q]? = some (k, v)) : ∃ x, t.ents[q]? = some (x, k, v) := by
  unfold T.toList at h
  rw [List.getElem?_map] at h
  cases he : t.ents[q]? with
  | none => rw [he] at h; cases h
  | some e => rw [he] at h; obtain ⟨x, k', v'⟩ := e; have := Option.some.inj h; simp only [Prod.mk.injEq] at this; obtain ⟨rfl, rfl⟩ := this; exact ⟨x, rfl⟩

/-- A round of walked: the iterator at the place p; S is what was seen. -/
structure WkRel (w : World) (ib tb : Nat) (t : T) (p k : Nat) (out : Value) (S : List Seen3) (wr : World) : Prop where
  tor : ToRel w ib tb t p wr
  row : wr.ownsRow w.heap.size 89 3 out k (S.flatMap encS)
  le : p ≤ t.ents.length + 1
section
variable {w wr w' W : World} {ib tb p p' k : Nat} {n : Int} {cv out out' : Value} {t : T} {S : List Seen3}
theorem WkRel.on (h : WkRel w ib tb t p k out S wr) (hk : Keep (fun _ => False) wr w') : WkRel w ib tb t p k out S w' :=
  ⟨⟨h.tor.it.keep hk id, h.tor.keep.trans (hk.mono fun _ _ => False.elim)⟩, ownsRow.on h.row hk, h.le⟩
theorem WkRel.move (h : WkRel w ib tb t p k out S wr) (hib : ib < w.heap.size) (hi : ItIn w' ib 96 tb t p') (hk : Keep (fun i => i = ib) wr w') (hl : p' ≤ t.ents.length + 1) : WkRel w ib tb t p' k out S w' :=
  ⟨⟨hi, h.tor.keep.trans hk⟩, ownsRow_congr h.row fun g hg => hk.block g (h.row.lt g hg).2 (fun e => by have := (h.row.lt g hg).1; omega), hl⟩
theorem WkRel.app (h : WkRel w ib tb t p k out S wr) (hib : ib < w.heap.size) (hk : Keep (fun _ => False) wr W) {s : Seen3} (hown : w'.ownsRow w.heap.size 89 3 out' (k + 1) (S.flatMap encS ++ encS s)) (hgr : W.grownBy w' out.ownBlock) : WkRel w ib tb t p (k + 1) out' (S ++ [s]) w' := by
  have hg : Keep (fun i => w.heap.size ≤ i) W w' := Keep.grown hgr fun g hg _ => (h.row.lt g hg).1
  have h2 := h.on hk
  refine ⟨⟨h2.tor.it.keep hg (by omega), h2.tor.keep.then hg fun i hi e => by omega⟩, by simpa [List.flatMap_append] using hown, h.le⟩

theorem dec_iff {P Q : Prop} [Decidable P] [Decidable Q] (h : P ↔ Q) : decide P = decide Q := by simp [h]
theorem nextP_pos {L : List (Int × Int)} {T : Int × Int → Bool} (p : Nat) : 1 ≤ nextP L T p := by
  unfold nextP
  have : ∀ fuel p, 1 ≤ nextTo L T fuel p := by
    intro fuel
    induction fuel with
    | zero => intro p; rw [nextTo]; omega
    | succ f ih =>
      intro p
      rw [nextTo]
      cases h : L[p]? with
      | none => simp
      | some e =>
        simp only
        split
        · omega
        · exact ih _
  exact this _ _
/-- What a move that tells comes to. -/
def TellPost (w : World) (ib tb : Nat) (t : T) (k : Nat) (out : Value) (S : List Seen3) (a : Act3) (p : Nat) (e : Ending) (w' : World) : Prop :=
  e = .returned (.bool (atP t.toList (moveP t.toList a p)).1) ∧ WkRel w ib tb t (moveP t.toList a p) k out S w'
theorem tell_of {a : Act3} {b : Bool} (h : WkRel w ib tb t p k out S wr) (hib : ib < w.heap.size) (hp : moveP t.toList a p = p') (hl : p' ≤ t.ents.length + 1) (hb : b = decide (1 ≤ p' ∧ p' ≤ t.ents.length)) {e : Ending} (hm : MovePost wr ib 96 tb t b p' e w') : TellPost w ib tb t k out S a p e w' := by
  obtain ⟨rfl, hi, hk⟩ := hm
  unfold TellPost
  rw [hp, atP_bool, toList_length, ← hb]
  exact ⟨rfl, h.move hib hi hk hl⟩
theorem wk_op1 (hd : ToHead w ib tb n cv t) (hib : ib < w.heap.size) (h : WkRel w ib tb t p k out S wr) (mm mr : Int) :
    Calls Try.prog 92 #[.pointer (some ⟨ib, 0, none⟩)] wr (TellPost w ib tb t k out S (1, mm, mr) p) := by
  have hl := h.le
  refine (mnext_any h.tor.it (hd.on h.tor) hd.ne hd.nm h.le).mono fun e w' hm => tell_of h hib ?_ ?_ (dec_iff ?_) hm
  · simp [moveP, toList_length]
  · omega
  · omega
theorem wk_op2 (hd : ToHead w ib tb n cv t) (hib : ib < w.heap.size) (h : WkRel w ib tb t p k out S wr) (mm mr : Int) :
    Calls Try.prog 93 #[.pointer (some ⟨ib, 0, none⟩)] wr (TellPost w ib tb t k out S (2, mm, mr) p) := by
  have hl := h.le
  refine (mprev_any h.tor.it (hd.on h.tor) hd.ne hd.nm h.le).mono fun e w' hm => tell_of h hib ?_ ?_ (dec_iff ?_) hm
  · simp [moveP, toList_length]
  · omega
  · omega
theorem wk_op3 (hd : ToHead w ib tb n cv t) (hib : ib < w.heap.size) (h : WkRel w ib tb t p k out S wr) (mm mr : Int) :
    Calls Try.prog 94 #[.pointer (some ⟨ib, 0, none⟩)] wr (TellPost w ib tb t k out S (3, mm, mr) p) := by
  have hl := h.le
  refine (mfirst_any h.tor.it (hd.on h.tor) hd.ne hd.nm).mono fun e w' hm => tell_of h hib ?_ ?_ (dec_iff ?_) hm
  · simp [moveP, toList_length]
  · omega
  · omega
theorem wk_op4 (hd : ToHead w ib tb n cv t) (hib : ib < w.heap.size) (h : WkRel w ib tb t p k out S wr) (mm mr : Int) :
    Calls Try.prog 95 #[.pointer (some ⟨ib, 0, none⟩)] wr (TellPost w ib tb t k out S (4, mm, mr) p) := by
  have hl := h.le
  refine (mlast_any h.tor.it (hd.on h.tor) hd.ne hd.nm).mono fun e w' hm => tell_of h hib ?_ ?_ (dec_iff ?_) hm
  · simp [moveP, toList_length]
  · omega
  · omega
theorem wk_op5 (hib : ib < w.heap.size) (h : WkRel w ib tb t p k out S wr) (mm mr : Int) :
    Calls Try.prog 96 #[.pointer (some ⟨ib, 0, none⟩)] wr fun e w' => e = .returned (.tuple #[]) ∧ WkRel w ib tb t (moveP t.toList (5, mm, mr) p) k out S w' := by
  refine (mbegin_any h.tor.it).mono ?_
  rintro e w' ⟨rfl, hi, hk⟩
  refine ⟨rfl, h.move hib ?_ hk ?_⟩
  · simpa [moveP, toList_length] using hi
  · simp [moveP, toList_length]
theorem wk_op6 (hib : ib < w.heap.size) (h : WkRel w ib tb t p k out S wr) (mm mr : Int) :
    Calls Try.prog 97 #[.pointer (some ⟨ib, 0, none⟩)] wr fun e w' => e = .returned (.tuple #[]) ∧ WkRel w ib tb t (moveP t.toList (6, mm, mr) p) k out S w' := by
  refine (mend_any h.tor.it).mono ?_
  rintro e w' ⟨rfl, hi, hk⟩
  refine ⟨rfl, h.move hib ?_ hk ?_⟩
  · simpa [moveP, toList_length] using hi
  · simp [moveP, toList_length]
theorem wk_op7 (hd : ToHead w ib tb n cv t) (hib : ib < w.heap.size) (h : WkRel w ib tb t p k out S wr) {qb : Nat} {o mm mr : Int} (hq : wr.heap[qb]? = some (mobj (o, mm, mr))) (hqi : qb ≠ ib) (h1 : 1 ≤ mm) (h2 : mm ≤ 1000) :
    Calls Try.prog 98 #[.pointer (some ⟨ib, 0, none⟩), .func (.func 91) #[] #[.pointer (some ⟨qb, 0, none⟩)]] wr (TellPost w ib tb t k out S (7, mm, mr) p) := by
  refine (nextTo_any h.tor.it (hd.on h.tor) hd.ne hd.nm h.le hq hqi h1 h2).mono fun e w' hm => tell_of h hib ?_ ?_ (dec_iff ?_) hm
  · simp [moveP]
  · have := nextP_le (L := t.toList) (T := tst mm mr) p; rw [toList_length] at this; exact this
  · have := nextP_pos (L := t.toList) (T := tst mm mr) p; omega
theorem wk_op8 (hd : ToHead w ib tb n cv t) (hib : ib < w.heap.size) (h : WkRel w ib tb t p k out S wr) {qb : Nat} {o mm mr : Int} (hq : wr.heap[qb]? = some (mobj (o, mm, mr))) (hqi : qb ≠ ib) (h1 : 1 ≤ mm) (h2 : mm ≤ 1000) :
    Calls Try.prog 99 #[.pointer (some ⟨ib, 0, none⟩), .func (.func 91) #[] #[.pointer (some ⟨qb, 0, none⟩)]] wr (TellPost w ib tb t k out S (8, mm, mr) p) := by
  refine (prevTo_any h.tor.it (hd.on h.tor) hd.ne hd.nm h.le hq hqi h1 h2).mono fun e w' hm => tell_of h hib ?_ ?_ (dec_iff ?_) hm
  · simp [moveP]
  · have := prevTo_le (L := t.toList) (T := tst mm mr) p; rw [toList_length] at this; omega
  · have := prevTo_le (L := t.toList) (T := tst mm mr) p; rw [toList_length] at this; omega
end

theorem row_blk {w : World} {B : Nat} {b off n c0 k : Nat} {acts : List Act3} {a : Act3} (h : RowIn w B encA (.slice (some ⟨b, off, none⟩) n c0) acts) (hk : acts[k]? = some a) : b < B ∧ b < B := by
  rcases h with ⟨rfl, -⟩ | ⟨b', off', cap, hv, hb, hc⟩
  · simp at hk
  · simp only [Value.slice.injEq, Option.some.injEq, Addr.mk.injEq] at hv
    have := hv.1.1
    omega
theorem move_at {w : World} {B : Nat} {a0 : Option Addr} {n c0 k : Nat} {acts : List Act3} {a : Act3} (h : RowIn w B encA (.slice a0 n c0) acts) (hk : acts[k]? = some a) :
    ∃ b off, a0 = some ⟨b, off, none⟩ ∧ w.cell? ⟨b, off + k * 3, none⟩ = some (.int .i64 a.1) ∧ w.cell? ⟨b, off + k * 3 + 1, none⟩ = some (.int .i64 a.2.1) ∧ w.cell? ⟨b, off + k * 3 + 2, none⟩ = some (.int .i64 a.2.2) := by
  obtain ⟨hl, rfl⟩ := List.getElem?_eq_some_iff.1 hk
  rcases h with ⟨rfl, -⟩ | ⟨b, off, cap, hv, hb, hc⟩
  · simp at hl
  · simp only [Value.slice.injEq] at hv
    obtain ⟨rfl, -, -⟩ := hv
    exact ⟨b, off, rfl, acts_cells hc k hl⟩

set_option maxRecDepth 100000 in
set_option maxHeartbeats 6400000 in
theorem walked_any {w : World} {B ib tb : Nat} {n : Int} {cv v : Value} {t : T} {ms : List Act3} (h : ItIn w ib 96 tb t 0) (ht : TreeIn w tb n cv t) (hd : ib ≠ tb) (hm : ib ∉ t.ids) (ha : RowIn w B encA v ms) (hB : B ≤ ib) (hlen : ms.length ≤ 100000) (hok : MovesOk ms) :
    Calls Try.prog 62 #[.pointer (some ⟨ib, 0, none⟩), v] w fun e w' => ∃ sv, e = .returned sv ∧ w'.ownsRow w.heap.size 89 3 sv (walkA t.toList ms).2.length ((walkA t.toList ms).2.flatMap encS) ∧ Keep (fun i => i = ib) w w' := by
  have HD := hid (show ToHead w ib tb n cv t from ⟨ht, hd, hm⟩)
  have HIB := hid (lt_of_heap h)
  have SR := hid (show WkRel w ib tb t (walkA t.toList (ms.take 0)).1 0 (.slice (some ⟨w.heap.size, 0, none⟩) 0 0) (walkA t.toList (ms.take 0)).2 (w.alloc (.cells #[] 89)) from
    ⟨⟨(Keep.alloc (Keep.refl (fun _ => False) w) _).get h id, (Keep.refl _ _).alloc _⟩, owns_empty w 89 3 _ rfl _ (Nat.le_refl _), Nat.zero_le _⟩)
  obtain ⟨i0, hi, hz0, hz1, hz2⟩ := parts89
  have HI := hid (And.intro hi (And.intro hz0 (And.intro hz1 hz2)))
  obtain ⟨a0, c0, rfl⟩ := ha.len
  have HA := hid (And.intro ha hB)
  have HOK := hid hok
  obtain ⟨r, hr⟩ : ∃ r, ms.length = r := ⟨_, rfl⟩
  have HR0 := hid hr
  rw [hr] at hlen ⊢
  clear h ht hd hm ha hB hok hi hz0 hz1 hz2 hr
  go_enter Try.func62, Try.ntmps62
  go_wp2_with (fail)
  go_loopw [5, 14] (fun s i wr => ∃ k : Nat, k ≤ r ∧ i = .int .i64 k ∧ WkRel w ib tb t (walkA t.toList (ms.take k)).1 k s (walkA t.toList (ms.take k)).2 wr) (fun _ i _ => r - (intOf i).toNat)
  case atStart => exact ⟨0, Nat.zero_le _, rfl, SR.out⟩
  case round =>
    obtain ⟨k, hk, rfl, hrel⟩ := hrel
    by_cases hlt : k < r
    · obtain ⟨a, hak⟩ : ∃ a : Act3, ms[k]? = some a := ⟨_, List.getElem?_eq_getElem (by rw [HR0.out]; exact hlt)⟩
      have htk : ms.take (k + 1) = ms.take k ++ [a] := by obtain ⟨hl, rfl⟩ := List.getElem?_eq_some_iff.1 hak; exact List.take_succ_eq_append_getElem hl
      obtain ⟨p, hp⟩ : ∃ p, (walkA t.toList (ms.take k)).1 = p := ⟨_, rfl⟩
      obtain ⟨S, hS⟩ : ∃ S, (walkA t.toList (ms.take k)).2 = S := ⟨_, rfl⟩
      have HT := hid (show walkA t.toList (ms.take (k + 1)) = (moveP t.toList a p, S ++ [seenP t.toList (tellsA a) (moveP t.toList a p)]) by rw [htk, walkA_snoc, walkS, hp, hS])
      rw [hp, hS] at hrel
      have HMV := hid (HOK.out a (List.mem_of_getElem? hak))
      obtain ⟨o, mm, mr⟩ := a
      obtain ⟨b, off, ha3, hc0, hc1, hc2⟩ := move_at HA.out.1 hak
      subst ha3
      have hbi : ¬ b = ib := by have := (row_blk HA.out.1 hak).2; have := HA.out.2; have := (row_blk HA.out.1 hak).1; omega
      have g0 := hrel.tor.keep.cell hc0 hbi
      have g1 := hrel.tor.keep.cell hc1 hbi
      have g2 := hrel.tor.keep.cell hc2 hbi
      have HW := hid (hrel.on ((Keep.refl _ _).alloc (.cells #[.int .i64 o, .int .i64 mm, .int .i64 mr] 42)))
      have HQ := hid (show (wr.alloc (.cells #[.int .i64 o, .int .i64 mm, .int .i64 mr] 42)).heap[wr.heap.size]? = some (mobj (o, mm, mr)) from heap_alloc_new wr _)
      have HQI := hid (show wr.heap.size ≠ ib by have := hrel.tor.keep.size; have := HIB.out; omega)
      obtain ⟨x0, x1, x2⟩ := mobj_cells HQ.out
      have HSZ := hid hrel.tor.keep.size
      clear hak htk hp hS hc0 hc1 hc2 hbi hrel
      by_cases h1 : o = 1
      · subst h1
        have CT := hid (wk_op1 HD.out HIB.out HW.out mm mr)
        obtain ⟨p1, hp1⟩ : ∃ p1, moveP t.toList (1, mm, mr) p = p1 := ⟨_, rfl⟩
        obtain ⟨bz, hbz⟩ : ∃ bz, (atP t.toList p1).1 = bz := ⟨_, rfl⟩
        unfold TellPost at CT
        have htl : tellsA (1, mm, mr) = true := rfl
        rw [hp1, htl] at HT
        rw [hp1, hbz] at CT
        clear hp1 htl
        cases bz with
        | false =>
          have HSF := hid (seen_false hbz)
          clear hbz
          go_wp2_with (fail)
          refine CT.out.mono ?_
          rintro e w2 ⟨rfl, hw2⟩
          have H2 := hid hw2
          clear hw2
          go_wp2_with (first
            | (at_builtin; refine wpList_append_own_at _ rfl (.tmp 66) (.tmp 68) 44 rfl w.heap.size 89 i0 _ 3 24 Try.underlying44 HI.out.1 HI.out.2.1 HI.out.2.2.1 HI.out.2.2.2 rfl (by decide) u5 k _ rfl (ownsRow.on H2.out.row (by (repeat (first | exact Keep.refl _ _ | apply Keep.drew | apply Keep.alloc | apply Keep.drewN | refine Keep.freshSet ?_ (Nat.le_refl _) _ _)); done)) _ 1 _ (encS (false, 0, 0)) rfl (by rfl) (seen_src (new_at (by simp))) (encS_one _) (by unfold maxLen; omega) (by omega) (by have := HSZ.out; have := H2.out.tor.keep.size; simp; omega) ?_; intro v5 w5 hown hgr hnil hat; have O5 := hid (WkRel.app (s := (false, 0, 0)) H2.out HIB.out (by (repeat (first | exact Keep.refl _ _ | apply Keep.drew | apply Keep.alloc | apply Keep.drewN | refine Keep.freshSet ?_ (Nat.le_refl _) _ _)); done) hown hgr); clear hown hgr hnil hat)
            | fail)
          go_roundw
          case rel => exact ⟨k + 1, by omega, by go_num, by rw [HT.out]; rw [show seenP t.toList true p1 = (false, 0, 0) from HSF.out]; exact O5.out⟩
          case measure => simp [intOf]; omega
        | true =>
          obtain ⟨q, kx, vx, rfl, hq, hat⟩ := seen_true hbz
          obtain ⟨x, hx⟩ := ents_of hq
          have HSF := hid (And.intro hat hx)
          clear hbz hq hat hx
          go_wp2_with (fail)
          refine CT.out.mono ?_
          rintro e w2 ⟨rfl, hw2⟩
          have H2 := hid hw2
          have KV := hid (fun W (hW : Keep (fun _ => False) w2 W) => And.intro (to_key HD.out (H2.out.on hW).tor HSF.out.2) (to_val HD.out (H2.out.on hW).tor HSF.out.2))
          clear hw2
          go_wp2_with (fail)
          go_region_held3 (fun _ => True) (trivial)
            (first
              | (go_at_call 100; refine (KV.out _ (by (repeat (first | exact Keep.refl _ _ | apply Keep.drew | apply Keep.alloc | apply Keep.drewN | refine Keep.freshSet ?_ (Nat.le_refl _) _ _)); done)).1.mono ?_; rintro e w3 ⟨rfl, rfl⟩)
              | (go_at_call 101; refine (KV.out _ (by (repeat (first | exact Keep.refl _ _ | apply Keep.drew | apply Keep.alloc | apply Keep.drewN | refine Keep.freshSet ?_ (Nat.le_refl _) _ _)); done)).2.mono ?_; rintro e w3 ⟨rfl, rfl⟩)
              | fail)
          all_goals
            go_wp2_with (first
              | (at_builtin; refine wpList_append_own_at _ rfl (.tmp 66) (.tmp 68) 44 rfl w.heap.size 89 i0 _ 3 24 Try.underlying44 HI.out.1 HI.out.2.1 HI.out.2.2.1 HI.out.2.2.2 rfl (by decide) u5 k _ rfl (ownsRow.on H2.out.row (by (repeat (first | exact Keep.refl _ _ | apply Keep.drew | apply Keep.alloc | apply Keep.drewN | refine Keep.freshSet ?_ (Nat.le_refl _) _ _)); done)) _ 1 _ (encS (true, kx, vx)) rfl (by rfl) (seen_src (new_at (by simp))) (encS_one _) (by unfold maxLen; omega) (by omega) (by have := HSZ.out; have := H2.out.tor.keep.size; simp; omega) ?_; intro v5 w5 hown hgr hnil hat; have O5 := hid (WkRel.app (s := (true, kx, vx)) H2.out HIB.out (by (repeat (first | exact Keep.refl _ _ | apply Keep.drew | apply Keep.alloc | apply Keep.drewN | refine Keep.freshSet ?_ (Nat.le_refl _) _ _)); done) hown hgr); clear hown hgr hnil hat)
              | fail)
            go_roundw
            case rel => exact ⟨k + 1, by omega, by go_num, by rw [HT.out]; rw [show seenP t.toList true (q + 1) = (true, kx, vx) from HSF.out.1]; exact O5.out⟩
            case measure => simp [intOf]; omega
      have b1 : (o == 1) = false := by simpa using h1
      by_cases h2 : o = 2
      · subst h2
        have CT := hid (wk_op2 HD.out HIB.out HW.out mm mr)
        obtain ⟨p1, hp1⟩ : ∃ p1, moveP t.toList (2, mm, mr) p = p1 := ⟨_, rfl⟩
        obtain ⟨bz, hbz⟩ : ∃ bz, (atP t.toList p1).1 = bz := ⟨_, rfl⟩
        unfold TellPost at CT
        have htl : tellsA (2, mm, mr) = true := rfl
        rw [hp1, htl] at HT
        rw [hp1, hbz] at CT
        clear hp1 htl
        cases bz with
        | false =>
          have HSF := hid (seen_false hbz)
          clear hbz
          go_wp2_with (fail)
          refine CT.out.mono ?_
          rintro e w2 ⟨rfl, hw2⟩
          have H2 := hid hw2
          clear hw2
          go_wp2_with (first
            | (at_builtin; refine wpList_append_own_at _ rfl (.tmp 66) (.tmp 68) 44 rfl w.heap.size 89 i0 _ 3 24 Try.underlying44 HI.out.1 HI.out.2.1 HI.out.2.2.1 HI.out.2.2.2 rfl (by decide) u5 k _ rfl (ownsRow.on H2.out.row (by (repeat (first | exact Keep.refl _ _ | apply Keep.drew | apply Keep.alloc | apply Keep.drewN | refine Keep.freshSet ?_ (Nat.le_refl _) _ _)); done)) _ 1 _ (encS (false, 0, 0)) rfl (by rfl) (seen_src (new_at (by simp))) (encS_one _) (by unfold maxLen; omega) (by omega) (by have := HSZ.out; have := H2.out.tor.keep.size; simp; omega) ?_; intro v5 w5 hown hgr hnil hat; have O5 := hid (WkRel.app (s := (false, 0, 0)) H2.out HIB.out (by (repeat (first | exact Keep.refl _ _ | apply Keep.drew | apply Keep.alloc | apply Keep.drewN | refine Keep.freshSet ?_ (Nat.le_refl _) _ _)); done) hown hgr); clear hown hgr hnil hat)
            | fail)
          go_roundw
          case rel => exact ⟨k + 1, by omega, by go_num, by rw [HT.out]; rw [show seenP t.toList true p1 = (false, 0, 0) from HSF.out]; exact O5.out⟩
          case measure => simp [intOf]; omega
        | true =>
          obtain ⟨q, kx, vx, rfl, hq, hat⟩ := seen_true hbz
          obtain ⟨x, hx⟩ := ents_of hq
          have HSF := hid (And.intro hat hx)
          clear hbz hq hat hx
          go_wp2_with (fail)
          refine CT.out.mono ?_
          rintro e w2 ⟨rfl, hw2⟩
          have H2 := hid hw2
          have KV := hid (fun W (hW : Keep (fun _ => False) w2 W) => And.intro (to_key HD.out (H2.out.on hW).tor HSF.out.2) (to_val HD.out (H2.out.on hW).tor HSF.out.2))
          clear hw2
          go_wp2_with (fail)
          go_region_held3 (fun _ => True) (trivial)
            (first
              | (go_at_call 100; refine (KV.out _ (by (repeat (first | exact Keep.refl _ _ | apply Keep.drew | apply Keep.alloc | apply Keep.drewN | refine Keep.freshSet ?_ (Nat.le_refl _) _ _)); done)).1.mono ?_; rintro e w3 ⟨rfl, rfl⟩)
              | (go_at_call 101; refine (KV.out _ (by (repeat (first | exact Keep.refl _ _ | apply Keep.drew | apply Keep.alloc | apply Keep.drewN | refine Keep.freshSet ?_ (Nat.le_refl _) _ _)); done)).2.mono ?_; rintro e w3 ⟨rfl, rfl⟩)
              | fail)
          all_goals
            go_wp2_with (first
              | (at_builtin; refine wpList_append_own_at _ rfl (.tmp 66) (.tmp 68) 44 rfl w.heap.size 89 i0 _ 3 24 Try.underlying44 HI.out.1 HI.out.2.1 HI.out.2.2.1 HI.out.2.2.2 rfl (by decide) u5 k _ rfl (ownsRow.on H2.out.row (by (repeat (first | exact Keep.refl _ _ | apply Keep.drew | apply Keep.alloc | apply Keep.drewN | refine Keep.freshSet ?_ (Nat.le_refl _) _ _)); done)) _ 1 _ (encS (true, kx, vx)) rfl (by rfl) (seen_src (new_at (by simp))) (encS_one _) (by unfold maxLen; omega) (by omega) (by have := HSZ.out; have := H2.out.tor.keep.size; simp; omega) ?_; intro v5 w5 hown hgr hnil hat; have O5 := hid (WkRel.app (s := (true, kx, vx)) H2.out HIB.out (by (repeat (first | exact Keep.refl _ _ | apply Keep.drew | apply Keep.alloc | apply Keep.drewN | refine Keep.freshSet ?_ (Nat.le_refl _) _ _)); done) hown hgr); clear hown hgr hnil hat)
              | fail)
            go_roundw
            case rel => exact ⟨k + 1, by omega, by go_num, by rw [HT.out]; rw [show seenP t.toList true (q + 1) = (true, kx, vx) from HSF.out.1]; exact O5.out⟩
            case measure => simp [intOf]; omega
      have b2 : (o == 2) = false := by simpa using h2
      by_cases h3 : o = 3
      · subst h3
        have CT := hid (wk_op3 HD.out HIB.out HW.out mm mr)
        obtain ⟨p1, hp1⟩ : ∃ p1, moveP t.toList (3, mm, mr) p = p1 := ⟨_, rfl⟩
        obtain ⟨bz, hbz⟩ : ∃ bz, (atP t.toList p1).1 = bz := ⟨_, rfl⟩
        unfold TellPost at CT
        have htl : tellsA (3, mm, mr) = true := rfl
        rw [hp1, htl] at HT
        rw [hp1, hbz] at CT
        clear hp1 htl
        cases bz with
        | false =>
          have HSF := hid (seen_false hbz)
          clear hbz
          go_wp2_with (fail)
          refine CT.out.mono ?_
          rintro e w2 ⟨rfl, hw2⟩
          have H2 := hid hw2
          clear hw2
          go_wp2_with (first
            | (at_builtin; refine wpList_append_own_at _ rfl (.tmp 66) (.tmp 68) 44 rfl w.heap.size 89 i0 _ 3 24 Try.underlying44 HI.out.1 HI.out.2.1 HI.out.2.2.1 HI.out.2.2.2 rfl (by decide) u5 k _ rfl (ownsRow.on H2.out.row (by (repeat (first | exact Keep.refl _ _ | apply Keep.drew | apply Keep.alloc | apply Keep.drewN | refine Keep.freshSet ?_ (Nat.le_refl _) _ _)); done)) _ 1 _ (encS (false, 0, 0)) rfl (by rfl) (seen_src (new_at (by simp))) (encS_one _) (by unfold maxLen; omega) (by omega) (by have := HSZ.out; have := H2.out.tor.keep.size; simp; omega) ?_; intro v5 w5 hown hgr hnil hat; have O5 := hid (WkRel.app (s := (false, 0, 0)) H2.out HIB.out (by (repeat (first | exact Keep.refl _ _ | apply Keep.drew | apply Keep.alloc | apply Keep.drewN | refine Keep.freshSet ?_ (Nat.le_refl _) _ _)); done) hown hgr); clear hown hgr hnil hat)
            | fail)
          go_roundw
          case rel => exact ⟨k + 1, by omega, by go_num, by rw [HT.out]; rw [show seenP t.toList true p1 = (false, 0, 0) from HSF.out]; exact O5.out⟩
          case measure => simp [intOf]; omega
        | true =>
          obtain ⟨q, kx, vx, rfl, hq, hat⟩ := seen_true hbz
          obtain ⟨x, hx⟩ := ents_of hq
          have HSF := hid (And.intro hat hx)
          clear hbz hq hat hx
          go_wp2_with (fail)
          refine CT.out.mono ?_
          rintro e w2 ⟨rfl, hw2⟩
          have H2 := hid hw2
          have KV := hid (fun W (hW : Keep (fun _ => False) w2 W) => And.intro (to_key HD.out (H2.out.on hW).tor HSF.out.2) (to_val HD.out (H2.out.on hW).tor HSF.out.2))
          clear hw2
          go_wp2_with (fail)
          go_region_held3 (fun _ => True) (trivial)
            (first
              | (go_at_call 100; refine (KV.out _ (by (repeat (first | exact Keep.refl _ _ | apply Keep.drew | apply Keep.alloc | apply Keep.drewN | refine Keep.freshSet ?_ (Nat.le_refl _) _ _)); done)).1.mono ?_; rintro e w3 ⟨rfl, rfl⟩)
              | (go_at_call 101; refine (KV.out _ (by (repeat (first | exact Keep.refl _ _ | apply Keep.drew | apply Keep.alloc | apply Keep.drewN | refine Keep.freshSet ?_ (Nat.le_refl _) _ _)); done)).2.mono ?_; rintro e w3 ⟨rfl, rfl⟩)
              | fail)
          all_goals
            go_wp2_with (first
              | (at_builtin; refine wpList_append_own_at _ rfl (.tmp 66) (.tmp 68) 44 rfl w.heap.size 89 i0 _ 3 24 Try.underlying44 HI.out.1 HI.out.2.1 HI.out.2.2.1 HI.out.2.2.2 rfl (by decide) u5 k _ rfl (ownsRow.on H2.out.row (by (repeat (first | exact Keep.refl _ _ | apply Keep.drew | apply Keep.alloc | apply Keep.drewN | refine Keep.freshSet ?_ (Nat.le_refl _) _ _)); done)) _ 1 _ (encS (true, kx, vx)) rfl (by rfl) (seen_src (new_at (by simp))) (encS_one _) (by unfold maxLen; omega) (by omega) (by have := HSZ.out; have := H2.out.tor.keep.size; simp; omega) ?_; intro v5 w5 hown hgr hnil hat; have O5 := hid (WkRel.app (s := (true, kx, vx)) H2.out HIB.out (by (repeat (first | exact Keep.refl _ _ | apply Keep.drew | apply Keep.alloc | apply Keep.drewN | refine Keep.freshSet ?_ (Nat.le_refl _) _ _)); done) hown hgr); clear hown hgr hnil hat)
              | fail)
            go_roundw
            case rel => exact ⟨k + 1, by omega, by go_num, by rw [HT.out]; rw [show seenP t.toList true (q + 1) = (true, kx, vx) from HSF.out.1]; exact O5.out⟩
            case measure => simp [intOf]; omega
      have b3 : (o == 3) = false := by simpa using h3
      by_cases h4 : o = 4
      · subst h4
        have CT := hid (wk_op4 HD.out HIB.out HW.out mm mr)
        obtain ⟨p1, hp1⟩ : ∃ p1, moveP t.toList (4, mm, mr) p = p1 := ⟨_, rfl⟩
        obtain ⟨bz, hbz⟩ : ∃ bz, (atP t.toList p1).1 = bz := ⟨_, rfl⟩
        unfold TellPost at CT
        have htl : tellsA (4, mm, mr) = true := rfl
        rw [hp1, htl] at HT
        rw [hp1, hbz] at CT
        clear hp1 htl
        cases bz with
        | false =>
          have HSF := hid (seen_false hbz)
          clear hbz
          go_wp2_with (fail)
          refine CT.out.mono ?_
          rintro e w2 ⟨rfl, hw2⟩
          have H2 := hid hw2
          clear hw2
          go_wp2_with (first
            | (at_builtin; refine wpList_append_own_at _ rfl (.tmp 66) (.tmp 68) 44 rfl w.heap.size 89 i0 _ 3 24 Try.underlying44 HI.out.1 HI.out.2.1 HI.out.2.2.1 HI.out.2.2.2 rfl (by decide) u5 k _ rfl (ownsRow.on H2.out.row (by (repeat (first | exact Keep.refl _ _ | apply Keep.drew | apply Keep.alloc | apply Keep.drewN | refine Keep.freshSet ?_ (Nat.le_refl _) _ _)); done)) _ 1 _ (encS (false, 0, 0)) rfl (by rfl) (seen_src (new_at (by simp))) (encS_one _) (by unfold maxLen; omega) (by omega) (by have := HSZ.out; have := H2.out.tor.keep.size; simp; omega) ?_; intro v5 w5 hown hgr hnil hat; have O5 := hid (WkRel.app (s := (false, 0, 0)) H2.out HIB.out (by (repeat (first | exact Keep.refl _ _ | apply Keep.drew | apply Keep.alloc | apply Keep.drewN | refine Keep.freshSet ?_ (Nat.le_refl _) _ _)); done) hown hgr); clear hown hgr hnil hat)
            | fail)
          go_roundw
          case rel => exact ⟨k + 1, by omega, by go_num, by rw [HT.out]; rw [show seenP t.toList true p1 = (false, 0, 0) from HSF.out]; exact O5.out⟩
          case measure => simp [intOf]; omega
        | true =>
          obtain ⟨q, kx, vx, rfl, hq, hat⟩ := seen_true hbz
          obtain ⟨x, hx⟩ := ents_of hq
          have HSF := hid (And.intro hat hx)
          clear hbz hq hat hx
          go_wp2_with (fail)
          refine CT.out.mono ?_
          rintro e w2 ⟨rfl, hw2⟩
          have H2 := hid hw2
          have KV := hid (fun W (hW : Keep (fun _ => False) w2 W) => And.intro (to_key HD.out (H2.out.on hW).tor HSF.out.2) (to_val HD.out (H2.out.on hW).tor HSF.out.2))
          clear hw2
          go_wp2_with (fail)
          go_region_held3 (fun _ => True) (trivial)
            (first
              | (go_at_call 100; refine (KV.out _ (by (repeat (first | exact Keep.refl _ _ | apply Keep.drew | apply Keep.alloc | apply Keep.drewN | refine Keep.freshSet ?_ (Nat.le_refl _) _ _)); done)).1.mono ?_; rintro e w3 ⟨rfl, rfl⟩)
              | (go_at_call 101; refine (KV.out _ (by (repeat (first | exact Keep.refl _ _ | apply Keep.drew | apply Keep.alloc | apply Keep.drewN | refine Keep.freshSet ?_ (Nat.le_refl _) _ _)); done)).2.mono ?_; rintro e w3 ⟨rfl, rfl⟩)
              | fail)
          all_goals
            go_wp2_with (first
              | (at_builtin; refine wpList_append_own_at _ rfl (.tmp 66) (.tmp 68) 44 rfl w.heap.size 89 i0 _ 3 24 Try.underlying44 HI.out.1 HI.out.2.1 HI.out.2.2.1 HI.out.2.2.2 rfl (by decide) u5 k _ rfl (ownsRow.on H2.out.row (by (repeat (first | exact Keep.refl _ _ | apply Keep.drew | apply Keep.alloc | apply Keep.drewN | refine Keep.freshSet ?_ (Nat.le_refl _) _ _)); done)) _ 1 _ (encS (true, kx, vx)) rfl (by rfl) (seen_src (new_at (by simp))) (encS_one _) (by unfold maxLen; omega) (by omega) (by have := HSZ.out; have := H2.out.tor.keep.size; simp; omega) ?_; intro v5 w5 hown hgr hnil hat; have O5 := hid (WkRel.app (s := (true, kx, vx)) H2.out HIB.out (by (repeat (first | exact Keep.refl _ _ | apply Keep.drew | apply Keep.alloc | apply Keep.drewN | refine Keep.freshSet ?_ (Nat.le_refl _) _ _)); done) hown hgr); clear hown hgr hnil hat)
              | fail)
            go_roundw
            case rel => exact ⟨k + 1, by omega, by go_num, by rw [HT.out]; rw [show seenP t.toList true (q + 1) = (true, kx, vx) from HSF.out.1]; exact O5.out⟩
            case measure => simp [intOf]; omega
      have b4 : (o == 4) = false := by simpa using h4
      by_cases h5 : o = 5
      · subst h5
        have CT := hid (wk_op5 HIB.out HW.out mm mr)
        go_wp2_with (fail)
        refine CT.out.mono ?_
        rintro e w2 ⟨rfl, hw2⟩
        have H2 := hid hw2
        clear hw2
        go_wp2_with (first
          | (at_builtin; refine wpList_append_own_at _ rfl (.tmp 66) (.tmp 68) 44 rfl w.heap.size 89 i0 _ 3 24 Try.underlying44 HI.out.1 HI.out.2.1 HI.out.2.2.1 HI.out.2.2.2 rfl (by decide) u5 k _ rfl (ownsRow.on H2.out.row (by (repeat (first | exact Keep.refl _ _ | apply Keep.drew | apply Keep.alloc | apply Keep.drewN | refine Keep.freshSet ?_ (Nat.le_refl _) _ _)); done)) _ 1 _ (encS (false, 0, 0)) rfl (by rfl) (seen_src (new_at (by simp))) (encS_one _) (by unfold maxLen; omega) (by omega) (by have := HSZ.out; have := H2.out.tor.keep.size; simp; omega) ?_; intro v5 w5 hown hgr hnil hat; have O5 := hid (WkRel.app (s := (false, 0, 0)) H2.out HIB.out (by (repeat (first | exact Keep.refl _ _ | apply Keep.drew | apply Keep.alloc | apply Keep.drewN | refine Keep.freshSet ?_ (Nat.le_refl _) _ _)); done) hown hgr); clear hown hgr hnil hat)
          | fail)
        go_roundw
        case rel => exact ⟨k + 1, by omega, by go_num, by rw [HT.out]; rw [show seenP t.toList (tellsA (5, mm, mr)) (moveP t.toList (5, mm, mr) p) = (false, 0, 0) from rfl]; exact O5.out⟩
        case measure => simp [intOf]; omega
      have b5 : (o == 5) = false := by simpa using h5
      by_cases h6 : o = 6
      · subst h6
        have CT := hid (wk_op6 HIB.out HW.out mm mr)
        go_wp2_with (fail)
        refine CT.out.mono ?_
        rintro e w2 ⟨rfl, hw2⟩
        have H2 := hid hw2
        clear hw2
        go_wp2_with (first
          | (at_builtin; refine wpList_append_own_at _ rfl (.tmp 66) (.tmp 68) 44 rfl w.heap.size 89 i0 _ 3 24 Try.underlying44 HI.out.1 HI.out.2.1 HI.out.2.2.1 HI.out.2.2.2 rfl (by decide) u5 k _ rfl (ownsRow.on H2.out.row (by (repeat (first | exact Keep.refl _ _ | apply Keep.drew | apply Keep.alloc | apply Keep.drewN | refine Keep.freshSet ?_ (Nat.le_refl _) _ _)); done)) _ 1 _ (encS (false, 0, 0)) rfl (by rfl) (seen_src (new_at (by simp))) (encS_one _) (by unfold maxLen; omega) (by omega) (by have := HSZ.out; have := H2.out.tor.keep.size; simp; omega) ?_; intro v5 w5 hown hgr hnil hat; have O5 := hid (WkRel.app (s := (false, 0, 0)) H2.out HIB.out (by (repeat (first | exact Keep.refl _ _ | apply Keep.drew | apply Keep.alloc | apply Keep.drewN | refine Keep.freshSet ?_ (Nat.le_refl _) _ _)); done) hown hgr); clear hown hgr hnil hat)
          | fail)
        go_roundw
        case rel => exact ⟨k + 1, by omega, by go_num, by rw [HT.out]; rw [show seenP t.toList (tellsA (6, mm, mr)) (moveP t.toList (6, mm, mr) p) = (false, 0, 0) from rfl]; exact O5.out⟩
        case measure => simp [intOf]; omega
      have b6 : (o == 6) = false := by simpa using h6
      by_cases h7 : o = 7
      · subst h7
        have CT := hid (wk_op7 HD.out HIB.out HW.out HQ.out HQI.out (HMV.out (.inl rfl)).1 (HMV.out (.inl rfl)).2)
        obtain ⟨p1, hp1⟩ : ∃ p1, moveP t.toList (7, mm, mr) p = p1 := ⟨_, rfl⟩
        obtain ⟨bz, hbz⟩ : ∃ bz, (atP t.toList p1).1 = bz := ⟨_, rfl⟩
        unfold TellPost at CT
        have htl : tellsA (7, mm, mr) = true := rfl
        rw [hp1, htl] at HT
        rw [hp1, hbz] at CT
        clear hp1 htl
        cases bz with
        | false =>
          have HSF := hid (seen_false hbz)
          clear hbz
          go_wp2_with (fail)
          refine CT.out.mono ?_
          rintro e w2 ⟨rfl, hw2⟩
          have H2 := hid hw2
          clear hw2
          go_wp2_with (first
            | (at_builtin; refine wpList_append_own_at _ rfl (.tmp 66) (.tmp 68) 44 rfl w.heap.size 89 i0 _ 3 24 Try.underlying44 HI.out.1 HI.out.2.1 HI.out.2.2.1 HI.out.2.2.2 rfl (by decide) u5 k _ rfl (ownsRow.on H2.out.row (by (repeat (first | exact Keep.refl _ _ | apply Keep.drew | apply Keep.alloc | apply Keep.drewN | refine Keep.freshSet ?_ (Nat.le_refl _) _ _)); done)) _ 1 _ (encS (false, 0, 0)) rfl (by rfl) (seen_src (new_at (by simp))) (encS_one _) (by unfold maxLen; omega) (by omega) (by have := HSZ.out; have := H2.out.tor.keep.size; simp; omega) ?_; intro v5 w5 hown hgr hnil hat; have O5 := hid (WkRel.app (s := (false, 0, 0)) H2.out HIB.out (by (repeat (first | exact Keep.refl _ _ | apply Keep.drew | apply Keep.alloc | apply Keep.drewN | refine Keep.freshSet ?_ (Nat.le_refl _) _ _)); done) hown hgr); clear hown hgr hnil hat)
            | fail)
          go_roundw
          case rel => exact ⟨k + 1, by omega, by go_num, by rw [HT.out]; rw [show seenP t.toList true p1 = (false, 0, 0) from HSF.out]; exact O5.out⟩
          case measure => simp [intOf]; omega
        | true =>
          obtain ⟨q, kx, vx, rfl, hq, hat⟩ := seen_true hbz
          obtain ⟨x, hx⟩ := ents_of hq
          have HSF := hid (And.intro hat hx)
          clear hbz hq hat hx
          go_wp2_with (fail)
          refine CT.out.mono ?_
          rintro e w2 ⟨rfl, hw2⟩
          have H2 := hid hw2
          have KV := hid (fun W (hW : Keep (fun _ => False) w2 W) => And.intro (to_key HD.out (H2.out.on hW).tor HSF.out.2) (to_val HD.out (H2.out.on hW).tor HSF.out.2))
          clear hw2
          go_wp2_with (fail)
          go_region_held3 (fun _ => True) (trivial)
            (first
              | (go_at_call 100; refine (KV.out _ (by (repeat (first | exact Keep.refl _ _ | apply Keep.drew | apply Keep.alloc | apply Keep.drewN | refine Keep.freshSet ?_ (Nat.le_refl _) _ _)); done)).1.mono ?_; rintro e w3 ⟨rfl, rfl⟩)
              | (go_at_call 101; refine (KV.out _ (by (repeat (first | exact Keep.refl _ _ | apply Keep.drew | apply Keep.alloc | apply Keep.drewN | refine Keep.freshSet ?_ (Nat.le_refl _) _ _)); done)).2.mono ?_; rintro e w3 ⟨rfl, rfl⟩)
              | fail)
          all_goals
            go_wp2_with (first
              | (at_builtin; refine wpList_append_own_at _ rfl (.tmp 66) (.tmp 68) 44 rfl w.heap.size 89 i0 _ 3 24 Try.underlying44 HI.out.1 HI.out.2.1 HI.out.2.2.1 HI.out.2.2.2 rfl (by decide) u5 k _ rfl (ownsRow.on H2.out.row (by (repeat (first | exact Keep.refl _ _ | apply Keep.drew | apply Keep.alloc | apply Keep.drewN | refine Keep.freshSet ?_ (Nat.le_refl _) _ _)); done)) _ 1 _ (encS (true, kx, vx)) rfl (by rfl) (seen_src (new_at (by simp))) (encS_one _) (by unfold maxLen; omega) (by omega) (by have := HSZ.out; have := H2.out.tor.keep.size; simp; omega) ?_; intro v5 w5 hown hgr hnil hat; have O5 := hid (WkRel.app (s := (true, kx, vx)) H2.out HIB.out (by (repeat (first | exact Keep.refl _ _ | apply Keep.drew | apply Keep.alloc | apply Keep.drewN | refine Keep.freshSet ?_ (Nat.le_refl _) _ _)); done) hown hgr); clear hown hgr hnil hat)
              | fail)
            go_roundw
            case rel => exact ⟨k + 1, by omega, by go_num, by rw [HT.out]; rw [show seenP t.toList true (q + 1) = (true, kx, vx) from HSF.out.1]; exact O5.out⟩
            case measure => simp [intOf]; omega
      have b7 : (o == 7) = false := by simpa using h7
      by_cases h8 : o = 8
      · subst h8
        have CT := hid (wk_op8 HD.out HIB.out HW.out HQ.out HQI.out (HMV.out (.inr rfl)).1 (HMV.out (.inr rfl)).2)
        obtain ⟨p1, hp1⟩ : ∃ p1, moveP t.toList (8, mm, mr) p = p1 := ⟨_, rfl⟩
        obtain ⟨bz, hbz⟩ : ∃ bz, (atP t.toList p1).1 = bz := ⟨_, rfl⟩
        unfold TellPost at CT
        have htl : tellsA (8, mm, mr) = true := rfl
        rw [hp1, htl] at HT
        rw [hp1, hbz] at CT
        clear hp1 htl
        cases bz with
        | false =>
          have HSF := hid (seen_false hbz)
          clear hbz
          go_wp2_with (fail)
          refine CT.out.mono ?_
          rintro e w2 ⟨rfl, hw2⟩
          have H2 := hid hw2
          clear hw2
          go_wp2_with (first
            | (at_builtin; refine wpList_append_own_at _ rfl (.tmp 66) (.tmp 68) 44 rfl w.heap.size 89 i0 _ 3 24 Try.underlying44 HI.out.1 HI.out.2.1 HI.out.2.2.1 HI.out.2.2.2 rfl (by decide) u5 k _ rfl (ownsRow.on H2.out.row (by (repeat (first | exact Keep.refl _ _ | apply Keep.drew | apply Keep.alloc | apply Keep.drewN | refine Keep.freshSet ?_ (Nat.le_refl _) _ _)); done)) _ 1 _ (encS (false, 0, 0)) rfl (by rfl) (seen_src (new_at (by simp))) (encS_one _) (by unfold maxLen; omega) (by omega) (by have := HSZ.out; have := H2.out.tor.keep.size; simp; omega) ?_; intro v5 w5 hown hgr hnil hat; have O5 := hid (WkRel.app (s := (false, 0, 0)) H2.out HIB.out (by (repeat (first | exact Keep.refl _ _ | apply Keep.drew | apply Keep.alloc | apply Keep.drewN | refine Keep.freshSet ?_ (Nat.le_refl _) _ _)); done) hown hgr); clear hown hgr hnil hat)
            | fail)
          go_roundw
          case rel => exact ⟨k + 1, by omega, by go_num, by rw [HT.out]; rw [show seenP t.toList true p1 = (false, 0, 0) from HSF.out]; exact O5.out⟩
          case measure => simp [intOf]; omega
        | true =>
          obtain ⟨q, kx, vx, rfl, hq, hat⟩ := seen_true hbz
          obtain ⟨x, hx⟩ := ents_of hq
          have HSF := hid (And.intro hat hx)
          clear hbz hq hat hx
          go_wp2_with (fail)
          refine CT.out.mono ?_
          rintro e w2 ⟨rfl, hw2⟩
          have H2 := hid hw2
          have KV := hid (fun W (hW : Keep (fun _ => False) w2 W) => And.intro (to_key HD.out (H2.out.on hW).tor HSF.out.2) (to_val HD.out (H2.out.on hW).tor HSF.out.2))
          clear hw2
          go_wp2_with (fail)
          go_region_held3 (fun _ => True) (trivial)
            (first
              | (go_at_call 100; refine (KV.out _ (by (repeat (first | exact Keep.refl _ _ | apply Keep.drew | apply Keep.alloc | apply Keep.drewN | refine Keep.freshSet ?_ (Nat.le_refl _) _ _)); done)).1.mono ?_; rintro e w3 ⟨rfl, rfl⟩)
              | (go_at_call 101; refine (KV.out _ (by (repeat (first | exact Keep.refl _ _ | apply Keep.drew | apply Keep.alloc | apply Keep.drewN | refine Keep.freshSet ?_ (Nat.le_refl _) _ _)); done)).2.mono ?_; rintro e w3 ⟨rfl, rfl⟩)
              | fail)
          all_goals
            go_wp2_with (first
              | (at_builtin; refine wpList_append_own_at _ rfl (.tmp 66) (.tmp 68) 44 rfl w.heap.size 89 i0 _ 3 24 Try.underlying44 HI.out.1 HI.out.2.1 HI.out.2.2.1 HI.out.2.2.2 rfl (by decide) u5 k _ rfl (ownsRow.on H2.out.row (by (repeat (first | exact Keep.refl _ _ | apply Keep.drew | apply Keep.alloc | apply Keep.drewN | refine Keep.freshSet ?_ (Nat.le_refl _) _ _)); done)) _ 1 _ (encS (true, kx, vx)) rfl (by rfl) (seen_src (new_at (by simp))) (encS_one _) (by unfold maxLen; omega) (by omega) (by have := HSZ.out; have := H2.out.tor.keep.size; simp; omega) ?_; intro v5 w5 hown hgr hnil hat; have O5 := hid (WkRel.app (s := (true, kx, vx)) H2.out HIB.out (by (repeat (first | exact Keep.refl _ _ | apply Keep.drew | apply Keep.alloc | apply Keep.drewN | refine Keep.freshSet ?_ (Nat.le_refl _) _ _)); done) hown hgr); clear hown hgr hnil hat)
              | fail)
            go_roundw
            case rel => exact ⟨k + 1, by omega, by go_num, by rw [HT.out]; rw [show seenP t.toList true (q + 1) = (true, kx, vx) from HSF.out.1]; exact O5.out⟩
            case measure => simp [intOf]; omega
      have b8 : (o == 8) = false := by simpa using h8
      have HX := hid (show moveP t.toList (o, mm, mr) p = p ∧ tellsA (o, mm, mr) = false from ⟨by simp [moveP, h1, h2, h3, h4, h5, h6, h7, h8], by simp [tellsA, h1, h2, h3, h4, h7, h8]⟩)
      clear h1 h2 h3 h4 h5 h6 h7 h8
      go_wp2_with (first
        | (at_builtin; refine wpList_append_own_at _ rfl (.tmp 66) (.tmp 68) 44 rfl w.heap.size 89 i0 _ 3 24 Try.underlying44 HI.out.1 HI.out.2.1 HI.out.2.2.1 HI.out.2.2.2 rfl (by decide) u5 k _ rfl (ownsRow.on HW.out.row (by (repeat (first | exact Keep.refl _ _ | apply Keep.drew | apply Keep.alloc | apply Keep.drewN | refine Keep.freshSet ?_ (Nat.le_refl _) _ _)); done)) _ 1 _ (encS (false, 0, 0)) rfl (by rfl) (seen_src (new_at (by simp))) (encS_one _) (by unfold maxLen; omega) (by omega) (by have := HSZ.out; have := HW.out.tor.keep.size; simp; omega) ?_; intro v5 w5 hown hgr hnil hat; have O5 := hid (WkRel.app (s := (false, 0, 0)) HW.out HIB.out (by (repeat (first | exact Keep.refl _ _ | apply Keep.drew | apply Keep.alloc | apply Keep.drewN | refine Keep.freshSet ?_ (Nat.le_refl _) _ _)); done) hown hgr); clear hown hgr hnil hat)
        | fail)
      go_roundw
      case rel => exact ⟨k + 1, by omega, by go_num, by rw [HT.out]; rw [HX.out.1, HX.out.2]; exact O5.out⟩
      case measure => simp [intOf]; omega
    · obtain rfl : r = k := by omega
      have HW := hid hrel
      clear hrel
      go_wp2_with (fail)
      go_ret
      have h := HW.out
      rw [List.take_of_length_le (by rw [HR0.out]; omega)] at h
      exact ⟨_, rfl, by rw [walkA_len, HR0.out]; exact h.row, h.tor.keep⟩
end Go.Proofs.Ytdamfannmlncnaa
