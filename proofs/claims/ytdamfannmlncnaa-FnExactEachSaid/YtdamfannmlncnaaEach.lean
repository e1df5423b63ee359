/- Each walked, with a function that notes pairs. -/
import Derived.Test.YtdamfannmlncnaaMapSel
import Derived.Test.YtdamfannmlncnaaPuts
import Derived.Deep.RegionLaw
namespace Go.Proofs.Ytdamfannmlncnaa
open Go.RowKit
set_option linter.unusedVariables false
set_option linter.unusedSimpArgs false
set_option maxHeartbeats 1600000
attribute [local go_sem ↓] Go.wp_at_zero Go.wp_at_succ

/-- A told pair's cells. -/
def encT (e : Int × Int) : List Value := [.int .i64 e.1, .int .i64 e.2, .bool true]
theorem encT_len (e : Int × Int) : (encT e).length = 3 := rfl
theorem encT_one (e : Int × Int) : ∀ u ∈ encT e, u.oneCell' = true := by simp [encT, Value.oneCell']
theorem info53 : (Try.prog.info? 53).map (fun i => (i.zero, i.size, i.bytes)) = some (some (.agg #[.int .i64 0, .int .i64 0, .bool false]), 3, 24) := by kernel_rfl
theorem parts53 : ∃ i, Try.prog.info? 53 = some i ∧ i.zero = some (.agg #[.int .i64 0, .int .i64 0, .bool false]) ∧ i.size = 3 ∧ i.bytes = 24 := by
  have h := info53
  cases hi : Try.prog.info? 53 with
  | none => rw [hi] at h; cases h
  | some i => rw [hi] at h; simp only [Option.map_some, Option.some.injEq, Prod.mk.injEq] at h; exact ⟨i, rfl, h.1, h.2.1, h.2.2⟩

theorem told_src {W : World} {g : Nat} {k x : Int} (h : W.heap[g]? = some (.cells #[.int .i64 k, .int .i64 x, .bool true] 53 (0, 0))) : ∀ j u, (encT (k, x))[j]? = some u → W.cell? ((⟨g, 0, none⟩ : Addr).add j) = some u := fun j u hu => by
  rw [add_off, Nat.zero_add, World.cell?, h]; simpa [encT] using hu

/-- Told pairs in the making: the variable in block cb, the row of its own; x is no part of it. -/
structure Out (base cb : Nat) (P : List (Int × Int)) (v : Value) (W : World) : Prop where
  cell : W.heap[cb]? = some (.cells #[v] 64 (0, 0))
  row : W.ownsRow base 53 3 v P.length (P.flatMap encT)
  ne : v.ownBlock ≠ some cb
/-- What a note comes to. -/
def NotePost (base cb : Nat) (P : List (Int × Int)) (v : Value) (k x : Int) (w : World) (e : Ending) (w' : World) : Prop :=
  e = .returned (.tuple #[]) ∧ ∃ v', Out base cb (P ++ [(k, x)]) v' w' ∧ Keep (fun i => i = cb ∨ v.ownBlock = some i) w w' ∧ (v'.ownBlock = v.ownBlock ∨ ∀ g, v'.ownBlock = some g → w.heap.size ≤ g)

theorem note_done {base cb : Nat} {P : List (Int × Int)} {v v' : Value} {k x : Int} {w W w5 : World} (h : Out base cb P v w) (hk : Keep (fun _ => False) w W) (hown : w5.ownsRow base 53 3 v' (P.length + 1) (P.flatMap encT ++ encT (k, x))) (hgr : W.grownBy w5 v.ownBlock) (hat : v'.ownBlock = v.ownBlock ∨ v'.ownBlock = some W.heap.size) :
    (w5.cell? ⟨cb, 0, none⟩ = some v ∧ Plain w5 cb) ∧ NotePost base cb P v k x w (.returned (.tuple #[])) (w5.setCell ⟨cb, 0, none⟩ v') := by
  have hc : w5.heap[cb]? = some (.cells #[v] 64 (0, 0)) := by
    rw [hgr.block cb (Nat.lt_of_lt_of_le (lt_of_heap h.cell) hk.size) (fun e => h.ne e.symm)]
    exact hk.get h.cell id
  have hK : Keep (fun i => v.ownBlock = some i) w w5 := (hk.mono fun _ _ => False.elim).trans (Keep.grown hgr fun k hk _ => hk)
  have hne : v'.ownBlock ≠ some cb := by
    rcases hat with e | e
    · rw [e]; exact h.ne
    · rw [e]; intro e2; have := Option.some.inj e2; have := lt_of_heap h.cell; have := hk.size; omega
  refine ⟨⟨by rw [cell_of hc]; rfl, ⟨_, _, hc⟩⟩, rfl, v', ⟨?_, ?_, hne⟩, ?_, ?_⟩
  · rw [heap_set (a := ⟨cb, 0, none⟩) hc rfl]; simp
  · have h2 := ownsRow_congr (w' := w5.setCell ⟨cb, 0, none⟩ v') hown fun g hg => set_other (a := ⟨cb, 0, none⟩) (fun e => hne (by rw [hg]; simp only at e; rw [e])) v'
    simpa [List.flatMap_append] using h2
  · exact (hK.mono fun i _ hi => .inr hi).setCell ⟨cb, 0, none⟩ (fun _ => .inl rfl) v'
  · rcases hat with e | e
    · exact .inl e
    · exact .inr fun g hg => by rw [e] at hg; have := Option.some.inj hg; have := hk.size; omega

set_option maxRecDepth 100000 in
theorem note_any {w : World} {base cb : Nat} {v : Value} {P : List (Int × Int)} (h : Out base cb P v w) (hb : base ≤ w.heap.size) (hlen : P.length ≤ 1000000) (k x : Int) :
    Calls Try.prog 71 #[.iface 3 (.int .i64 k), .iface 3 (.int .i64 x), .pointer (some ⟨cb, 0, none⟩)] w (NotePost base cb P v k x w) := by
  have PO : Hid (∀ W, Calls Try.prog 64 #[.iface 3 (.int .i64 k), .iface 3 (.int .i64 x)] W fun e w' => e = .returned (.agg #[.int .i64 k, .int .i64 x, .bool true]) ∧ Keep (fun _ => False) W w') := fun W => pairOf_any (some (k, x)) W
  obtain ⟨i0, hi, hz0, hz1, hz2⟩ := parts53
  have HI := hid (And.intro hi (And.intro hz0 (And.intro hz1 hz2)))
  have c0 : w.cell? ⟨cb, 0, none⟩ = some v := by rw [cell_of h.cell]; rfl
  have pl : Plain w cb := ⟨_, _, h.cell⟩
  have H := hid h
  obtain ⟨n, hn⟩ : ∃ n, P.length = n := ⟨_, rfl⟩
  have HN := hid hn
  rw [hn] at hlen
  clear h hi hz0 hz1 hz2 hn
  go_enter Try.func71, Try.ntmps71
  go_wp2_with (fail)
  go_region_law (first
    | ((with_reducible refine slot_guard ⟨some 10, _, _, _, _, _⟩ ?_); refine step_app_at rfl (.tmp 5) (.tmp 9) 64 rfl base 53 i0 _ 3 24 Try.underlying64 HI.out.1 HI.out.2.1 HI.out.2.2.1 HI.out.2.2.2 rfl (by decide) v n _ rfl (by have hr := ownsRow.on H.out.row K4.out; rw [HN.out] at hr; (repeat (first | exact hr | apply owns_drew | apply World.ownsRow.alloc)); done) _ 1 _ (encT (k, x)) rfl (by rfl) (told_src (blk_1 w4 _)) (encT_one _) (by unfold maxLen; omega) (by omega) (by have := K4.out.size; simp; omega) ?_; intro v5 w5 hown hgr hat; obtain ⟨g5, c5, rfl⟩ := owns_len hown; have D5 := hid (note_done (k := k) (x := x) H.out (K4.out.alloc _) (by rw [HN.out]; exact hown) hgr hat); obtain ⟨e0, ep⟩ := D5.out.1; clear hown hgr hat)
    | ((with_reducible refine slot_guard ⟨some 8, _, _, _, _, _⟩ ?_); go_simp; go_at_call 64; refine (PO.out _).mono ?_; rintro e w4 ⟨rfl, hk⟩; have K4 := hid (show Keep (fun _ => False) w w4 from (by first | exact hk | exact hk.undrew | fail)); have d0 := K4.out.cell c0 id; have dg := cellA2 d0; clear hk; go_wp2_with (fail))
    | fail)
  all_goals
    (try go_wp2_with (fail))
    go_end0
    exact D5.out.2

/-- A round of Each: the iterator at the place p; the pairs P are told. -/
structure EachRel (w : World) (tb : Nat) (t : T) (ib cb base : Nat) (v0 : Value) (p : Nat) (P : List (Int × Int)) (wr : World) : Prop where
  it : ItIn wr ib 96 tb t p
  out : ∃ v, Out base cb P v wr ∧ v.ownBlock ≠ some ib ∧ (v.ownBlock = v0.ownBlock ∨ ∀ g, v.ownBlock = some g → w.heap.size ≤ g)
  keep : Keep (fun i => i = cb ∨ v0.ownBlock = some i) w wr
  here : ib < wr.heap.size
/-- What stays by the way. -/
structure EachHead (w : World) (tb : Nat) (n : Int) (cv : Value) (t : T) (ib cb base : Nat) (v0 : Value) : Prop where
  tree : TreeIn w tb n cv t
  fresh : w.heap.size ≤ ib
  apart : ∀ i, i = cb ∨ v0.ownBlock = some i → i ≠ tb ∧ i ∉ t.ids
  cb : cb < w.heap.size
  base : base ≤ w.heap.size
section
variable {w wr w' : World} {tb ib cb base p p' : Nat} {n : Int} {cv v0 : Value} {t : T} {P : List (Int × Int)}
theorem EachHead.on (hd : EachHead w tb n cv t ib cb base v0) (h : EachRel w tb t ib cb base v0 p P wr) : TreeIn wr tb n cv t :=
  hd.tree.keep h.keep (fun e => (hd.apart _ e).1 rfl) (fun i hi e => (hd.apart i e).2 hi)
theorem EachHead.ne (hd : EachHead w tb n cv t ib cb base v0) : ib ≠ tb := by have := lt_of_heap hd.tree.head; have := hd.fresh; omega
theorem EachHead.nm (hd : EachHead w tb n cv t ib cb base v0) : ib ∉ t.ids := fun hx => by have := hd.tree.lt hx; have := hd.fresh; omega
theorem each_move (hd : EachHead w tb n cv t ib cb base v0) (h : EachRel w tb t ib cb base v0 p P wr) (hi : ItIn w' ib 96 tb t p') (hk : Keep (fun i => i = ib) wr w') : EachRel w tb t ib cb base v0 p' P w' := by
  obtain ⟨v, ho, hn, hv⟩ := h.out
  refine ⟨hi, ⟨v, ⟨hk.get ho.cell (by have := hd.cb; have := hd.fresh; omega), ownsRow_congr ho.row fun g hg => hk.block g (ho.row.lt g hg).2 (fun e => hn (by rw [hg, e])), ho.ne⟩, hn, hv⟩, h.keep.then hk fun i hi e => ?_, Nat.lt_of_lt_of_le h.here hk.size⟩
  have := hd.fresh
  omega
theorem each_next (hd : EachHead w tb n cv t ib cb base v0) (h : EachRel w tb t ib cb base v0 p P wr) (hp : p < t.ents.length) :
    Calls Try.prog 92 #[.pointer (some ⟨ib, 0, none⟩)] wr fun e w' => e = .returned (.bool true) ∧ EachRel w tb t ib cb base v0 (p + 1) P w' := by
  refine (mnext_any h.it (hd.on h) hd.ne hd.nm (by omega)).mono ?_
  rintro e w' ⟨rfl, hi, hk⟩
  rw [show min (p + 1) (t.ents.length + 1) = p + 1 by omega] at hi
  exact ⟨by rw [decide_eq_true hp], each_move hd h hi hk⟩
theorem each_end (hd : EachHead w tb n cv t ib cb base v0) (h : EachRel w tb t ib cb base v0 p P wr) (hp : p = t.ents.length) :
    Calls Try.prog 92 #[.pointer (some ⟨ib, 0, none⟩)] wr fun e w' => e = .returned (.bool false) ∧ EachRel w tb t ib cb base v0 (p + 1) P w' := by
  refine (mnext_any h.it (hd.on h) hd.ne hd.nm (by omega)).mono ?_
  rintro e w' ⟨rfl, hi, hk⟩
  rw [show min (p + 1) (t.ents.length + 1) = p + 1 by omega] at hi
  exact ⟨by rw [decide_eq_false (by omega)], each_move hd h hi hk⟩
theorem each_key (hd : EachHead w tb n cv t ib cb base v0) (h : EachRel w tb t ib cb base v0 (p + 1) P wr) {x : Nat} {k v : Int} (he : t.ents[p]? = some (x, k, v)) :
    Calls Try.prog 100 #[.pointer (some ⟨ib, 0, none⟩)] wr fun e w' => e = .returned (.iface 3 (.int .i64 k)) ∧ wr = w' := mkey_any h.it (hd.on h) he
theorem each_val (hd : EachHead w tb n cv t ib cb base v0) (h : EachRel w tb t ib cb base v0 (p + 1) P wr) {x : Nat} {k v : Int} (he : t.ents[p]? = some (x, k, v)) :
    Calls Try.prog 101 #[.pointer (some ⟨ib, 0, none⟩)] wr fun e w' => e = .returned (.iface 3 (.int .i64 v)) ∧ wr = w' := mvalue_any h.it (hd.on h) he
theorem each_note (hd : EachHead w tb n cv t ib cb base v0) (h : EachRel w tb t ib cb base v0 p P wr) (hlen : P.length ≤ 1000000) (k x : Int) :
    Calls Try.prog 71 #[.iface 3 (.int .i64 k), .iface 3 (.int .i64 x), .pointer (some ⟨cb, 0, none⟩)] wr fun e w' => e = .returned (.tuple #[]) ∧ EachRel w tb t ib cb base v0 p (P ++ [(k, x)]) w' := by
  obtain ⟨v, ho, hn, hv⟩ := h.out
  refine (note_any ho (Nat.le_trans hd.base h.keep.size) hlen k x).mono ?_
  rintro e w' ⟨rfl, v', ho', hk, hv'⟩
  have hcb := hd.cb
  have hfr := hd.fresh
  refine ⟨rfl, h.it.keep hk ?_, ⟨v', ho', ?_, ?_⟩, h.keep.then hk fun i hi e => ?_, Nat.lt_of_lt_of_le h.here hk.size⟩
  · rintro (e | e)
    · omega
    · exact hn e
  · intro e
    rcases hv' with e2 | e2
    · exact hn (by rw [← e2, e])
    · have := e2 _ e; have := h.here; omega
  · rcases hv' with e2 | e2
    · rw [e2]; exact hv
    · exact .inr fun g hg => Nat.le_trans h.keep.size (e2 g hg)
  · rcases e with e | e
    · exact .inl e
    · rcases hv with e2 | e2
      · exact .inr (by rw [← e2]; exact e)
      · have := e2 i e; omega
end

set_option maxRecDepth 100000 in
theorem mapEach_any {w : World} {B mb ob cb base : Nat} {kind m : Int} {L : List (Int × Int)} {v0 : Value} (h : Mp w B mb ob kind m L) (ho : Out base cb [] v0 w) (hb : base ≤ w.heap.size) (hcb : cb < B) (hv : ∀ g, v0.ownBlock = some g → g < B) (hlen : L.length ≤ 1000000) :
    Calls Try.prog 70 #[.pointer (some ⟨mb, 0, none⟩), .func (.func 71) #[] #[.pointer (some ⟨cb, 0, none⟩)]] w fun e w' => e = .returned (.tuple #[]) ∧ ∃ v', Out base cb L v' w' ∧ Keep (fun i => i = cb ∨ v0.ownBlock = some i) w w' := by
  obtain ⟨tb', t, hmb, htm, rfl, -, -, h6, h7⟩ := h
  have IT := hid (mapIterator_any hmb)
  have HH := hid (And.intro htm (And.intro ho (And.intro hb (And.intro hlen (And.intro (show ∀ i, i = cb ∨ v0.ownBlock = some i → i ≠ tb' ∧ i ∉ t.ids from fun i hi => by
    have : i < B := by rcases hi with rfl | hi; exact hcb; exact hv i hi
    exact ⟨by omega, fun hm => by have := h7 i hm; omega⟩) (lt_of_heap ho.cell))))))
  clear hmb htm ho hb hcb hv hlen h6 h7
  go_enter Try.func70, Try.ntmps70
  go_wp2_with (fail)
  refine IT.out.mono ?_
  rintro e w1 ⟨rfl, hk⟩
  have HD := hid (show EachHead w tb' t.ents.length (cmpV ob) t w1.heap.size cb base v0 from ⟨HH.out.1.tree, hk.size, HH.out.2.2.2.2.1, HH.out.2.2.2.2.2, HH.out.2.2.1⟩)
  have K1 := hid (show Keep (fun _ => False) w (w1.alloc (.cells #[.pointer (some ⟨tb', 0, none⟩), .pointer none, .int .u8 0] 96)) from hk.alloc _)
  have ST := hid (show EachRel w tb' t w1.heap.size cb base v0 0 (t.toList.take 0) (w1.alloc (.cells #[.pointer (some ⟨tb', 0, none⟩), .pointer none, .int .u8 0] 96)) from
    ⟨heap_alloc_new w1 _, ⟨v0, ⟨K1.out.get HH.out.2.1.cell id, ownsRow.on HH.out.2.1.row K1.out, HH.out.2.1.ne⟩, fun e => by have := (HH.out.2.1.row.lt _ e).2; have := hk.size; omega, .inl rfl⟩, K1.out.any, by simp⟩)
  clear hk
  go_wp2_with (fail)
  go_loopg [] (t.ents.length + 1) (fun g wr => ∃ p : Nat, p ≤ t.ents.length ∧ g = t.ents.length + 1 - p ∧ EachRel w tb' t w1.heap.size cb base v0 p (t.toList.take p) wr)
  case atStart => exact ⟨0, Nat.zero_le _, by omega, ST.out⟩
  case round =>
    obtain ⟨p, hp, hg, hw⟩ := hrel
    have HG := hid hg
    have HW := hid hw
    clear hg hw
    by_cases hlt : p < t.ents.length
    · obtain ⟨x, k, v, he⟩ := ents_at hlt
      have HE := hid he
      have NX := hid (each_next HD.out HW.out hlt)
      clear he
      go_wp2_with (fail)
      refine NX.out.mono ?_
      rintro e w2 ⟨rfl, hw2⟩
      have H1 := hid hw2
      clear hw2
      go_wp2_with (fail)
      refine (each_key HD.out H1.out HE.out.1).mono ?_
      rintro e w3 ⟨rfl, rfl⟩
      go_wp2_with (fail)
      refine (each_val HD.out H1.out HE.out.1).mono ?_
      rintro e w3 ⟨rfl, rfl⟩
      go_wp2_with (fail)
      refine (each_note HD.out H1.out (by have := HH.out.2.2.2.1; rw [List.length_take]; omega) k v).mono ?_
      rintro e w4 ⟨rfl, hw4⟩
      have H2 := hid hw4
      clear hw4
      go_wp2_with (fail)
      go_roundg (t.ents.length + 1 - (p + 1))
      case measure => rw [HG.out]; omega
      case rel => exact ⟨p + 1, by omega, rfl, by rw [HE.out.2.1]; exact H2.out⟩
    · obtain rfl : p = t.ents.length := by omega
      have NX := hid (each_end HD.out HW.out rfl)
      go_wp2_with (fail)
      refine NX.out.mono ?_
      rintro e w2 ⟨rfl, hw2⟩
      have HE := hid hw2
      clear hw2
      go_wp2_with (fail)
      go_end0
      have h := HE.out
      rw [List.take_of_length_le (by rw [toList_length]; omega)] at h
      obtain ⟨v, ho, -, -⟩ := h.out
      exact ⟨rfl, v, ho, h.keep⟩

set_option maxRecDepth 100000 in
theorem MapEach_any {w : World} {B : Nat} {kind m : Int} {v : Value} {acts : List Act3} (hok : OrdOk kind m) (ha : ActsIn w B v acts) (hB : B ≤ w.heap.size) (hlen : acts.length ≤ 100000) :
    Calls Try.prog 44 #[.agg #[.int .i64 kind, .int .i64 m], v] w fun e w' => ∃ sv, e = .returned sv ∧ w'.ownsRow w.heap.size 53 3 sv (runA (ordf kind m) acts).length ((runA (ordf kind m) acts).flatMap encT) ∧ Keep (fun _ => False) w w' := by
  have K0 := hid (show Keep (fun _ => False) w (((w.alloc (.cells #[.int .i64 kind, .int .i64 m] 23)).alloc (.cells #[] 53)).alloc (.cells #[.slice (some ⟨w.heap.size + 1, 0, none⟩) 0 0] 64)) from (((Keep.refl _ _).alloc _).alloc _).alloc _)
  have BT := hid (built_any hok (ha.keep K0.out fun _ _ => id) (Nat.le_trans hB K0.out.size) hlen)
  have OB := hid (blk_3 w (.cells #[.int .i64 kind, .int .i64 m] 23) (.cells #[] 53) (.cells #[.slice (some ⟨w.heap.size + 1, 0, none⟩) 0 0] 64))
  obtain ⟨o0, o1⟩ : (((w.alloc (.cells #[.int .i64 kind, .int .i64 m] 23)).alloc (.cells #[] 53)).alloc (.cells #[.slice (some ⟨w.heap.size + 1, 0, none⟩) 0 0] 64)).cell? ⟨w.heap.size, 0, none⟩ = some (.int .i64 kind) ∧ (((w.alloc (.cells #[.int .i64 kind, .int .i64 m] 23)).alloc (.cells #[] 53)).alloc (.cells #[.slice (some ⟨w.heap.size + 1, 0, none⟩) 0 0] 64)).cell? ⟨w.heap.size, 1, none⟩ = some (.int .i64 m) := ocells (((Keep.refl _ _).alloc _).alloc _)
  obtain ⟨L, hL⟩ : ∃ L, L = runA (ordf kind m) acts := ⟨_, rfl⟩
  have HL := hid (show L.length ≤ 100000 by rw [hL]; exact Nat.le_trans (runA_len (f := ordf kind m) acts) hlen)
  rw [← hL] at BT ⊢
  clear hok ha hlen hL hB
  go_enter Try.func44, Try.ntmps44
  go_wp2_with (fail)
  refine BT.out.mono ?_
  rintro e w1 ⟨mb, ob, rfl, hm, hk⟩
  have K1 := hid (KeepFrom.is0 hk)
  have HO := hid (show Out (w.heap.size + 1) (w.heap.size + 2) [] (.slice (some ⟨w.heap.size + 1, 0, none⟩) 0 0) w1 from
    ⟨K1.out.get OB.out id, ownsRow.on (((owns_empty _ 53 3 _ (by simp) _ (by omega)).alloc _)) K1.out, fun e => by have h : w.heap.size + 1 = w.heap.size + 2 := Option.some.inj e; omega⟩)
  have ME := hid (mapEach_any hm HO.out (by have := K1.out.size; simp at this; omega) (by simp) (fun g hg => by have h : w.heap.size + 1 = g := Option.some.inj hg; simp; omega) (by have := HL.out; omega))
  clear hm hk o0 o1
  go_wp2_with (fail)
  refine ME.out.mono ?_
  rintro e w2 ⟨rfl, sv, ho, hk⟩
  have KF := hid (show Keep (fun _ => False) w w2 from (K0.out.trans K1.out).then hk fun i hi e => by rcases e with rfl | e; omega; have h : w.heap.size + 1 = i := Option.some.inj e; omega)
  have HF := hid ho
  obtain ⟨a1, c1, rfl⟩ := owns_len ho.row
  have s0 : w2.cell? ⟨w.heap.size + 1 + 1, 0, none⟩ = some (.slice a1 L.length c1) := by rw [show w.heap.size + 1 + 1 = w.heap.size + 2 from rfl, cell_of ho.cell]; rfl
  clear ho hk
  go_wp2_with (fail)
  go_ret
  exact ⟨_, rfl, owns_mono HF.out.row (Nat.le_succ _), KF.out⟩
end Go.Proofs.Ytdamfannmlncnaa
