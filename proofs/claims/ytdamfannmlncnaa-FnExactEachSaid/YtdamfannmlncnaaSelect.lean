/- Select and Map walked: a new map is made beside an iterator. -/
import Derived.Test.YtdamfannmlncnaaIters
import Derived.Test.YtdamfannmlncnaaSel
namespace Go.Proofs.Ytdamfannmlncnaa
open Go.RowKit
set_option linter.unusedVariables false
set_option linter.unusedSimpArgs false
set_option maxHeartbeats 1600000
attribute [local go_sem ↓] Go.wp_at_zero Go.wp_at_succ

/-- A map as Mp says, of which the block x is no part. -/
def Mpx (w : World) (B x mb ob : Nat) (kind m : Int) (L : List (Int × Int)) : Prop :=
  ∃ tb t, w.heap[mb]? = some (mapObj tb) ∧ Tm w tb ob kind m t ∧ t.toList = L ∧ mb ≠ tb ∧ mb ∉ t.ids ∧ (B ≤ tb ∧ ∀ i ∈ t.ids, B ≤ i) ∧ x ≠ tb ∧ x ∉ t.ids

section
variable {w w' : World} {B x mb ob : Nat} {kind m : Int} {L : List (Int × Int)}
theorem Mpx.mp (h : Mpx w B x mb ob kind m L) : Mp w B mb ob kind m L := by
  obtain ⟨tb, t, h1, h2, h3, h4, h5, h6, h7⟩ := h
  exact ⟨tb, t, h1, h2, h3, h4, h5, h6.1, h6.2⟩
/-- A block that is made later is no part of a map. -/
theorem Mp.apart (h : Mp w B mb ob kind m L) (hx : w.heap.size ≤ x) : Mpx w B x mb ob kind m L := by
  obtain ⟨tb, t, h1, h2, h3, h4, h5, h6, h7⟩ := h
  exact ⟨tb, t, h1, h2, h3, h4, h5, ⟨h6, h7⟩, fun e => by have := lt_of_heap h2.tree.head; omega, fun hm => by have := h2.tree.lt hm; omega⟩
theorem Mpx.keep (h : Mpx w B x mb ob kind m L) (hk : Keep (fun i => i = x) w w') (h1 : mb ≠ x) (h2 : ob ≠ x) : Mpx w' B x mb ob kind m L := by
  obtain ⟨tb, t, g1, g2, g3, g4, g5, g6, g7, g8⟩ := h
  exact ⟨tb, t, hk.get g1 h1, g2.keep hk (fun e => g7 e.symm) (fun i hi e => g8 (e ▸ hi)) h2, g3, g4, g5, g6, g7, g8⟩

theorem mapPutx_any (h : Mpx w B x mb ob kind m L) (hx : x < w.heap.size) (key val : Int) (hlen : L.length ≤ 1000000) :
    Calls Try.prog 77 #[.pointer (some ⟨mb, 0, none⟩), .iface 3 (.int .i64 key), .iface 3 (.int .i64 val)] w fun e w' =>
      e = .returned (.tuple #[]) ∧ Mpx w' B x mb ob kind m (put (ordf kind m) key val L) ∧ Keep (fun i => B ≤ i ∧ i ≠ x) w w' := by
  obtain ⟨tb, t, h1, h2, h3, h4, h5, h6, h7, h8⟩ := h
  have c := map_tree h1
  have P := hid (treePut_any h2 key val (by rw [← toList_length, h3]; exact hlen))
  have HH := hid (And.intro h1 (And.intro h3 (And.intro h4 (And.intro h5 (And.intro h6 (And.intro h7 (And.intro h8 hx)))))))
  have H2 := hid h2
  clear h1 h2 h3 h4 h5 h6 h7 h8 hlen hx
  go_enter Try.func77, Try.ntmps77
  go_wp2_with (go_at_call 108; refine P.out.mono ?_; rintro e w' ⟨rfl, hp⟩)
  go_end0
  obtain ⟨h1, h3, h4, h5, h6, h7, h8, hx⟩ := HH.out
  obtain ⟨t', ht', hl, hi, hk⟩ := hp
  have hmb := lt_of_heap h1
  have htb := lt_of_heap H2.out.tree.head
  refine ⟨rfl, ⟨tb, t', hk.get h1 ?_, ht', by rw [hl, h3], h4, fun e => ?_, ⟨h6.1, fun i hm => ?_⟩, h7, fun e => ?_⟩, hk.mono fun i _ hi => ?_⟩
  · rintro (e | e); exact h4 e; exact h5 e
  · rcases hi mb e with e | e; exact h5 e; omega
  · rcases hi i hm with e | e; exact h6.2 i e; have := h6.1; omega
  · rcases hi x e with e | e; exact h8 e; omega
  · rcases hi with rfl | hi
    · exact ⟨h6.1, fun e => h7 e.symm⟩
    · exact ⟨h6.2 i hi, fun e => h8 (e ▸ hi)⟩

/-- An empty map, just made. -/
theorem new_map (h : w.heap[ob]? = some (orderObj kind m)) (hok : OrdOk kind m) :
    Mp ((w.alloc (treeObj none 0 (cmpV ob))).alloc (mapObj w.heap.size)) w.heap.size (w.heap.size + 1) ob kind m [] := by
  have hlt := lt_of_heap h
  have hk : Keep (fun _ => False) w ((w.alloc (treeObj none 0 (cmpV ob))).alloc (mapObj w.heap.size)) := ((Keep.refl _ _).alloc _).alloc _
  have e1 : ((w.alloc (treeObj none 0 (cmpV ob))).alloc (mapObj w.heap.size)).heap[w.heap.size]? = some (treeObj none 0 (cmpV ob)) := by
    rw [heap_old _ _ (by simp)]; exact heap_new _ _ _ rfl
  have e2 : ((w.alloc (treeObj none 0 (cmpV ob))).alloc (mapObj w.heap.size)).heap[w.heap.size + 1]? = some (mapObj w.heap.size) := heap_new _ _ _ (by simp)
  exact ⟨w.heap.size, .nil, e2, ⟨⟨e1, trivial, by simp [ids_nil], by simp [ids_nil]⟩, hk.get h id, hok, by simp [toList_nil, Srt], ⟨rfl, 0, rfl⟩, by omega, by simp [ids_nil]⟩, rfl, by omega, by simp [ids_nil], Nat.le_refl _, by simp [ids_nil]⟩
end

/-- What a round of Select, of Map begins with: the iterator at a place; the new map with what was put in so far. -/
structure SelRel (w : World) (tb : Nat) (t : T) (ib nb ob : Nat) (kind m : Int) (p : Nat) (M : List (Int × Int)) (wr : World) : Prop where
  walk : WalkRel w tb t ib p wr
  map : Mpx wr w.heap.size ib nb ob kind m M
  here : ib < wr.heap.size
/-- Blocks that stay apart. -/
structure SelHead (w : World) (tb : Nat) (n : Int) (cv : Value) (t : T) (ib nb ob : Nat) : Prop where
  head : Head w tb n cv t ib
  nb : nb ≠ ib
  ob : ob ≠ ib
section
variable {w wr w' : World} {tb ib nb ob p p' : Nat} {n : Int} {cv : Value} {t : T} {kind m : Int} {M M' : List (Int × Int)}
theorem SelRel.move (hd : SelHead w tb n cv t ib nb ob) (h : SelRel w tb t ib nb ob kind m p M wr) (hi : ItIn w' ib 96 tb t p') (hk : Keep (fun i => i = ib) wr w') : SelRel w tb t ib nb ob kind m p' M w' :=
  ⟨h.walk.move hd.head.fresh hi hk, h.map.keep hk hd.nb hd.ob, Nat.lt_of_lt_of_le h.here hk.size⟩
theorem SelRel.on (hd : SelHead w tb n cv t ib nb ob) (h : SelRel w tb t ib nb ob kind m p M wr) (hk : Keep (fun _ => False) wr w') : SelRel w tb t ib nb ob kind m p M w' :=
  ⟨h.walk.on hk, h.map.keep (hk.mono fun _ _ => False.elim) hd.nb hd.ob, Nat.lt_of_lt_of_le h.here hk.size⟩
theorem SelRel.put (h : SelRel w tb t ib nb ob kind m p M wr) (hm : Mpx w' w.heap.size ib nb ob kind m M') (hk : Keep (fun i => w.heap.size ≤ i ∧ i ≠ ib) wr w') : SelRel w tb t ib nb ob kind m p M' w' :=
  ⟨⟨h.walk.it.keep hk (fun e => e.2 rfl), h.walk.keep.then hk (fun i hi e => by omega)⟩, hm, Nat.lt_of_lt_of_le h.here hk.size⟩
theorem sel_next (hd : SelHead w tb n cv t ib nb ob) (h : SelRel w tb t ib nb ob kind m p M wr) (hp : p < t.ents.length) :
    Calls Try.prog 92 #[.pointer (some ⟨ib, 0, none⟩)] wr fun e w' => e = .returned (.bool true) ∧ SelRel w tb t ib nb ob kind m (p + 1) M w' := by
  have := mnext_any h.walk.it (hd.head.tree.keep h.walk.keep id (fun _ _ => id)) hd.head.ne hd.head.nm (by omega)
  refine this.mono ?_
  rintro e w' ⟨rfl, hi, hk⟩
  rw [show min (p + 1) (t.ents.length + 1) = p + 1 by omega] at hi
  exact ⟨by rw [decide_eq_true hp], h.move hd hi hk⟩
theorem sel_end (hd : SelHead w tb n cv t ib nb ob) (h : SelRel w tb t ib nb ob kind m p M wr) (hp : p = t.ents.length) :
    Calls Try.prog 92 #[.pointer (some ⟨ib, 0, none⟩)] wr fun e w' => e = .returned (.bool false) ∧ SelRel w tb t ib nb ob kind m (p + 1) M w' := by
  have := mnext_any h.walk.it (hd.head.tree.keep h.walk.keep id (fun _ _ => id)) hd.head.ne hd.head.nm (by omega)
  refine this.mono ?_
  rintro e w' ⟨rfl, hi, hk⟩
  rw [show min (p + 1) (t.ents.length + 1) = p + 1 by omega] at hi
  exact ⟨by rw [decide_eq_false (by omega)], h.move hd hi hk⟩
theorem sel_start {W : World} (h : Mp W w.heap.size nb ob kind m M) (hk : Keep (fun _ => False) w W) (hib : W.heap.size = ib) (hnb : nb < ib) : SelRel w tb t ib nb ob kind m 0 M (W.alloc (.cells #[.pointer (some ⟨tb, 0, none⟩), .pointer none, .int .u8 0] 96)) := by
  subst hib
  refine ⟨start_iter hk rfl, ?_, by simp⟩
  exact (Mp.apart h (Nat.le_refl _)).keep ((Keep.refl _ _).alloc _) (by omega) (by obtain ⟨tb, t, h1, h2, _⟩ := h; have := lt_of_heap h2.ord; omega)
end

set_option maxRecDepth 100000 in
theorem mapSelect_any {w : World} {B mb ob qb : Nat} {kind m : Int} {L : List (Int × Int)} {tb : Bool} {tm tr : Int} (h : Mp w B mb ob kind m L) (hq : w.heap[qb]? = some (tobj tb tm tr)) (h1 : 1 ≤ tm) (h2 : tm ≤ 1000) (hlen : L.length ≤ 1000000) :
    Calls Try.prog 76 #[.pointer (some ⟨mb, 0, none⟩), .func (.func 107) #[] #[.pointer (some ⟨qb, 0, none⟩)]] w fun e w' => ∃ nb, e = .returned (.pointer (some ⟨nb, 0, none⟩)) ∧ Mp w' w.heap.size nb ob kind m (runA (ordf kind m) (selA (holdsT tb tm tr) L)) ∧ Keep (fun _ => False) w w' := by
  have HW := hid h
  obtain ⟨tb', t, hmb, htm, rfl, -⟩ := h
  have NM := hid (new_map htm.ord htm.ok)
  have KN := hid (show Keep (fun _ => False) w ((w.alloc (treeObj none 0 (cmpV ob))).alloc (mapObj w.heap.size)) from ((Keep.refl _ _).alloc _).alloc _)
  have IT := hid (mapIterator_any (KN.out.get hmb id))
  have P := hid (treeNew_any w ob)
  have P : Hid (Calls Try.prog 104 #[.func (.func 109) #[] #[.pointer (some ⟨ob, 0, none⟩)]] w fun e w' => e = .returned (.pointer (some ⟨w.heap.size, 0, none⟩)) ∧ w.alloc (treeObj none 0 (cmpV ob)) = w') := P
  have m0 := map_tree hmb
  have t2 : w.cell? ⟨tb', 2, none⟩ = some (.func (.func 109) #[] #[.pointer (some ⟨ob, 0, none⟩)]) := tree_cmp htm.tree.head
  have HT := hid htm
  have HQ := hid (And.intro hq (And.intro h1 (And.intro h2 (And.intro hlen (lt_of_heap htm.ord)))))
  clear hmb htm hq h1 h2 hlen
  go_enter Try.func76, Try.ntmps76
  go_wp2_with (go_at_call 104; refine P.out.mono ?_; rintro e w' ⟨rfl, rfl⟩)
  refine IT.out.mono ?_
  rintro e w1 ⟨rfl, hk⟩
  have K0 := hid (KN.out.trans hk)
  have M1 := hid (NM.out.below hk.any)
  have hsz : w.heap.size + 2 ≤ w1.heap.size := by have := hk.size; simp at this; omega
  have HD := hid (show SelHead w tb' t.ents.length (cmpV ob) t w1.heap.size (w.heap.size + 1) ob from ⟨⟨HT.out.tree, by omega⟩, by omega, by have := HQ.out.2.2.2.2; omega⟩)
  have ST := hid (sel_start (tb := tb') (t := t) M1.out K0.out rfl (by omega))
  clear hk hsz m0 t2
  go_wp2_with (fail)
  go_loopg [] (t.ents.length + 1) (fun g wr => ∃ p : Nat, p ≤ t.ents.length ∧ g = t.ents.length + 1 - p ∧ SelRel w tb' t w1.heap.size (w.heap.size + 1) ob kind m p (runA (ordf kind m) (selA (holdsT tb tm tr) (t.toList.take p))) wr)
  case atStart => exact ⟨0, Nat.zero_le _, by omega, ST.out⟩
  case round =>
    obtain ⟨p, hp, hg, hw⟩ := hrel
    have HG := hid hg
    have HW := hid hw
    clear hg hw
    by_cases hlt : p < t.ents.length
    · obtain ⟨x, k, v, he⟩ := ents_at hlt
      have HE := hid he
      have NX := hid (sel_next HD.out HW.out hlt)
      clear he
      go_wp2_with (fail)
      refine NX.out.mono ?_
      rintro e w2 ⟨rfl, hw2⟩
      have H1 := hid hw2
      clear hw2
      go_wp2_with (fail)
      refine (step_key HD.out.head H1.out.walk HE.out.1).mono ?_
      rintro e w3 ⟨rfl, rfl⟩
      go_wp2_with (fail)
      refine (step_val HD.out.head H1.out.walk HE.out.1).mono ?_
      rintro e w3 ⟨rfl, rfl⟩
      go_wp2_with (fail)
      refine (test1_any (H1.out.walk.keep.get HQ.out.1 id) HQ.out.2.1 HQ.out.2.2.1 k v).mono ?_
      rintro e w4 ⟨rfl, j, rfl⟩
      have H2 := hid (H1.out.on HD.out ((Keep.refl _ _).drewN j))
      cases hb : holdsT tb tm tr (k, v) with
      | true =>
          have HB := hid hb
          clear hb
          go_wp2_with (fail)
          refine (step_key HD.out.head H2.out.walk HE.out.1).mono ?_
          rintro e w5 ⟨rfl, rfl⟩
          go_wp2_with (fail)
          refine (step_val HD.out.head H2.out.walk HE.out.1).mono ?_
          rintro e w5 ⟨rfl, rfl⟩
          go_wp2_with (fail)
          refine (mapPutx_any H2.out.map H2.out.here k v ?_).mono ?_
          · have h1 := runA_len (f := ordf kind m) (selA (holdsT tb tm tr) (t.toList.take p))
            have h2 := selA_len (holdsT tb tm tr) (t.toList.take p)
            have h3 := HQ.out.2.2.2.1
            rw [List.length_take] at h2
            omega
          rintro e w6 ⟨rfl, hm6, hk6⟩
          have H3 := hid (H2.out.put hm6 hk6)
          clear hm6 hk6
          go_wp2_with (fail)
          go_roundg (t.ents.length + 1 - (p + 1))
          case measure => rw [HG.out]; omega
          case rel => exact ⟨p + 1, by omega, rfl, by rw [selA_hit HE.out.2.1 HB.out, runA_put]; exact H3.out⟩
      | false =>
          have HB := hid hb
          clear hb
          go_wp2_with (fail)
          go_roundg (t.ents.length + 1 - (p + 1))
          case measure => rw [HG.out]; omega
          case rel => exact ⟨p + 1, by omega, rfl, by rw [selA_miss HE.out.2.1 HB.out]; exact H2.out⟩
    · obtain rfl : p = t.ents.length := by omega
      have NX := hid (sel_end HD.out HW.out rfl)
      go_wp2_with (fail)
      refine NX.out.mono ?_
      rintro e w2 ⟨rfl, hw2⟩
      have HE := hid hw2
      clear hw2
      go_wp2_with (fail)
      go_ret
      have h := HE.out
      rw [List.take_of_length_le (by rw [toList_length]; omega)] at h
      exact ⟨_, rfl, h.map.mp, h.walk.keep⟩

/-- The machine's sum. -/
def add64 (a b : Int) : Int := wrap64 (a + b)

theorem mapFn_any {w : World} {qb : Nat} {bn : Int} (h : w.cell? ⟨qb, 0, none⟩ = some (.int .i64 bn)) (h1 : 1 ≤ bn) (h2 : bn ≤ 1000) (k v : Int) :
    Calls Try.prog 68 #[.iface 3 (.int .i64 k), .iface 3 (.int .i64 v), .pointer (some ⟨qb, 0, none⟩)] w fun e w' => e = .returned (.tuple #[.iface 3 (.int .i64 (k % bn)), .iface 3 (.int .i64 (add64 v k))]) ∧ ∃ j, w' = w.drewN j := by
  have RS := hid (fun W => rest_any k bn h1 h2 W)
  clear h1 h2
  go_enter Try.func68, Try.ntmps68
  go_wp2_with (fail)
  go_quiet ((go_at_call 69; exact q_of (RS.out _)))
  go_wp2_with (fail)
  go_ret2
  exact ⟨rfl, _, rfl⟩

set_option maxRecDepth 100000 in
theorem mapMap_any {w : World} {B mb ob qb : Nat} {kind m : Int} {L : List (Int × Int)} {bn : Int} (h : Mp w B mb ob kind m L) (hq : w.cell? ⟨qb, 0, none⟩ = some (.int .i64 bn)) (h1 : 1 ≤ bn) (h2 : bn ≤ 1000) (hlen : L.length ≤ 1000000) :
    Calls Try.prog 67 #[.pointer (some ⟨mb, 0, none⟩), .func (.func 68) #[] #[.pointer (some ⟨qb, 0, none⟩)]] w fun e w' => ∃ nb, e = .returned (.pointer (some ⟨nb, 0, none⟩)) ∧ Mp w' w.heap.size nb ob kind m (runA (ordf kind m) (mapA add64 bn L)) ∧ Keep (fun _ => False) w w' := by
  have HW := hid h
  obtain ⟨tb', t, hmb, htm, rfl, -⟩ := h
  have NM := hid (new_map htm.ord htm.ok)
  have KN := hid (show Keep (fun _ => False) w ((w.alloc (treeObj none 0 (cmpV ob))).alloc (mapObj w.heap.size)) from ((Keep.refl _ _).alloc _).alloc _)
  have IT := hid (mapIterator_any (KN.out.get hmb id))
  have P := hid (treeNew_any w ob)
  have P : Hid (Calls Try.prog 104 #[.func (.func 109) #[] #[.pointer (some ⟨ob, 0, none⟩)]] w fun e w' => e = .returned (.pointer (some ⟨w.heap.size, 0, none⟩)) ∧ w.alloc (treeObj none 0 (cmpV ob)) = w') := P
  have m0 := map_tree hmb
  have t2 : w.cell? ⟨tb', 2, none⟩ = some (.func (.func 109) #[] #[.pointer (some ⟨ob, 0, none⟩)]) := tree_cmp htm.tree.head
  have HT := hid htm
  have HQ := hid (And.intro hq (And.intro h1 (And.intro h2 (And.intro hlen (lt_of_heap htm.ord)))))
  clear hmb htm hq h1 h2 hlen
  go_enter Try.func67, Try.ntmps67
  go_wp2_with (go_at_call 104; refine P.out.mono ?_; rintro e w' ⟨rfl, rfl⟩)
  refine IT.out.mono ?_
  rintro e w1 ⟨rfl, hk⟩
  have K0 := hid (KN.out.trans hk)
  have M1 := hid (NM.out.below hk.any)
  have hsz : w.heap.size + 2 ≤ w1.heap.size := by have := hk.size; simp at this; omega
  have HD := hid (show SelHead w tb' t.ents.length (cmpV ob) t w1.heap.size (w.heap.size + 1) ob from ⟨⟨HT.out.tree, by omega⟩, by omega, by have := HQ.out.2.2.2.2; omega⟩)
  have ST := hid (sel_start (tb := tb') (t := t) M1.out K0.out rfl (by omega))
  clear hk hsz m0 t2
  go_wp2_with (fail)
  go_loopg [] (t.ents.length + 1) (fun g wr => ∃ p : Nat, p ≤ t.ents.length ∧ g = t.ents.length + 1 - p ∧ SelRel w tb' t w1.heap.size (w.heap.size + 1) ob kind m p (runA (ordf kind m) (mapA add64 bn (t.toList.take p))) wr)
  case atStart => exact ⟨0, Nat.zero_le _, by omega, ST.out⟩
  case round =>
    obtain ⟨p, hp, hg, hw⟩ := hrel
    have HG := hid hg
    have HW := hid hw
    clear hg hw
    by_cases hlt : p < t.ents.length
    · obtain ⟨x, k, v, he⟩ := ents_at hlt
      have HE := hid he
      have NX := hid (sel_next HD.out HW.out hlt)
      clear he
      go_wp2_with (fail)
      refine NX.out.mono ?_
      rintro e w2 ⟨rfl, hw2⟩
      have H1 := hid hw2
      clear hw2
      go_wp2_with (fail)
      refine (step_key HD.out.head H1.out.walk HE.out.1).mono ?_
      rintro e w3 ⟨rfl, rfl⟩
      go_wp2_with (fail)
      refine (step_val HD.out.head H1.out.walk HE.out.1).mono ?_
      rintro e w3 ⟨rfl, rfl⟩
      go_wp2_with (fail)
      refine (mapFn_any (H1.out.walk.keep.cell HQ.out.1 id) HQ.out.2.1 HQ.out.2.2.1 k v).mono ?_
      rintro e w4 ⟨rfl, j, rfl⟩
      have H2 := hid (H1.out.on HD.out ((Keep.refl _ _).drewN j))
      go_wp2_with (fail)
      refine (mapPutx_any H2.out.map H2.out.here (k % bn) (add64 v k) ?_).mono ?_
      · have h1 := runA_len (f := ordf kind m) (mapA add64 bn (t.toList.take p))
        have h2 := mapA_len add64 bn (t.toList.take p)
        have h3 := HQ.out.2.2.2.1
        rw [List.length_take] at h2
        omega
      rintro e w6 ⟨rfl, hm6, hk6⟩
      have H3 := hid (H2.out.put hm6 hk6)
      clear hm6 hk6
      go_wp2_with (fail)
      go_roundg (t.ents.length + 1 - (p + 1))
      case measure => rw [HG.out]; omega
      case rel => exact ⟨p + 1, by omega, rfl, by rw [mapA_step HE.out.2.1, runA_put]; exact H3.out⟩
    · obtain rfl : p = t.ents.length := by omega
      have NX := hid (sel_end HD.out HW.out rfl)
      go_wp2_with (fail)
      refine NX.out.mono ?_
      rintro e w2 ⟨rfl, hw2⟩
      have HE := hid hw2
      clear hw2
      go_wp2_with (fail)
      go_ret
      have h := HE.out
      rw [List.take_of_length_le (by rw [toList_length]; omega)] at h
      exact ⟨_, rfl, h.map.mp, h.walk.keep⟩
end Go.Proofs.Ytdamfannmlncnaa
