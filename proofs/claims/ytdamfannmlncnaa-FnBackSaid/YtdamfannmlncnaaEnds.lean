/- Min, Max, Floor, Ceiling: the tree's, the map's, the thin package's, walked. -/
import Derived.Test.YtdamfannmlncnaaExactState
namespace Go.Proofs.Ytdamfannmlncnaa
open Go.RowKit
set_option linter.unusedVariables false
set_option linter.unusedSimpArgs false
set_option maxHeartbeats 1600000
attribute [local go_sem ↓] Go.wp_at_zero Go.wp_at_succ

theorem blk_second' (w : World) (cs ds : Array Value) (e e' : TypeId) : ((w.alloc (.cells cs e)).alloc (.cells ds e')).heap[w.heap.size + 1]? = some (.cells ds e' (0, 0)) := by
  simpa using heap_alloc_new (w.alloc (.cells cs e)) (.cells ds e')

section
variable {f : Int → Int} {cx : Cx} {key : Int}
theorem Between.rank_nil (h : Between f cx key) : rank f key (cx.plug .nil).toList = cx.bl.length := by
  rw [plug_toList, toList_nil, List.append_nil, rank_app h.lo, rank_ge (fun e he => by have := h.hi e he; omega)]; rfl
theorem Between.has_nil (h : Between f cx key) : hasA f key (cx.plug .nil).toList = false := by
  unfold hasA
  rw [h.rank_nil, plug_toList, toList_nil, List.append_nil, List.getElem?_append_right (Nat.le_refl _), Nat.sub_self]
  cases ha : cx.al with
  | nil => rfl
  | cons e l =>
    have := h.hi e (by rw [ha]; simp)
    simp only [List.getElem?_cons_zero, decide_eq_false_iff_not]
    omega
theorem floor_nil (h : Between f cx key) : floorA f key (cx.plug .nil).toList = (cx.bents.getLast?).map (·.2) := by
  unfold floorA
  rw [h.has_nil, h.rank_nil, plug_toList, toList_nil, List.append_nil]
  have e : (cx.bents.getLast?).map (·.2) = cx.bl.getLast? := by unfold Cx.bl; rw [List.getLast?_map]
  rw [e]
  cases hb : cx.bl with
  | nil => simp
  | cons a l =>
    rw [if_neg (by simp), if_neg (by simp), List.getElem?_append_left (by simp), ← List.getLast?_eq_getElem?]
theorem ceil_nil (h : Between f cx key) : ceilA f key (cx.plug .nil).toList = (cx.aents.head?).map (·.2) := by
  unfold ceilA
  rw [h.rank_nil, plug_toList, toList_nil, List.append_nil, List.getElem?_append_right (Nat.le_refl _), Nat.sub_self]
  have e : (cx.aents.head?).map (·.2) = cx.al.head? := by unfold Cx.al; rw [List.head?_map]
  rw [e, List.head?_eq_getElem?]
theorem rank_hit {x c l k v r} (hs : Srt f (cx.plug (.node x c l k v r)).toList) (he : f k = f key) : rank f key (cx.plug (.node x c l k v r)).toList = (cx.bl ++ l.toList).length ∧ (cx.plug (.node x c l k v r)).toList[rank f key (cx.plug (.node x c l k v r)).toList]? = some (k, v) := by
  have h1 := srt_left_lt hs
  have e : (cx.plug (.node x c l k v r)).toList = (cx.bl ++ l.toList) ++ ((k, v) :: (r.toList ++ cx.al)) := by rw [plug_toList, toList_node]; simp
  have hr : rank f key (cx.plug (.node x c l k v r)).toList = (cx.bl ++ l.toList).length := by
    rw [e, rank_app (fun e hx => by rw [← he]; exact h1 e hx)]
    rw [rank, if_neg (by simp only; omega)]; rfl
  refine ⟨hr, ?_⟩
  rw [hr, e, List.getElem?_append_right (Nat.le_refl _), Nat.sub_self]
  rfl
theorem has_hit {x c l k v r} (hs : Srt f (cx.plug (.node x c l k v r)).toList) (he : f k = f key) : hasA f key (cx.plug (.node x c l k v r)).toList = true := by
  unfold hasA
  rw [(rank_hit hs he).2]
  simp [he]
theorem floor_hit {x c l k v r} (hs : Srt f (cx.plug (.node x c l k v r)).toList) (he : f k = f key) : floorA f key (cx.plug (.node x c l k v r)).toList = some (k, v) := by
  unfold floorA
  rw [if_pos (has_hit hs he), (rank_hit hs he).2]
theorem ceil_hit {x c l k v r} (hs : Srt f (cx.plug (.node x c l k v r)).toList) (he : f k = f key) : ceilA f key (cx.plug (.node x c l k v r)).toList = some (k, v) := (rank_hit hs he).2
theorem mem_plug_b {cx : Cx} {u : T} {e : Ent} (h : e ∈ cx.bents) : e ∈ cx.bents ++ u.ents ++ cx.aents := by simp [h]
theorem mem_plug_a {cx : Cx} {u : T} {e : Ent} (h : e ∈ cx.aents) : e ∈ cx.bents ++ u.ents ++ cx.aents := by simp [h]
end

theorem drewN_is (w : World) (a : Nat) (W : World) (h : ∃ k, W = (w.drewN a).drewN k) : ∃ k, W = w.drewN k := by
  obtain ⟨k, rfl⟩ := h
  exact ⟨a + k, by rw [World.drewN_drewN]⟩

/-- What a search for a neighbour comes to. -/
def FoundPost (o : Option (Int × Int)) (t : T) (e : Ending) : Prop :=
  (o = none ∧ e = .returned (.tuple #[.pointer none, .bool false])) ∨
  ∃ x k v, (x, k, v) ∈ t.ents ∧ o = some (k, v) ∧ e = .returned (.tuple #[.pointer (some ⟨x, 0, none⟩), .bool true])
/-- .. for an end. -/
def EndPost (o : Option (Int × Int)) (t : T) (e : Ending) : Prop :=
  (o = none ∧ e = .returned (.pointer none)) ∨ ∃ x k v, (x, k, v) ∈ t.ents ∧ o = some (k, v) ∧ e = .returned (.pointer (some ⟨x, 0, none⟩))

set_option maxHeartbeats 1600000 in
theorem treeFloor_any {w : World} {tb ob : Nat} {kind m : Int} {t : T} (h : Tm w tb ob kind m t) (key : Int) :
    Calls Try.prog 106 #[.pointer (some ⟨tb, 0, none⟩), .iface 3 (.int .i64 key)] w fun e w' => FoundPost (floorA (ordf kind m) key t.toList) t e ∧ ∃ k, w' = w.drewN k := by
  have t0 := tree_root h.tree.head
  go_enter Try.func106, Try.ntmps106
  go_wp2
  go_loopg [4, 5, 6] t.height (fun g s4 s5 s wr => ∃ (a : Nat) (cx : Cx) (u : T), wr = w.drewN a ∧ t = cx.plug u ∧ Between (ordf kind m) cx key ∧ g = u.height ∧ ∃ sa, ad u.ptr = sa ∧ s = .pointer sa ∧ ∃ fl, cx.bents.getLast? = fl ∧ ∃ fa fb, ad (fl.map (·.1)) = fa ∧ fl.isSome = fb ∧ s4 = .pointer fa ∧ s5 = .bool fb)
  case atStart => exact ⟨0, .top, t, rfl, rfl, Between.top _ _, rfl, _, rfl, rfl, none, rfl, _, _, rfl, rfl, rfl, rfl⟩
  case round =>
    obtain ⟨a, cx, u, hw, hp, hb, hg, sa, hsa, rfl, fl, hfl, fa, fb, hfa, hfb, rfl, rfl⟩ := hrel
    have T' : Tm wr tb ob kind m t := by rw [hw]; exact h.drewN a
    have HA := hid (And.intro hw (And.intro hp (And.intro hb hg)))
    have HFL := hid (And.intro hfl (And.intro hfa hfb))
    have T1 := hid T'
    have c2 : wr.cell? ⟨tb, 2, none⟩ = some (.func (.func 109) #[] #[.pointer (some ⟨ob, 0, none⟩)]) := tree_cmp T'.tree.head
    have H := hid h
    cases u with
    | nil =>
      obtain rfl : none = sa := hsa
      clear h t0 hw hp hb hg T'
      cases fl with
      | none =>
        obtain rfl : none = fa := hfa
        obtain rfl : false = fb := hfb
        clear hfl
        go_wp2
        go_ret2
        exact ⟨.inl ⟨by rw [HA.out.2.1, floor_nil HA.out.2.2.1, HFL.out.1]; rfl, rfl⟩, a, HA.out.1⟩
      | some e0 =>
        obtain ⟨x0, k0, v0⟩ := e0
        obtain rfl : some ⟨x0, 0, none⟩ = fa := hfa
        obtain rfl : true = fb := hfb
        clear hfl
        go_wp2
        go_ret2
        exact ⟨.inr ⟨x0, k0, v0, by rw [HA.out.2.1, plug_ents]; exact mem_plug_b (List.mem_of_getLast? HFL.out.1), by rw [HA.out.2.1, floor_nil HA.out.2.2.1, HFL.out.1]; rfl, rfl⟩, a, HA.out.1⟩
    | node x c l k v r =>
      have TI : TreeIn wr tb (cx.plug (.node x c l k v r)).ents.length (cmpV ob) (cx.plug (.node x c l k v r)) := by rw [← hp]; exact T'.tree
      have SR : Srt (ordf kind m) (cx.plug (.node x c l k v r)).toList := by rw [← hp]; exact T'.srt
      have SR := hid SR
      have x0 := node_key TI.node
      have x3 := node_left TI.node
      have x4 := node_right TI.node
      obtain rfl : some ⟨x, 0, none⟩ = sa := hsa
      clear h t0 hw hp hb hg T' TI hfl hfa hfb
      rcases Int.lt_trichotomy (ordf kind m key) (ordf kind m k) with hlt | heq | hgt
      · have C := fun n => comparator_lit T1.out.ord T1.out.ok (cmpI_lt hlt) n
        have C := hid C
        have HL := hid hlt
        clear hlt
        go_wp2_with (fail)
        go_quiet ((go_at_call 109; exact C.out _))
        go_wp2_with (fail)
        go_roundg l.height
        case measure => rw [HA.out.2.2.2]; simp only [T.height]; omega
        case rel => exact ⟨a + nq, .left cx x c k v r, l, by rw [HA.out.1, World.drewN_drewN], HA.out.2.1, HA.out.2.2.1.left SR.out HL.out, rfl, _, rfl, rfl, fl, HFL.out.1, _, _, HFL.out.2.1, HFL.out.2.2, rfl, rfl⟩
      · have C := fun n => comparator_lit T1.out.ord T1.out.ok (cmpI_eq heq) n
        have C := hid C
        have HL := hid heq
        clear heq
        go_wp2_with (fail)
        go_quiet ((go_at_call 109; exact C.out _))
        go_wp2_with (fail)
        go_ret2
        exact ⟨.inr ⟨x, k, v, by rw [HA.out.2.1, plug_ents]; simp [T.ents], by rw [HA.out.2.1]; exact floor_hit SR.out HL.out.symm, rfl⟩, a + nq, by rw [HA.out.1, World.drewN_drewN]⟩
      · have C := fun n => comparator_lit T1.out.ord T1.out.ok (cmpI_gt hgt) n
        have C := hid C
        have HL := hid hgt
        clear hgt
        go_wp2_with (fail)
        go_quiet ((go_at_call 109; exact C.out _))
        go_wp2_with (fail)
        go_roundg r.height
        case measure => rw [HA.out.2.2.2]; simp only [T.height]; omega
        case rel => exact ⟨a + nq, .right cx x c l k v, r, by rw [HA.out.1, World.drewN_drewN], HA.out.2.1, HA.out.2.2.1.right SR.out HL.out, rfl, _, rfl, rfl, some (x, k, v), (by simp [Cx.bents, List.getLast?_append] : (Cx.right cx x c l k v).bents.getLast? = some (x, k, v)), _, _, rfl, rfl, rfl, rfl⟩

set_option maxHeartbeats 1600000 in
theorem treeCeiling_any {w : World} {tb ob : Nat} {kind m : Int} {t : T} (h : Tm w tb ob kind m t) (key : Int) :
    Calls Try.prog 105 #[.pointer (some ⟨tb, 0, none⟩), .iface 3 (.int .i64 key)] w fun e w' => FoundPost (ceilA (ordf kind m) key t.toList) t e ∧ ∃ k, w' = w.drewN k := by
  have t0 := tree_root h.tree.head
  go_enter Try.func105, Try.ntmps105
  go_wp2
  go_loopg [4, 5, 6] t.height (fun g s4 s5 s wr => ∃ (a : Nat) (cx : Cx) (u : T), wr = w.drewN a ∧ t = cx.plug u ∧ Between (ordf kind m) cx key ∧ g = u.height ∧ ∃ sa, ad u.ptr = sa ∧ s = .pointer sa ∧ ∃ fl, cx.aents.head? = fl ∧ ∃ fa fb, ad (fl.map (·.1)) = fa ∧ fl.isSome = fb ∧ s4 = .pointer fa ∧ s5 = .bool fb)
  case atStart => exact ⟨0, .top, t, rfl, rfl, Between.top _ _, rfl, _, rfl, rfl, none, rfl, _, _, rfl, rfl, rfl, rfl⟩
  case round =>
    obtain ⟨a, cx, u, hw, hp, hb, hg, sa, hsa, rfl, fl, hfl, fa, fb, hfa, hfb, rfl, rfl⟩ := hrel
    have T' : Tm wr tb ob kind m t := by rw [hw]; exact h.drewN a
    have HA := hid (And.intro hw (And.intro hp (And.intro hb hg)))
    have HFL := hid (And.intro hfl (And.intro hfa hfb))
    have T1 := hid T'
    have c2 : wr.cell? ⟨tb, 2, none⟩ = some (.func (.func 109) #[] #[.pointer (some ⟨ob, 0, none⟩)]) := tree_cmp T'.tree.head
    have H := hid h
    cases u with
    | nil =>
      obtain rfl : none = sa := hsa
      clear h t0 hw hp hb hg T'
      cases fl with
      | none =>
        obtain rfl : none = fa := hfa
        obtain rfl : false = fb := hfb
        clear hfl
        go_wp2
        go_ret2
        exact ⟨.inl ⟨by rw [HA.out.2.1, ceil_nil HA.out.2.2.1, HFL.out.1]; rfl, rfl⟩, a, HA.out.1⟩
      | some e0 =>
        obtain ⟨x0, k0, v0⟩ := e0
        obtain rfl : some ⟨x0, 0, none⟩ = fa := hfa
        obtain rfl : true = fb := hfb
        clear hfl
        go_wp2
        go_ret2
        exact ⟨.inr ⟨x0, k0, v0, by rw [HA.out.2.1, plug_ents]; exact mem_plug_a (List.mem_of_head? HFL.out.1), by rw [HA.out.2.1, ceil_nil HA.out.2.2.1, HFL.out.1]; rfl, rfl⟩, a, HA.out.1⟩
    | node x c l k v r =>
      have TI : TreeIn wr tb (cx.plug (.node x c l k v r)).ents.length (cmpV ob) (cx.plug (.node x c l k v r)) := by rw [← hp]; exact T'.tree
      have SR : Srt (ordf kind m) (cx.plug (.node x c l k v r)).toList := by rw [← hp]; exact T'.srt
      have SR := hid SR
      have x0 := node_key TI.node
      have x3 := node_left TI.node
      have x4 := node_right TI.node
      obtain rfl : some ⟨x, 0, none⟩ = sa := hsa
      clear h t0 hw hp hb hg T' TI hfl hfa hfb
      rcases Int.lt_trichotomy (ordf kind m key) (ordf kind m k) with hlt | heq | hgt
      · have C := fun n => comparator_lit T1.out.ord T1.out.ok (cmpI_lt hlt) n
        have C := hid C
        have HL := hid hlt
        clear hlt
        go_wp2_with (fail)
        go_quiet ((go_at_call 109; exact C.out _))
        go_wp2_with (fail)
        go_roundg l.height
        case measure => rw [HA.out.2.2.2]; simp only [T.height]; omega
        case rel => exact ⟨a + nq, .left cx x c k v r, l, by rw [HA.out.1, World.drewN_drewN], HA.out.2.1, HA.out.2.2.1.left SR.out HL.out, rfl, _, rfl, rfl, some (x, k, v), (by simp [Cx.aents] : (Cx.left cx x c k v r).aents.head? = some (x, k, v)), _, _, rfl, rfl, rfl, rfl⟩
      · have C := fun n => comparator_lit T1.out.ord T1.out.ok (cmpI_eq heq) n
        have C := hid C
        have HL := hid heq
        clear heq
        go_wp2_with (fail)
        go_quiet ((go_at_call 109; exact C.out _))
        go_wp2_with (fail)
        go_ret2
        exact ⟨.inr ⟨x, k, v, by rw [HA.out.2.1, plug_ents]; simp [T.ents], by rw [HA.out.2.1]; exact ceil_hit SR.out HL.out.symm, rfl⟩, a + nq, by rw [HA.out.1, World.drewN_drewN]⟩
      · have C := fun n => comparator_lit T1.out.ord T1.out.ok (cmpI_gt hgt) n
        have C := hid C
        have HL := hid hgt
        clear hgt
        go_wp2_with (fail)
        go_quiet ((go_at_call 109; exact C.out _))
        go_wp2_with (fail)
        go_roundg r.height
        case measure => rw [HA.out.2.2.2]; simp only [T.height]; omega
        case rel => exact ⟨a + nq, .right cx x c l k v, r, by rw [HA.out.1, World.drewN_drewN], HA.out.2.1, HA.out.2.2.1.right SR.out HL.out, rfl, _, rfl, rfl, fl, HFL.out.1, _, _, HFL.out.2.1, HFL.out.2.2, rfl, rfl⟩

theorem treeLeft_is {w : World} {tb ob : Nat} {kind m : Int} {t : T} (h : Tm w tb ob kind m t) :
    Calls Try.prog 102 #[.pointer (some ⟨tb, 0, none⟩)] w fun e w' => EndPost t.toList.head? t e ∧ ∃ k, w' = w.drewN k := by
  refine (treeLeft_any h.tree).mono ?_
  rintro e w' ⟨rfl, rfl⟩
  refine ⟨?_, 0, rfl⟩
  have e1 : t.toList.head? = (t.ents.head?).map (·.2) := by unfold T.toList; rw [List.head?_map]
  rw [e1]
  cases hh : t.ents.head? with
  | none => exact .inl ⟨rfl, rfl⟩
  | some e0 => exact .inr ⟨e0.1, e0.2.1, e0.2.2, List.mem_of_head? hh, rfl, rfl⟩
theorem treeRight_is {w : World} {tb ob : Nat} {kind m : Int} {t : T} (h : Tm w tb ob kind m t) :
    Calls Try.prog 103 #[.pointer (some ⟨tb, 0, none⟩)] w fun e w' => EndPost t.toList.getLast? t e ∧ ∃ k, w' = w.drewN k := by
  refine (treeRight_any h.tree).mono ?_
  rintro e w' ⟨rfl, rfl⟩
  refine ⟨?_, 0, rfl⟩
  have e1 : t.toList.getLast? = (t.ents.getLast?).map (·.2) := by unfold T.toList; rw [List.getLast?_map]
  rw [e1]
  cases hh : t.ents.getLast? with
  | none => exact .inl ⟨rfl, rfl⟩
  | some e0 => exact .inr ⟨e0.1, e0.2.1, e0.2.2, List.mem_of_getLast? hh, rfl, rfl⟩

/-- A key, a value, as an interface value; nil if there is none. -/
def pairK : Option (Int × Int) → Value
  | none => .nilIface
  | some e => .iface 3 (.int .i64 e.1)
def pairX : Option (Int × Int) → Value
  | none => .nilIface
  | some e => .iface 3 (.int .i64 e.2)
def pairI : Option (Int × Int) → Value
  | none => .tuple #[.nilIface, .nilIface]
  | some e => .tuple #[.iface 3 (.int .i64 e.1), .iface 3 (.int .i64 e.2)]
def pairV : Option (Int × Int) → Value
  | none => .agg #[.int .i64 0, .int .i64 0, .bool false]
  | some e => .agg #[.int .i64 e.1, .int .i64 e.2, .bool true]

theorem pairOf_any (o : Option (Int × Int)) (w : World) : Calls Try.prog 64 #[pairK o, pairX o] w fun e w' => e = .returned (pairV o) ∧ Keep (fun _ => False) w w' := by
  cases o with
  | none =>
    simp only [pairK, pairX, pairV]
    go_enter Try.func64, Try.ntmps64
    go_wp2_with (fail)
    refine bodyPost_ret (v := .agg #[.int .i64 0, .int .i64 0, .bool false]) (by simp [results, Try.results64, go_sem]) rfl ?_
    exact ⟨rfl, by first | exact (Keep.refl _ _).alloc _ | exact ((((Keep.refl _ _).alloc _).freshSet (Nat.le_refl _) _ _).freshSet (Nat.le_refl _) _ _).freshSet (Nat.le_refl _) _ _⟩
  | some e0 =>
    obtain ⟨k, v⟩ := e0
    simp only [pairK, pairX, pairV]
    go_enter Try.func64, Try.ntmps64
    go_wp2_with (fail)
    go_region_held3 (fun w' => True) (trivial) (fail)
    all_goals
      (try go_wp2_with (fail))
      refine bodyPost_ret (v := .agg #[.int .i64 k, .int .i64 v, .bool true]) (by simp [results, Try.results64, go_sem]) rfl ?_
      exact ⟨rfl, by repeat (first | exact Keep.refl _ _ | apply Keep.drew | apply Keep.alloc | (refine Keep.freshSet ?_ (Nat.le_refl _) _ _))⟩

theorem mapMin_any {w : World} {B mb ob : Nat} {kind m : Int} {L : List (Int × Int)} (h : Mp w B mb ob kind m L) :
    Calls Try.prog 65 #[.pointer (some ⟨mb, 0, none⟩)] w fun e w' => e = .returned (pairI (L.head?)) ∧ ∃ k, w' = w.drewN k := by
  obtain ⟨tb, t, hmb, htm, rfl, -⟩ := h
  have m0 := map_tree hmb
  have C := hid (treeLeft_is htm)
  have H := hid htm
  clear hmb htm
  go_enter Try.func65, Try.ntmps65
  go_wp2_with (fail)
  refine C.out.mono ?_
  rintro e w1 ⟨hf, a, rfl⟩
  rcases hf with ⟨hn, rfl⟩ | ⟨x, k, v, hm, hs, rfl⟩
  · have HN := hid hn
    clear hn
    go_wp2_with (fail)
    go_ret2
    exact ⟨by rw [HN.out]; rfl, a, rfl⟩
  · obtain ⟨p, hp⟩ := List.getElem?_of_mem hm
    obtain ⟨-, c, l, r, q, hx⟩ := tree_ent (H.out.drewN a).tree hp
    have x0 := node_key hx
    have x1 := node_val hx
    have pl := node_plain hx
    have HN := hid hs
    have HO := hid (And.intro x0 x1)
    clear hs hm hp hx
    go_wp2_with (fail)
    go_region_held3 (fun w' => w'.cell? ⟨x, 0, none⟩ = some (.iface 3 (.int .i64 k)) ∧ w'.cell? ⟨x, 1, none⟩ = some (.iface 3 (.int .i64 v))) (exact HO.out) (fail)
    all_goals
      (try go_wp2_with (fail))
      go_ret2
      exact ⟨by rw [HN.out]; rfl, drewN_is w a _ (by first | exact ⟨0, rfl⟩ | exact ⟨1, rfl⟩ | exact ⟨2, rfl⟩ | exact ⟨3, rfl⟩ | exact ⟨4, rfl⟩ | exact ⟨5, rfl⟩ | exact ⟨6, rfl⟩ | exact ⟨7, rfl⟩ | exact ⟨8, rfl⟩ | exact ⟨9, rfl⟩ | exact ⟨10, rfl⟩ | fail)⟩

theorem mapMax_any {w : World} {B mb ob : Nat} {kind m : Int} {L : List (Int × Int)} (h : Mp w B mb ob kind m L) :
    Calls Try.prog 66 #[.pointer (some ⟨mb, 0, none⟩)] w fun e w' => e = .returned (pairI (L.getLast?)) ∧ ∃ k, w' = w.drewN k := by
  obtain ⟨tb, t, hmb, htm, rfl, -⟩ := h
  have m0 := map_tree hmb
  have C := hid (treeRight_is htm)
  have H := hid htm
  clear hmb htm
  go_enter Try.func66, Try.ntmps66
  go_wp2_with (fail)
  refine C.out.mono ?_
  rintro e w1 ⟨hf, a, rfl⟩
  rcases hf with ⟨hn, rfl⟩ | ⟨x, k, v, hm, hs, rfl⟩
  · have HN := hid hn
    clear hn
    go_wp2_with (fail)
    go_ret2
    exact ⟨by rw [HN.out]; rfl, a, rfl⟩
  · obtain ⟨p, hp⟩ := List.getElem?_of_mem hm
    obtain ⟨-, c, l, r, q, hx⟩ := tree_ent (H.out.drewN a).tree hp
    have x0 := node_key hx
    have x1 := node_val hx
    have pl := node_plain hx
    have HN := hid hs
    have HO := hid (And.intro x0 x1)
    clear hs hm hp hx
    go_wp2_with (fail)
    go_region_held3 (fun w' => w'.cell? ⟨x, 0, none⟩ = some (.iface 3 (.int .i64 k)) ∧ w'.cell? ⟨x, 1, none⟩ = some (.iface 3 (.int .i64 v))) (exact HO.out) (fail)
    all_goals
      (try go_wp2_with (fail))
      go_ret2
      exact ⟨by rw [HN.out]; rfl, drewN_is w a _ (by first | exact ⟨0, rfl⟩ | exact ⟨1, rfl⟩ | exact ⟨2, rfl⟩ | exact ⟨3, rfl⟩ | exact ⟨4, rfl⟩ | exact ⟨5, rfl⟩ | exact ⟨6, rfl⟩ | exact ⟨7, rfl⟩ | exact ⟨8, rfl⟩ | exact ⟨9, rfl⟩ | exact ⟨10, rfl⟩ | fail)⟩

theorem mapFloor_any {w : World} {B mb ob : Nat} {kind m : Int} {L : List (Int × Int)} (h : Mp w B mb ob kind m L) (key : Int) :
    Calls Try.prog 73 #[.pointer (some ⟨mb, 0, none⟩), .iface 3 (.int .i64 key)] w fun e w' => e = .returned (pairI (floorA (ordf kind m) key L)) ∧ ∃ k, w' = w.drewN k := by
  obtain ⟨tb, t, hmb, htm, rfl, -⟩ := h
  have m0 := map_tree hmb
  have C := hid (treeFloor_any htm key)
  have H := hid htm
  clear hmb htm
  go_enter Try.func73, Try.ntmps73
  go_wp2_with (fail)
  refine C.out.mono ?_
  rintro e w1 ⟨hf, a, rfl⟩
  rcases hf with ⟨hn, rfl⟩ | ⟨x, k, v, hm, hs, rfl⟩
  · have HN := hid hn
    clear hn
    go_wp2_with (fail)
    go_ret2
    exact ⟨by rw [HN.out]; rfl, a, rfl⟩
  · obtain ⟨p, hp⟩ := List.getElem?_of_mem hm
    obtain ⟨-, c, l, r, q, hx⟩ := tree_ent (H.out.drewN a).tree hp
    have x0 := node_key hx
    have x1 := node_val hx
    have pl := node_plain hx
    have HN := hid hs
    have HO := hid (And.intro x0 x1)
    clear hs hm hp hx
    go_wp2_with (fail)
    go_region_held3 (fun w' => w'.cell? ⟨x, 0, none⟩ = some (.iface 3 (.int .i64 k)) ∧ w'.cell? ⟨x, 1, none⟩ = some (.iface 3 (.int .i64 v))) (exact HO.out) (fail)
    all_goals
      (try go_wp2_with (fail))
      go_ret2
      exact ⟨by rw [HN.out]; rfl, drewN_is w a _ (by first | exact ⟨0, rfl⟩ | exact ⟨1, rfl⟩ | exact ⟨2, rfl⟩ | exact ⟨3, rfl⟩ | exact ⟨4, rfl⟩ | exact ⟨5, rfl⟩ | exact ⟨6, rfl⟩ | exact ⟨7, rfl⟩ | exact ⟨8, rfl⟩ | exact ⟨9, rfl⟩ | exact ⟨10, rfl⟩ | fail)⟩

theorem mapCeiling_any {w : World} {B mb ob : Nat} {kind m : Int} {L : List (Int × Int)} (h : Mp w B mb ob kind m L) (key : Int) :
    Calls Try.prog 72 #[.pointer (some ⟨mb, 0, none⟩), .iface 3 (.int .i64 key)] w fun e w' => e = .returned (pairI (ceilA (ordf kind m) key L)) ∧ ∃ k, w' = w.drewN k := by
  obtain ⟨tb, t, hmb, htm, rfl, -⟩ := h
  have m0 := map_tree hmb
  have C := hid (treeCeiling_any htm key)
  have H := hid htm
  clear hmb htm
  go_enter Try.func72, Try.ntmps72
  go_wp2_with (fail)
  refine C.out.mono ?_
  rintro e w1 ⟨hf, a, rfl⟩
  rcases hf with ⟨hn, rfl⟩ | ⟨x, k, v, hm, hs, rfl⟩
  · have HN := hid hn
    clear hn
    go_wp2_with (fail)
    go_ret2
    exact ⟨by rw [HN.out]; rfl, a, rfl⟩
  · obtain ⟨p, hp⟩ := List.getElem?_of_mem hm
    obtain ⟨-, c, l, r, q, hx⟩ := tree_ent (H.out.drewN a).tree hp
    have x0 := node_key hx
    have x1 := node_val hx
    have pl := node_plain hx
    have HN := hid hs
    have HO := hid (And.intro x0 x1)
    clear hs hm hp hx
    go_wp2_with (fail)
    go_region_held3 (fun w' => w'.cell? ⟨x, 0, none⟩ = some (.iface 3 (.int .i64 k)) ∧ w'.cell? ⟨x, 1, none⟩ = some (.iface 3 (.int .i64 v))) (exact HO.out) (fail)
    all_goals
      (try go_wp2_with (fail))
      go_ret2
      exact ⟨by rw [HN.out]; rfl, drewN_is w a _ (by first | exact ⟨0, rfl⟩ | exact ⟨1, rfl⟩ | exact ⟨2, rfl⟩ | exact ⟨3, rfl⟩ | exact ⟨4, rfl⟩ | exact ⟨5, rfl⟩ | exact ⟨6, rfl⟩ | exact ⟨7, rfl⟩ | exact ⟨8, rfl⟩ | exact ⟨9, rfl⟩ | exact ⟨10, rfl⟩ | fail)⟩

/-- What MapMin returns, at every world. -/
theorem MapMin_any {w : World} {B : Nat} {kind m : Int} {v : Value} {acts : List Act3} (hok : OrdOk kind m) (ha : ActsIn w B v acts) (hB : B ≤ w.heap.size) (hlen : acts.length ≤ 100000) :
    Calls Try.prog 38 #[.agg #[.int .i64 kind, .int .i64 m], v] w fun e w' => e = .returned (pairV ((runA (ordf kind m) acts).head?)) ∧ Keep (fun _ => False) w w' := by
  have K0 := hid (show Keep (fun _ => False) w ((w.alloc (.cells #[.int .i64 kind, .int .i64 m] 23)).alloc (.cells #[.int .i64 0, .int .i64 0, .bool false] 53)) from ((Keep.refl _ _).alloc _).alloc _)
  have BT := hid (built_any hok (ha.keep K0.out fun _ _ => id) (Nat.le_trans hB K0.out.size) hlen)
  obtain ⟨L, hL⟩ : ∃ L, L = runA (ordf kind m) acts := ⟨_, rfl⟩
  rw [← hL] at BT ⊢
  obtain ⟨o, ho⟩ : ∃ o, o = L.head? := ⟨_, rfl⟩
  rw [← ho]
  have HO := hid ho
  clear hok ha hlen hL hB ho
  go_enter Try.func38, Try.ntmps38
  go_wp2_with (fail)
  refine BT.out.mono ?_
  rintro e w1 ⟨mb, ob, rfl, hm, hk⟩
  have K1 := hid (show Keep (fun _ => False) ((w.alloc (.cells #[.int .i64 kind, .int .i64 m] 23)).alloc (.cells #[.int .i64 0, .int .i64 0, .bool false] 53)) w1 from hk.mono fun i hi hs => by omega)
  have HM := hid hm
  clear hm hk
  have MM := hid (mapMin_any HM.out)
  have hblk : w1.heap[w.heap.size + 1]? = some (.cells #[.int .i64 0, .int .i64 0, .bool false] 53 (0, 0)) := K1.out.get (blk_second' w _ _ _ _) id
  rw [← HO.out] at MM
  have HB := hid hblk
  clear hblk
  go_wp2_with (fail)
  refine MM.out.mono ?_
  rintro e w2 ⟨rfl, a, rfl⟩
  have PO := hid (pairOf_any o (w1.drewN a))
  cases o with
  | none =>
    simp only [pairI, pairK, pairX] at PO ⊢
    go_wp2_with (fail)
    refine PO.out.mono ?_
    rintro e w3 ⟨rfl, hk3⟩
    have K3 := hid (show Keep (fun _ => False) w1 w3 from hk3.undrewN)
    have hb3 := K3.out.get HB.out id
    have z0 : w3.cell? ⟨w.heap.size + 1, 0, none⟩ = some (.int .i64 0) := by simp [World.cell?, hb3]
    have z1 : w3.cell? ⟨w.heap.size + 1, 1, none⟩ = some (.int .i64 0) := by simp [World.cell?, hb3]
    have z2 : w3.cell? ⟨w.heap.size + 1, 2, none⟩ = some (.bool false) := by simp [World.cell?, hb3]
    have pl : Plain w3 (w.heap.size + 1) := ⟨_, _, hb3⟩
    clear hk3 hb3
    simp only [pairV]
    go_wp2_with (fail)
    refine bodyPost_ret (v := .agg #[.int .i64 0, .int .i64 0, .bool false]) (by simp [results, Try.results38, go_sem, z0, z1, z2]) rfl ?_
    exact ⟨rfl, (((K0.out.trans (K1.out.trans K3.out)).freshSet (by omega) _ _).freshSet (by omega) _ _).freshSet (by omega) _ _⟩
  | some e0 =>
    obtain ⟨k, v⟩ := e0
    simp only [pairI, pairK, pairX] at PO ⊢
    go_wp2_with (fail)
    refine PO.out.mono ?_
    rintro e w3 ⟨rfl, hk3⟩
    have K3 := hid (show Keep (fun _ => False) w1 w3 from hk3.undrewN)
    have hb3 := K3.out.get HB.out id
    have z0 : w3.cell? ⟨w.heap.size + 1, 0, none⟩ = some (.int .i64 0) := by simp [World.cell?, hb3]
    have z1 : w3.cell? ⟨w.heap.size + 1, 1, none⟩ = some (.int .i64 0) := by simp [World.cell?, hb3]
    have z2 : w3.cell? ⟨w.heap.size + 1, 2, none⟩ = some (.bool false) := by simp [World.cell?, hb3]
    have pl : Plain w3 (w.heap.size + 1) := ⟨_, _, hb3⟩
    clear hk3 hb3
    simp only [pairV]
    go_wp2_with (fail)
    refine bodyPost_ret (v := .agg #[.int .i64 k, .int .i64 v, .bool true]) (by simp [results, Try.results38, go_sem, z0, z1, z2]) rfl ?_
    exact ⟨rfl, (((K0.out.trans (K1.out.trans K3.out)).freshSet (by omega) _ _).freshSet (by omega) _ _).freshSet (by omega) _ _⟩

/-- What MapMax returns, at every world. -/
theorem MapMax_any {w : World} {B : Nat} {kind m : Int} {v : Value} {acts : List Act3} (hok : OrdOk kind m) (ha : ActsIn w B v acts) (hB : B ≤ w.heap.size) (hlen : acts.length ≤ 100000) :
    Calls Try.prog 41 #[.agg #[.int .i64 kind, .int .i64 m], v] w fun e w' => e = .returned (pairV ((runA (ordf kind m) acts).getLast?)) ∧ Keep (fun _ => False) w w' := by
  have K0 := hid (show Keep (fun _ => False) w ((w.alloc (.cells #[.int .i64 kind, .int .i64 m] 23)).alloc (.cells #[.int .i64 0, .int .i64 0, .bool false] 53)) from ((Keep.refl _ _).alloc _).alloc _)
  have BT := hid (built_any hok (ha.keep K0.out fun _ _ => id) (Nat.le_trans hB K0.out.size) hlen)
  obtain ⟨L, hL⟩ : ∃ L, L = runA (ordf kind m) acts := ⟨_, rfl⟩
  rw [← hL] at BT ⊢
  obtain ⟨o, ho⟩ : ∃ o, o = L.getLast? := ⟨_, rfl⟩
  rw [← ho]
  have HO := hid ho
  clear hok ha hlen hL hB ho
  go_enter Try.func41, Try.ntmps41
  go_wp2_with (fail)
  refine BT.out.mono ?_
  rintro e w1 ⟨mb, ob, rfl, hm, hk⟩
  have K1 := hid (show Keep (fun _ => False) ((w.alloc (.cells #[.int .i64 kind, .int .i64 m] 23)).alloc (.cells #[.int .i64 0, .int .i64 0, .bool false] 53)) w1 from hk.mono fun i hi hs => by omega)
  have HM := hid hm
  clear hm hk
  have MM := hid (mapMax_any HM.out)
  have hblk : w1.heap[w.heap.size + 1]? = some (.cells #[.int .i64 0, .int .i64 0, .bool false] 53 (0, 0)) := K1.out.get (blk_second' w _ _ _ _) id
  rw [← HO.out] at MM
  have HB := hid hblk
  clear hblk
  go_wp2_with (fail)
  refine MM.out.mono ?_
  rintro e w2 ⟨rfl, a, rfl⟩
  have PO := hid (pairOf_any o (w1.drewN a))
  cases o with
  | none =>
    simp only [pairI, pairK, pairX] at PO ⊢
    go_wp2_with (fail)
    refine PO.out.mono ?_
    rintro e w3 ⟨rfl, hk3⟩
    have K3 := hid (show Keep (fun _ => False) w1 w3 from hk3.undrewN)
    have hb3 := K3.out.get HB.out id
    have z0 : w3.cell? ⟨w.heap.size + 1, 0, none⟩ = some (.int .i64 0) := by simp [World.cell?, hb3]
    have z1 : w3.cell? ⟨w.heap.size + 1, 1, none⟩ = some (.int .i64 0) := by simp [World.cell?, hb3]
    have z2 : w3.cell? ⟨w.heap.size + 1, 2, none⟩ = some (.bool false) := by simp [World.cell?, hb3]
    have pl : Plain w3 (w.heap.size + 1) := ⟨_, _, hb3⟩
    clear hk3 hb3
    simp only [pairV]
    go_wp2_with (fail)
    refine bodyPost_ret (v := .agg #[.int .i64 0, .int .i64 0, .bool false]) (by simp [results, Try.results41, go_sem, z0, z1, z2]) rfl ?_
    exact ⟨rfl, (((K0.out.trans (K1.out.trans K3.out)).freshSet (by omega) _ _).freshSet (by omega) _ _).freshSet (by omega) _ _⟩
  | some e0 =>
    obtain ⟨k, v⟩ := e0
    simp only [pairI, pairK, pairX] at PO ⊢
    go_wp2_with (fail)
    refine PO.out.mono ?_
    rintro e w3 ⟨rfl, hk3⟩
    have K3 := hid (show Keep (fun _ => False) w1 w3 from hk3.undrewN)
    have hb3 := K3.out.get HB.out id
    have z0 : w3.cell? ⟨w.heap.size + 1, 0, none⟩ = some (.int .i64 0) := by simp [World.cell?, hb3]
    have z1 : w3.cell? ⟨w.heap.size + 1, 1, none⟩ = some (.int .i64 0) := by simp [World.cell?, hb3]
    have z2 : w3.cell? ⟨w.heap.size + 1, 2, none⟩ = some (.bool false) := by simp [World.cell?, hb3]
    have pl : Plain w3 (w.heap.size + 1) := ⟨_, _, hb3⟩
    clear hk3 hb3
    simp only [pairV]
    go_wp2_with (fail)
    refine bodyPost_ret (v := .agg #[.int .i64 k, .int .i64 v, .bool true]) (by simp [results, Try.results41, go_sem, z0, z1, z2]) rfl ?_
    exact ⟨rfl, (((K0.out.trans (K1.out.trans K3.out)).freshSet (by omega) _ _).freshSet (by omega) _ _).freshSet (by omega) _ _⟩

/-- What MapFloor returns, at every world. -/
theorem MapFloor_any {w : World} {B : Nat} {kind m : Int} {v : Value} {acts : List Act3} (key : Int) (hok : OrdOk kind m) (ha : ActsIn w B v acts) (hB : B ≤ w.heap.size) (hlen : acts.length ≤ 100000) :
    Calls Try.prog 49 #[.agg #[.int .i64 kind, .int .i64 m], v, .int .i64 key] w fun e w' => e = .returned (pairV (floorA (ordf kind m) key (runA (ordf kind m) acts))) ∧ Keep (fun _ => False) w w' := by
  have K0 := hid (show Keep (fun _ => False) w ((w.alloc (.cells #[.int .i64 kind, .int .i64 m] 23)).alloc (.cells #[.int .i64 0, .int .i64 0, .bool false] 53)) from ((Keep.refl _ _).alloc _).alloc _)
  have BT := hid (built_any hok (ha.keep K0.out fun _ _ => id) (Nat.le_trans hB K0.out.size) hlen)
  obtain ⟨L, hL⟩ : ∃ L, L = runA (ordf kind m) acts := ⟨_, rfl⟩
  rw [← hL] at BT ⊢
  obtain ⟨o, ho⟩ : ∃ o, o = floorA (ordf kind m) key L := ⟨_, rfl⟩
  rw [← ho]
  have HO := hid ho
  clear hok ha hlen hL hB ho
  go_enter Try.func49, Try.ntmps49
  go_wp2_with (fail)
  refine BT.out.mono ?_
  rintro e w1 ⟨mb, ob, rfl, hm, hk⟩
  have K1 := hid (show Keep (fun _ => False) ((w.alloc (.cells #[.int .i64 kind, .int .i64 m] 23)).alloc (.cells #[.int .i64 0, .int .i64 0, .bool false] 53)) w1 from hk.mono fun i hi hs => by omega)
  have HM := hid hm
  clear hm hk
  have MM := hid (mapFloor_any HM.out key)
  have hblk : w1.heap[w.heap.size + 1]? = some (.cells #[.int .i64 0, .int .i64 0, .bool false] 53 (0, 0)) := K1.out.get (blk_second' w _ _ _ _) id
  rw [← HO.out] at MM
  have HB := hid hblk
  clear hblk
  go_wp2_with (fail)
  refine MM.out.mono ?_
  rintro e w2 ⟨rfl, a, rfl⟩
  have PO := hid (pairOf_any o (w1.drewN a))
  cases o with
  | none =>
    simp only [pairI, pairK, pairX] at PO ⊢
    go_wp2_with (fail)
    refine PO.out.mono ?_
    rintro e w3 ⟨rfl, hk3⟩
    have K3 := hid (show Keep (fun _ => False) w1 w3 from hk3.undrewN)
    have hb3 := K3.out.get HB.out id
    have z0 : w3.cell? ⟨w.heap.size + 1, 0, none⟩ = some (.int .i64 0) := by simp [World.cell?, hb3]
    have z1 : w3.cell? ⟨w.heap.size + 1, 1, none⟩ = some (.int .i64 0) := by simp [World.cell?, hb3]
    have z2 : w3.cell? ⟨w.heap.size + 1, 2, none⟩ = some (.bool false) := by simp [World.cell?, hb3]
    have pl : Plain w3 (w.heap.size + 1) := ⟨_, _, hb3⟩
    clear hk3 hb3
    simp only [pairV]
    go_wp2_with (fail)
    refine bodyPost_ret (v := .agg #[.int .i64 0, .int .i64 0, .bool false]) (by simp [results, Try.results49, go_sem, z0, z1, z2]) rfl ?_
    exact ⟨rfl, (((K0.out.trans (K1.out.trans K3.out)).freshSet (by omega) _ _).freshSet (by omega) _ _).freshSet (by omega) _ _⟩
  | some e0 =>
    obtain ⟨k, v⟩ := e0
    simp only [pairI, pairK, pairX] at PO ⊢
    go_wp2_with (fail)
    refine PO.out.mono ?_
    rintro e w3 ⟨rfl, hk3⟩
    have K3 := hid (show Keep (fun _ => False) w1 w3 from hk3.undrewN)
    have hb3 := K3.out.get HB.out id
    have z0 : w3.cell? ⟨w.heap.size + 1, 0, none⟩ = some (.int .i64 0) := by simp [World.cell?, hb3]
    have z1 : w3.cell? ⟨w.heap.size + 1, 1, none⟩ = some (.int .i64 0) := by simp [World.cell?, hb3]
    have z2 : w3.cell? ⟨w.heap.size + 1, 2, none⟩ = some (.bool false) := by simp [World.cell?, hb3]
    have pl : Plain w3 (w.heap.size + 1) := ⟨_, _, hb3⟩
    clear hk3 hb3
    simp only [pairV]
    go_wp2_with (fail)
    refine bodyPost_ret (v := .agg #[.int .i64 k, .int .i64 v, .bool true]) (by simp [results, Try.results49, go_sem, z0, z1, z2]) rfl ?_
    exact ⟨rfl, (((K0.out.trans (K1.out.trans K3.out)).freshSet (by omega) _ _).freshSet (by omega) _ _).freshSet (by omega) _ _⟩

/-- What MapCeiling returns, at every world. -/
theorem MapCeiling_any {w : World} {B : Nat} {kind m : Int} {v : Value} {acts : List Act3} (key : Int) (hok : OrdOk kind m) (ha : ActsIn w B v acts) (hB : B ≤ w.heap.size) (hlen : acts.length ≤ 100000) :
    Calls Try.prog 47 #[.agg #[.int .i64 kind, .int .i64 m], v, .int .i64 key] w fun e w' => e = .returned (pairV (ceilA (ordf kind m) key (runA (ordf kind m) acts))) ∧ Keep (fun _ => False) w w' := by
  have K0 := hid (show Keep (fun _ => False) w ((w.alloc (.cells #[.int .i64 kind, .int .i64 m] 23)).alloc (.cells #[.int .i64 0, .int .i64 0, .bool false] 53)) from ((Keep.refl _ _).alloc _).alloc _)
  have BT := hid (built_any hok (ha.keep K0.out fun _ _ => id) (Nat.le_trans hB K0.out.size) hlen)
  obtain ⟨L, hL⟩ : ∃ L, L = runA (ordf kind m) acts := ⟨_, rfl⟩
  rw [← hL] at BT ⊢
  obtain ⟨o, ho⟩ : ∃ o, o = ceilA (ordf kind m) key L := ⟨_, rfl⟩
  rw [← ho]
  have HO := hid ho
  clear hok ha hlen hL hB ho
  go_enter Try.func47, Try.ntmps47
  go_wp2_with (fail)
  refine BT.out.mono ?_
  rintro e w1 ⟨mb, ob, rfl, hm, hk⟩
  have K1 := hid (show Keep (fun _ => False) ((w.alloc (.cells #[.int .i64 kind, .int .i64 m] 23)).alloc (.cells #[.int .i64 0, .int .i64 0, .bool false] 53)) w1 from hk.mono fun i hi hs => by omega)
  have HM := hid hm
  clear hm hk
  have MM := hid (mapCeiling_any HM.out key)
  have hblk : w1.heap[w.heap.size + 1]? = some (.cells #[.int .i64 0, .int .i64 0, .bool false] 53 (0, 0)) := K1.out.get (blk_second' w _ _ _ _) id
  rw [← HO.out] at MM
  have HB := hid hblk
  clear hblk
  go_wp2_with (fail)
  refine MM.out.mono ?_
  rintro e w2 ⟨rfl, a, rfl⟩
  have PO := hid (pairOf_any o (w1.drewN a))
  cases o with
  | none =>
    simp only [pairI, pairK, pairX] at PO ⊢
    go_wp2_with (fail)
    refine PO.out.mono ?_
    rintro e w3 ⟨rfl, hk3⟩
    have K3 := hid (show Keep (fun _ => False) w1 w3 from hk3.undrewN)
    have hb3 := K3.out.get HB.out id
    have z0 : w3.cell? ⟨w.heap.size + 1, 0, none⟩ = some (.int .i64 0) := by simp [World.cell?, hb3]
    have z1 : w3.cell? ⟨w.heap.size + 1, 1, none⟩ = some (.int .i64 0) := by simp [World.cell?, hb3]
    have z2 : w3.cell? ⟨w.heap.size + 1, 2, none⟩ = some (.bool false) := by simp [World.cell?, hb3]
    have pl : Plain w3 (w.heap.size + 1) := ⟨_, _, hb3⟩
    clear hk3 hb3
    simp only [pairV]
    go_wp2_with (fail)
    refine bodyPost_ret (v := .agg #[.int .i64 0, .int .i64 0, .bool false]) (by simp [results, Try.results47, go_sem, z0, z1, z2]) rfl ?_
    exact ⟨rfl, (((K0.out.trans (K1.out.trans K3.out)).freshSet (by omega) _ _).freshSet (by omega) _ _).freshSet (by omega) _ _⟩
  | some e0 =>
    obtain ⟨k, v⟩ := e0
    simp only [pairI, pairK, pairX] at PO ⊢
    go_wp2_with (fail)
    refine PO.out.mono ?_
    rintro e w3 ⟨rfl, hk3⟩
    have K3 := hid (show Keep (fun _ => False) w1 w3 from hk3.undrewN)
    have hb3 := K3.out.get HB.out id
    have z0 : w3.cell? ⟨w.heap.size + 1, 0, none⟩ = some (.int .i64 0) := by simp [World.cell?, hb3]
    have z1 : w3.cell? ⟨w.heap.size + 1, 1, none⟩ = some (.int .i64 0) := by simp [World.cell?, hb3]
    have z2 : w3.cell? ⟨w.heap.size + 1, 2, none⟩ = some (.bool false) := by simp [World.cell?, hb3]
    have pl : Plain w3 (w.heap.size + 1) := ⟨_, _, hb3⟩
    clear hk3 hb3
    simp only [pairV]
    go_wp2_with (fail)
    refine bodyPost_ret (v := .agg #[.int .i64 k, .int .i64 v, .bool true]) (by simp [results, Try.results47, go_sem, z0, z1, z2]) rfl ?_
    exact ⟨rfl, (((K0.out.trans (K1.out.trans K3.out)).freshSet (by omega) _ _).freshSet (by omega) _ _).freshSet (by omega) _ _⟩
end Go.Proofs.Ytdamfannmlncnaa
