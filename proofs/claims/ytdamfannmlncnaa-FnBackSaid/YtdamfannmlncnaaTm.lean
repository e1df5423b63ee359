/- A tree with its order, as the package keeps it: what it is in memory; the search for a key; Get. -/
import Derived.Test.YtdamfannmlncnaaOrd
import Derived.Test.YtdamfannmlncnaaDelt
import Derived.Laws.EntriesVeiled
namespace Go.Proofs.Ytdamfannmlncnaa
open Go.RowKit
set_option linter.unusedVariables false
set_option linter.unusedSimpArgs false

/-- A tree that the package keeps: block tb is its head, block ob the order that its comparator holds. -/
structure Tm (w : World) (tb ob : Nat) (kind m : Int) (t : T) : Prop where
  tree : TreeIn w tb t.ents.length (cmpV ob) t
  ord : w.heap[ob]? = some (orderObj kind m)
  ok : OrdOk kind m
  srt : Srt (ordf kind m) t.toList
  rb : t.RBT
  ne : ob ≠ tb
  nm : ob ∉ t.ids

theorem Tm.keep {S : Nat → Prop} {w w' : World} {tb ob : Nat} {kind m : Int} {t : T} (h : Tm w tb ob kind m t) (hk : Keep S w w') (h1 : ¬ S tb) (h2 : ∀ i ∈ t.ids, ¬ S i) (h3 : ¬ S ob) : Tm w' tb ob kind m t :=
  ⟨h.tree.keep hk h1 h2, hk.get h.ord h3, h.ok, h.srt, h.rb, h.ne, h.nm⟩
theorem Tm.drewN {w : World} {tb ob : Nat} {kind m : Int} {t : T} (h : Tm w tb ob kind m t) (k : Nat) : Tm (w.drewN k) tb ob kind m t :=
  h.keep (S := fun _ => False) ((Keep.refl _ _).drewN k) id (fun _ _ => id) id

/-! ### Where a search stands -/
def Cx.bl (cx : Cx) : List (Int × Int) := cx.bents.map (·.2)
def Cx.al (cx : Cx) : List (Int × Int) := cx.aents.map (·.2)
theorem plug_toList (cx : Cx) (t : T) : (cx.plug t).toList = cx.bl ++ t.toList ++ cx.al := by
  simp [T.toList, plug_ents, Cx.bl, Cx.al]
theorem toList_node (x c l k v r) : (T.node x c l k v r).toList = l.toList ++ (k, v) :: r.toList := by simp [T.toList, T.ents]
theorem toList_nil : T.nil.toList = [] := rfl
theorem bl_left (up x c k v r) : (Cx.left up x c k v r).bl = up.bl := rfl
theorem al_left (up x c k v r) : (Cx.left up x c k v r).al = (k, v) :: r.toList ++ up.al := by simp [Cx.al, Cx.aents, T.toList]
theorem bl_right (up x c l k v) : (Cx.right up x c l k v).bl = up.bl ++ (l.toList ++ [(k, v)]) := by simp [Cx.bl, Cx.bents, T.toList]
theorem al_right (up x c l k v) : (Cx.right up x c l k v).al = up.al := rfl

/-- All that lies ahead of the hole is less than the key, all behind it greater. -/
structure Between (f : Int → Int) (cx : Cx) (key : Int) : Prop where
  lo : ∀ e ∈ cx.bl, f e.1 < f key
  hi : ∀ e ∈ cx.al, f key < f e.1
theorem Between.top (f : Int → Int) (key : Int) : Between f .top key := ⟨fun e h => by simp [Cx.bl, Cx.bents] at h, fun e h => by simp [Cx.al, Cx.aents] at h⟩
theorem Between.left {f : Int → Int} {cx : Cx} {key : Int} (h : Between f cx key) {x c l k v r} (hs : Srt f (cx.plug (.node x c l k v r)).toList) (hlt : f key < f k) : Between f (.left cx x c k v r) key := by
  refine ⟨h.lo, fun e he => ?_⟩
  rw [plug_toList, toList_node] at hs
  simp only [Srt, List.pairwise_append, List.pairwise_cons] at hs
  rw [al_left] at he
  simp only [List.cons_append, List.mem_cons, List.mem_append] at he
  rcases he with rfl | he | he
  · exact hlt
  · have := hs.1.2.1.2.1.1 e he; omega
  · exact h.hi e he
theorem Between.right {f : Int → Int} {cx : Cx} {key : Int} (h : Between f cx key) {x c l k v r} (hs : Srt f (cx.plug (.node x c l k v r)).toList) (hlt : f k < f key) : Between f (.right cx x c l k v) key := by
  refine ⟨fun e he => ?_, h.hi⟩
  rw [plug_toList, toList_node] at hs
  simp only [Srt, List.pairwise_append, List.pairwise_cons] at hs
  rw [bl_right] at he
  simp only [List.mem_append, List.mem_cons, List.not_mem_nil, or_false] at he
  rcases he with he | he | rfl
  · exact h.lo e he
  · have := hs.1.2.1.2.2 e he (k, v) (by simp); simp only at this; omega
  · exact hlt
theorem Between.look_nil {f : Int → Int} {cx : Cx} {key : Int} (h : Between f cx key) : look f key (cx.plug .nil).toList = none := by
  rw [plug_toList, toList_nil, List.append_nil, look_app h.lo, look_gt h.hi]
theorem srt_left_lt {f : Int → Int} {cx : Cx} {x c l k v r} (hs : Srt f (cx.plug (.node x c l k v r)).toList) : ∀ e ∈ cx.bl ++ l.toList, f e.1 < f k := by
  rw [plug_toList, toList_node] at hs
  simp only [Srt, List.pairwise_append, List.pairwise_cons] at hs
  intro e he
  rcases List.mem_append.1 he with he | he
  · exact hs.1.2.2 e he (k, v) (by simp)
  · exact hs.1.2.1.2.2 e he (k, v) (by simp)
theorem look_hit_plug {f : Int → Int} {cx : Cx} {key : Int} {x c l k v r} (hs : Srt f (cx.plug (.node x c l k v r)).toList) (he : f k = f key) : look f key (cx.plug (.node x c l k v r)).toList = some (k, v) := by
  have h1 := srt_left_lt hs
  rw [plug_toList, toList_node]
  have e : cx.bl ++ (l.toList ++ (k, v) :: r.toList) ++ cx.al = (cx.bl ++ l.toList) ++ ((k, v) :: (r.toList ++ cx.al)) := by simp
  rw [e, look_app (fun e hx => by rw [← he]; exact h1 e hx), look_hit he]
theorem put_hit_plug {f : Int → Int} {cx : Cx} {key val : Int} {x c l k v r} (hs : Srt f (cx.plug (.node x c l k v r)).toList) (he : f k = f key) :
    put f key val (cx.plug (.node x c l k v r)).toList = (cx.plug (.node x c l key val r)).toList := by
  have h1 := srt_left_lt hs
  rw [plug_toList, toList_node, plug_toList, toList_node]
  have e : ∀ p : Int × Int, cx.bl ++ (l.toList ++ p :: r.toList) ++ cx.al = (cx.bl ++ l.toList) ++ (p :: (r.toList ++ cx.al)) := by simp
  rw [e, e, put_app (fun e hx => by rw [← he]; exact h1 e hx), put_hit he]
theorem put_nil_plug {f : Int → Int} {cx : Cx} {key val : Int} (h : Between f cx key) (x c) : put f key val (cx.plug .nil).toList = (cx.plug (.node x c .nil key val .nil)).toList := by
  rw [plug_toList, toList_nil, List.append_nil, put_app h.lo, put_gt h.hi, plug_toList, toList_node, toList_nil]
  simp
theorem del_hit_plug {f : Int → Int} {cx : Cx} {key : Int} {x c l k v r} (hs : Srt f (cx.plug (.node x c l k v r)).toList) (he : f k = f key) :
    del f key (cx.plug (.node x c l k v r)).toList = cx.bl ++ l.toList ++ r.toList ++ cx.al := by
  have h1 := srt_left_lt hs
  rw [plug_toList, toList_node]
  have e : cx.bl ++ (l.toList ++ (k, v) :: r.toList) ++ cx.al = (cx.bl ++ l.toList) ++ ((k, v) :: (r.toList ++ cx.al)) := by simp
  rw [e, del_app (fun e hx => by rw [← he]; exact h1 e hx), del_hit he]
  simp
theorem del_miss {f : Int → Int} {key : Int} {l : List (Int × Int)} (h : look f key l = none) : del f key l = l := by
  induction l with
  | nil => rfl
  | cons e l ih =>
    unfold look at h
    unfold del
    split at h
    · rename_i h1; rw [if_pos h1, ih h]
    · split at h
      · cases h
      · rename_i h1 h2; rw [if_neg h1, if_neg h2]

theorem comparator_lit {w : World} {ob : Nat} {kind m : Int} (h : w.heap[ob]? = some (orderObj kind m)) (hok : OrdOk kind m) {a b c : Int} (hc : cmpI (ordf kind m a) (ordf kind m b) = c) (n : Nat) :
    Calls Try.prog 109 #[.iface 3 (.int .i64 a), .iface 3 (.int .i64 b), .pointer (some ⟨ob, 0, none⟩)] (w.drewN n) fun e w' => e = .returned (.int .i64 c) ∧ ∃ k, w' = w.drewN k :=
  (comparator_any (w := w.drewN n) h hok a b).mono fun e w' ⟨he, k, hw⟩ => ⟨by rw [he, hc], n + k, by rw [hw, World.drewN_drewN]⟩

/-- What a search comes to. -/
def LookPost (f : Int → Int) (t : T) (key : Int) (e : Ending) : Prop :=
  (look f key t.toList = none ∧ e = .returned (.pointer none)) ∨
  ∃ cx x c l k v r, t = Cx.plug cx (.node x c l k v r) ∧ f k = f key ∧ e = .returned (.pointer (some ⟨x, 0, none⟩))

set_option maxHeartbeats 1600000 in
theorem lookup_any {w : World} {tb ob : Nat} {kind m : Int} {t : T} (h : Tm w tb ob kind m t) (key : Int) :
    Calls Try.prog 113 #[.pointer (some ⟨tb, 0, none⟩), .iface 3 (.int .i64 key)] w fun e w' => LookPost (ordf kind m) t key e ∧ ∃ k, w' = w.drewN k := by
  have t0 := tree_root h.tree.head
  go_enter Try.func113, Try.ntmps113
  go_wp2
  go_loopg [5] t.height (fun g s wr => ∃ (a : Nat) (cx : Cx) (u : T), wr = w.drewN a ∧ t = cx.plug u ∧ Between (ordf kind m) cx key ∧ g = u.height ∧ ∃ sa, ad u.ptr = sa ∧ s = .pointer sa)
  case atStart => exact ⟨0, .top, t, rfl, rfl, Between.top _ _, rfl, _, rfl, rfl⟩
  case round =>
    obtain ⟨a, cx, u, hw, hp, hb, hg, sa, hsa, rfl⟩ := hrel
    have T' : Tm wr tb ob kind m t := by rw [hw]; exact h.drewN a
    have HA := hid (And.intro hw (And.intro hp (And.intro hb hg)))
    have T1 := hid T'
    have c2 : wr.cell? ⟨tb, 2, none⟩ = some (.func (.func 109) #[] #[.pointer (some ⟨ob, 0, none⟩)]) := tree_cmp T'.tree.head
    have H := hid h
    cases u with
    | nil =>
      obtain rfl : none = sa := hsa
      clear h t0 hw hp hb hg T'
      go_wp2
      go_ret
      exact ⟨.inl ⟨by rw [HA.out.2.1]; exact HA.out.2.2.1.look_nil, rfl⟩, a, HA.out.1⟩
    | node x c l k v r =>
      have TI : TreeIn wr tb (cx.plug (.node x c l k v r)).ents.length (cmpV ob) (cx.plug (.node x c l k v r)) := by rw [← hp]; exact T'.tree
      have SR : Srt (ordf kind m) (cx.plug (.node x c l k v r)).toList := by rw [← hp]; exact T'.srt
      have SR := hid SR
      have x0 := node_key TI.node
      have x3 := node_left TI.node
      have x4 := node_right TI.node
      obtain rfl : some ⟨x, 0, none⟩ = sa := hsa
      clear h t0 hw hp hb hg T' TI
      rcases Int.lt_trichotomy (ordf kind m key) (ordf kind m k) with hlt | heq | hgt
      · have C := fun n => comparator_lit T1.out.ord T1.out.ok (cmpI_lt hlt) n
        have C := hid C
        have HL := hid hlt
        clear hlt
        go_wp2_with (fail)
        go_quiet ((go_at_call 109; exact C.out _))
        go_wp2_with (fail)
        go_roundg l.height
        case measure => rw [HA.out.2.2.2]; simp only [T.height]; omega
        case rel => exact ⟨a + nq, .left cx x c k v r, l, by rw [HA.out.1, World.drewN_drewN], HA.out.2.1, HA.out.2.2.1.left SR.out HL.out, rfl, _, rfl, rfl⟩
      · have C := fun n => comparator_lit T1.out.ord T1.out.ok (cmpI_eq heq) n
        have C := hid C
        have HL := hid heq
        clear heq
        go_wp2_with (fail)
        go_quiet ((go_at_call 109; exact C.out _))
        go_wp2_with (fail)
        go_ret
        exact ⟨.inr ⟨cx, x, c, l, k, v, r, HA.out.2.1, HL.out.symm, rfl⟩, a + nq, by rw [HA.out.1, World.drewN_drewN]⟩
      · have C := fun n => comparator_lit T1.out.ord T1.out.ok (cmpI_gt hgt) n
        have C := hid C
        have HL := hid hgt
        clear hgt
        go_wp2_with (fail)
        go_quiet ((go_at_call 109; exact C.out _))
        go_wp2_with (fail)
        go_roundg r.height
        case measure => rw [HA.out.2.2.2]; simp only [T.height]; omega
        case rel => exact ⟨a + nq, .right cx x c l k v, r, by rw [HA.out.1, World.drewN_drewN], HA.out.2.1, HA.out.2.2.1.right SR.out HL.out, rfl, _, rfl, rfl⟩

/-- What Get returns. -/
def getV : Option (Int × Int) → Value
  | none => .tuple #[.nilIface, .bool false]
  | some e => .tuple #[.iface 3 (.int .i64 e.2), .bool true]
theorem treeGet_any {w : World} {tb ob : Nat} {kind m : Int} {t : T} (h : Tm w tb ob kind m t) (key : Int) :
    Calls Try.prog 84 #[.pointer (some ⟨tb, 0, none⟩), .iface 3 (.int .i64 key)] w fun e w' => e = .returned (getV (look (ordf kind m) key t.toList)) ∧ ∃ k, w' = w.drewN k := by
  have L := hid (lookup_any h key)
  have H := hid h
  clear h
  go_enter Try.func84, Try.ntmps84
  go_wp2_with (fail)
  refine L.out.mono ?_
  rintro e w' ⟨hl, a, rfl⟩
  rcases hl with ⟨hn, rfl⟩ | ⟨cx, x, c, l, k, v, r, hp, he, rfl⟩
  · have HN := hid hn
    clear hn
    go_wp2_with (fail)
    go_ret2
    exact ⟨by rw [HN.out]; rfl, a, rfl⟩
  · subst hp
    have hl := look_hit_plug H.out.srt he
    have v1 := node_val (H.out.drewN a).tree.node
    have HL := hid hl
    clear hl he
    go_wp2_with (fail)
    go_ret2
    exact ⟨by rw [HL.out]; rfl, a, rfl⟩

/-! ### A new tree; a tree that is cleared -/
theorem treeNew_any (w : World) (ob : Nat) : Calls Try.prog 104 #[cmpV ob] w fun e w' => e = .returned (.pointer (some ⟨w.heap.size, 0, none⟩)) ∧ w.alloc (treeObj none 0 (cmpV ob)) = w' := by
  show Calls Try.prog 104 #[.func (.func 109) #[] #[.pointer (some ⟨ob, 0, none⟩)]] w _
  go_enter Try.func104, Try.ntmps104
  go_wp2
  go_ret
  exact ⟨rfl, rfl⟩
theorem treeClear_any {w : World} {tb : Nat} {root : Option Nat} {n : Int} {cv : Value} (h : w.heap[tb]? = some (treeObj root n cv)) :
    Calls Try.prog 112 #[.pointer (some ⟨tb, 0, none⟩)] w fun e w' => e = .returned (.tuple #[]) ∧ (w.setCell ⟨tb, 0, none⟩ (.pointer none)).setCell ⟨tb, 1, none⟩ (.int .i64 0) = w' := by
  have t0 := tree_root h
  have t1 := tree_size h
  have lt := tree_plain h
  clear h
  go_enter Try.func112, Try.ntmps112
  go_wp2
  go_end0
  exact ⟨rfl, rfl⟩

end Go.Proofs.Ytdamfannmlncnaa
