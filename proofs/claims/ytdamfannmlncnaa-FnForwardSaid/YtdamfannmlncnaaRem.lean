/- Remove, walked: the tree that it leaves holds the list with the key taken out. -/
import Derived.Test.YtdamfannmlncnaaPut
namespace Go.Proofs.Ytdamfannmlncnaa
open Go.RowKit
set_option linter.unusedVariables false
set_option linter.unusedSimpArgs false

/-- What Remove comes to. -/
def RemPost (tb ob : Nat) (kind m : Int) (t : T) (key : Int) (w : World) (e : Ending) (w' : World) : Prop :=
  e = .returned (.tuple #[]) ∧ ∃ t', Tm w' tb ob kind m t' ∧ t'.toList = del (ordf kind m) key t.toList ∧ (∀ i ∈ t'.ids, i ∈ t.ids) ∧ Keep (Own tb t) w w'

section
variable {w w1 : World} {tb ob : Nat} {kind m : Int} {t : T} {key : Int} {cx : Cx} {x y z : Nat} {n : Int} {cv : Value} {c zc : Bool} {l r zl zr : T} {k v zk zv : Int}

theorem toList_length (t : T) : t.toList.length = t.ents.length := by simp [T.toList]

theorem rem_done (ht : Tm w tb ob kind m t) {q : Int × Int} (hl : look (ordf kind m) key t.toList = some q) {t2 : T} {w2 : World} (h2 : TreeIn w2 tb t.ents.length (cmpV ob) t2) (hrb : t2.RBT)
    (hlist : t2.toList = del (ordf kind m) key t.toList) (hids : ∀ i ∈ t2.ids, i ∈ t.ids) (hK : Keep (Own tb t) w w2) :
    RemPost tb ob kind m t key w (.returned (.tuple #[])) (w2.setCell ⟨tb, 1, none⟩ (.int .i64 ((t.ents.length : Int) - 1))) := by
  have hlen : (t2.ents.length : Int) = (t.ents.length : Int) - 1 := by
    have h1 := del_length (f := ordf kind m) (k := key) t.toList
    rw [hl, ← hlist, toList_length, toList_length] at h1
    simp at h1
    omega
  have hK' := hK.setCell ⟨tb, 1, none⟩ (fun _ => .inl rfl) (.int .i64 ((t.ents.length : Int) - 1))
  refine ⟨rfl, t2, ⟨?_, ?_, ht.ok, by rw [hlist]; exact del_srt ht.srt, hrb, ht.ne, fun hm => ht.nm (hids _ hm)⟩, hlist, hids, hK'⟩
  · rw [hlen]; exact h2.setSize _
  · exact hK'.get ht.ord (by rintro (e | e); exact ht.ne e; exact ht.nm e)

theorem rem_none (ht : Tm w tb ob kind m t) (hl : look (ordf kind m) key t.toList = none) (a : Nat) : RemPost tb ob kind m t key w (.returned (.tuple #[])) (w.drewN a) :=
  ⟨rfl, t, ht.drewN a, (del_miss hl).symm, fun i hi => hi, (Keep.refl _ _).drewN a⟩

/-- The node is cut out: nothing is put in its place. -/
theorem cut_nil (h : TreeIn w1 tb n cv (cx.plug (.node x c l k v r))) :
    TreeIn (setHole w1 tb cx none) tb n cv (cx.plug .nil) ∧ Keep (Own tb (cx.plug (.node x c l k v r))) w1 (setHole w1 tb cx none) ∧
      (setHole w1 tb cx none).heap[x]? = some (nodeObj k v c l.ptr r.ptr cx.par) := by
  have hn := h.nodup
  have ha := h.apart
  rw [nodup_plug] at hn
  rw [mem_ids_plug] at ha
  have hx : x ∈ (T.node x c l k v r).ids := by rw [ids_node]; simp
  refine ⟨TreeIn.of (h.hole.set hn.1 (fun e => ha (.inl e)) none) trivial ?_ ?_, (setHole_keep none).mono fun i _ hi => ?_, ?_⟩
  · rw [nodup_plug]; exact ⟨hn.1, by simp [ids_nil], fun i _ => by simp [ids_nil]⟩
  · rw [mem_ids_plug]; simp only [ids_nil, List.not_mem_nil, or_false]; exact fun e => ha (.inl e)
  · rcases hi with hi | hi
    · exact .inl hi
    · exact .inr (by rw [mem_ids_plug]; exact .inl hi)
  · rw [setHole_other (by rintro rfl; exact ha (.inr hx)) (fun e => hn.2.2 x e hx)]; exact h.node

/-- The node is cut out: its one child is put in its place. -/
theorem cut_some (h : TreeIn w1 tb n cv (cx.plug (.node x c l k v r))) (hz : (l = .nil ∧ r = .node z zc zl zk zv zr) ∨ (l = .node z zc zl zk zv zr ∧ r = .nil)) :
    TreeIn (moved w1 tb cx z) tb n cv (cx.plug (.node z zc zl zk zv zr)) ∧ Keep (Own tb (cx.plug (.node x c l k v r))) w1 (moved w1 tb cx z) ∧
      (moved w1 tb cx z).heap[x]? = some (nodeObj k v c l.ptr r.ptr cx.par) ∧ x ≠ z ∧ x ∉ cx.ids ∧ z ∉ cx.ids ∧ z ≠ tb ∧ w1.heap[z]? = some (nodeObj zk zv zc zl.ptr zr.ptr (some x)) := by
  have hn := h.nodup
  have ha := h.apart
  rw [nodup_plug] at hn
  rw [mem_ids_plug] at ha
  have hx : x ∈ (T.node x c l k v r).ids := by rw [ids_node]; simp
  have hzi : ∀ i ∈ (T.node z zc zl zk zv zr).ids, i ∈ (T.node x c l k v r).ids := by
    intro i hi
    rw [ids_node]
    rcases hz with ⟨rfl, rfl⟩ | ⟨rfl, rfl⟩ <;> simp [hi]
  have hzx : x ∉ (T.node z zc zl zk zv zr).ids := by
    have h2 := hn.2.1
    rw [ids_node] at h2
    rcases hz with ⟨rfl, rfl⟩ | ⟨rfl, rfl⟩
    · rw [ids_nil, List.nil_append, List.nodup_cons] at h2; exact h2.1
    · rw [ids_nil, List.nodup_append] at h2; exact fun e => h2.2.2 x e x (by simp) rfl
  have hznd : (T.node z zc zl zk zv zr).ids.Nodup := by
    have h2 := hn.2.1
    rw [ids_node] at h2
    rcases hz with ⟨rfl, rfl⟩ | ⟨rfl, rfl⟩
    · rw [ids_nil, List.nil_append, List.nodup_cons] at h2; exact h2.2
    · rw [ids_nil, List.nodup_append] at h2; exact h2.1
  have fz : Fits w1 (some x) (.node z zc zl zk zv zr) := by
    have h2 := h.sub.2
    rcases hz with ⟨rfl, rfl⟩ | ⟨rfl, rfl⟩
    · exact h2.2
    · exact h2.1
  have hzm : z ∈ (T.node z zc zl zk zv zr).ids := by rw [ids_node]; simp
  have hxz : x ≠ z := fun e => hzx (e ▸ hzm)
  have hxc : x ∉ cx.ids := fun e => hn.2.2 x e hx
  have hzc : z ∉ cx.ids := fun e => hn.2.2 z e (hzi z hzm)
  have hzt : z ≠ tb := fun e => ha (.inr (e ▸ hzi z hzm))
  have hxt : x ≠ tb := by rintro rfl; exact ha (.inr hx)
  have hm := moved_of h.hole fz.1 hn.1 (fun e => ha (.inl e)) hzc hzt
  refine ⟨TreeIn.of hm.hole (fz.rehung hm.ycell (fun i hi hne => hm.other i (fun e => ha (.inr (e ▸ hzi i hi))) (fun e => hn.2.2 i e (hzi i hi)) hne) hznd) ?_ ?_, hm.keep.mono fun i _ hi => ?_, ?_, hxz, hxc, hzc, hzt, fz.1⟩
  · rw [nodup_plug]; exact ⟨hn.1, hznd, fun i hi e => hn.2.2 i hi (hzi i e)⟩
  · rw [mem_ids_plug]; rintro (e | e); exact ha (.inl e); exact ha (.inr (hzi tb e))
  · rcases hi with hi | hi | hi
    · exact .inl hi
    · exact .inr (by rw [mem_ids_plug]; exact .inl hi)
    · exact .inr (by rw [mem_ids_plug, hi]; exact .inr (hzi z hzm))
  · rw [hm.other x hxt hxc hxz]; exact h.node

theorem rb_kv (cx : Cx) (k' v' : Int) (h : (cx.plug (.node x c l k v r)).RBT) : (cx.plug (.node x c l k' v' r)).RBT := by
  obtain ⟨hh, h1, h2, h3⟩ := RBT_plug cx _ h
  refine plug_RBT cx _ hh ?_ h2 h3
  cases c with
  | true =>
    cases hh with
    | zero => exact (RB_zero _ _ _ _ _ h1).elim
    | succ hh => rw [RB_black] at h1 ⊢; exact h1
  | false => rw [RB_red] at h1 ⊢; exact h1

theorem rights_aents (rp : List (Nat × Bool × T × Int × Int)) : ∀ cx : Cx, (cx.rights rp).aents = cx.aents := by
  induction rp with
  | nil => intro cx; rfl
  | cons a rp ih => intro cx; obtain ⟨x', c', l', k', v'⟩ := a; exact ih _
end

theorem nodeColor_nil (w : World) : Calls Try.prog 128 #[.pointer none] w fun e w' => e = .returned (.bool true) ∧ w = w' := nodeColor_any (p := none) (t := .nil) (w := w) trivial

/-! ### A node that is found is the one node of its key -/
theorem pairwise_one {f : Int → Int} : ∀ {L : List Ent}, (L.map (·.2)).Pairwise (fun a b => f a.1 < f b.1) → ∀ {a b : Ent}, a ∈ L → b ∈ L → f a.2.1 = f b.2.1 → a = b := by
  intro L
  induction L with
  | nil => intro _ a b ha; simp at ha
  | cons e L ih =>
    intro hp a b ha hb hf
    rw [List.map_cons, List.pairwise_cons] at hp
    rcases List.mem_cons.1 ha with rfl | ha'
    · rcases List.mem_cons.1 hb with rfl | hb'
      · rfl
      · have := hp.1 _ (List.mem_map_of_mem hb'); omega
    · rcases List.mem_cons.1 hb with rfl | hb'
      · have := hp.1 _ (List.mem_map_of_mem ha'); omega
      · exact ih hp.2 ha' hb' hf

theorem zip_split (t : T) : ∀ (cx0 : Cx) (A : List Ent) (e : Ent) (B : List Ent), t.ents = A ++ e :: B →
    ∃ cx c l r, cx0.plug t = Cx.plug cx (.node e.1 c l e.2.1 e.2.2 r) ∧ cx.bents ++ l.ents = cx0.bents ++ A := by
  induction t with
  | nil => intro cx0 A e B h; simp [T.ents] at h
  | node x c l k v r ihl ihr =>
    intro cx0 A e B h
    rw [T.ents] at h
    rw [List.append_eq_append_iff] at h
    rcases h with ⟨D, h1, h2⟩ | ⟨D, h1, h2⟩
    · cases D with
      | nil =>
        simp at h1 h2
        obtain ⟨rfl, rfl⟩ := h2
        exact ⟨cx0, c, l, r, rfl, by rw [h1]⟩
      | cons d D =>
        rw [List.cons_append, List.cons.injEq] at h2
        obtain ⟨cx, c', l', r', h3, h4⟩ := ihr (Cx.right cx0 x c l k v) D e B h2.2
        refine ⟨cx, c', l', r', h3, ?_⟩
        rw [h4, h1, ← h2.1]
        simp [Cx.bents]
    · cases D with
      | nil =>
        simp at h1 h2
        obtain ⟨rfl, rfl⟩ := h2
        exact ⟨cx0, c, l, r, rfl, by rw [h1]⟩
      | cons d D =>
        rw [List.cons_append, List.cons.injEq] at h2
        obtain ⟨cx, c', l', r', h3, h4⟩ := ihl (Cx.left cx0 x c k v r) A e D (by rw [h1, h2.1])
        exact ⟨cx, c', l', r', h3, h4⟩

theorem look_mem {f : Int → Int} {key : Int} {l : List (Int × Int)} {q : Int × Int} (h : look f key l = some q) : q ∈ l ∧ f q.1 = f key := by
  induction l with
  | nil => cases h
  | cons e l ih =>
    unfold look at h
    split at h
    · exact ⟨List.mem_cons_of_mem _ (ih h).1, (ih h).2⟩
    · split at h
      · rename_i h1 h2; cases h; exact ⟨by simp, h2⟩
      · cases h

section
variable {w : World} {tb ob : Nat} {kind m : Int} {t : T} {key : Int} {cx : Cx} {x : Nat} {c : Bool} {l r : T} {k v : Int}
theorem look_cases (t : T) (f : Int → Int) (key : Int) : look f key t.toList = none ∨ ∃ cx x c l k v r, t = Cx.plug cx (.node x c l k v r) ∧ f k = f key := by
  cases h : look f key t.toList with
  | none => exact .inl rfl
  | some q =>
    obtain ⟨h1, h2⟩ := look_mem h
    obtain ⟨e, he, rfl⟩ := List.mem_map.1 h1
    obtain ⟨A, B, hAB⟩ := List.append_of_mem he
    obtain ⟨cx, c, l, r, h3, _⟩ := zip_split t .top A e B hAB
    exact .inr ⟨cx, e.1, c, l, e.2.1, e.2.2, r, h3, h2⟩
theorem lookup_found (h : Tm w tb ob kind m (cx.plug (.node x c l k v r))) (he : ordf kind m k = ordf kind m key) :
    Calls Try.prog 113 #[.pointer (some ⟨tb, 0, none⟩), .iface 3 (.int .i64 key)] w fun e w' => e = .returned (.pointer (some ⟨x, 0, none⟩)) ∧ ∃ a, w' = w.drewN a := by
  refine (lookup_any h key).mono ?_
  rintro e w' ⟨hl, ha⟩
  refine ⟨?_, ha⟩
  rcases hl with ⟨hn, _⟩ | ⟨cx2, x2, c2, l2, k2, v2, r2, hp, he2, rfl⟩
  · rw [look_hit_plug h.srt he] at hn; cases hn
  · have h1 : (x, k, v) ∈ (cx.plug (.node x c l k v r)).ents := by simp [plug_ents, T.ents]
    have h2 : (x2, k2, v2) ∈ (cx.plug (.node x c l k v r)).ents := by rw [hp]; simp [plug_ents, T.ents]
    have := pairwise_one h.srt h1 h2 (by simp only; rw [he, he2])
    rw [Prod.mk.injEq] at this
    rw [this.1]
theorem lookup_missing (h : Tm w tb ob kind m t) (hn : look (ordf kind m) key t.toList = none) :
    Calls Try.prog 113 #[.pointer (some ⟨tb, 0, none⟩), .iface 3 (.int .i64 key)] w fun e w' => e = .returned (.pointer none) ∧ ∃ a, w' = w.drewN a := by
  refine (lookup_any h key).mono ?_
  rintro e w' ⟨hl, ha⟩
  refine ⟨?_, ha⟩
  rcases hl with ⟨_, rfl⟩ | ⟨cx2, x2, c2, l2, k2, v2, r2, hp, he2, rfl⟩
  · rfl
  · rw [hp, look_hit_plug (by rw [← hp]; exact h.srt) he2] at hn; cases hn

theorem remove_missing (h : Tm w tb ob kind m t) (hn : look (ordf kind m) key t.toList = none) :
    Calls Try.prog 111 #[.pointer (some ⟨tb, 0, none⟩), .iface 3 (.int .i64 key)] w (RemPost tb ob kind m t key w) := by
  have L := hid (lookup_missing h hn)
  have H := hid (fun a => rem_none h hn a)
  clear h hn
  go_enter Try.func111, Try.ntmps111
  go_wp2_with (go_at_call 113; refine L.out.mono ?_; rintro e w1 ⟨rfl, a, rfl⟩)
  first | go_end0 | ((try simp only [Exit.inBlock, Exit.then]); refine bodyPost_ret (results_none rfl _ _ _) rfl ?_)
  exact H.out a

theorem own_congr {tb : Nat} {t t' : T} (h : t.ids = t'.ids) : Own tb t = Own tb t' := by unfold Own; rw [h]
theorem rem_two_list {cx cx' : Cx} {L R YL ch : T} {D : List Ent} {x y : Nat} {yk yv : Int} (hkey : cx.bents ++ L.ents = D ++ (YL.ents ++ [(y, yk, yv)])) (hb : cx'.bents = D)
    (ha : cx'.aents = ((x, yk, yv) :: R.ents) ++ cx.aents) (hch : ch.toList = YL.toList) : (cx'.plug ch).toList = cx.bl ++ L.toList ++ R.toList ++ cx.al := by
  have e1 : cx.bl ++ L.toList = (cx.bents ++ L.ents).map (·.2) := by simp [Cx.bl, T.toList]
  rw [e1, hkey, plug_toList, hch]
  simp [Cx.bl, Cx.al, hb, ha, T.toList]
theorem rem_key {cx : Cx} {L R YL : T} {rp : List (Nat × Bool × T × Int × Int)} {x y : Nat} {c nc : Bool} {yk yv : Int} (h : MaxAt L rp (.node y nc YL yk yv .nil)) :
    cx.bents ++ L.ents = ((Cx.left cx x c yk yv R).rights rp).bents ++ (YL.ents ++ [(y, yk, yv)]) := by
  have hme := congrArg T.ents (h.eq (Cx.left cx x c yk yv R))
  rw [plug_ents, plug_ents, rights_aents] at hme
  exact List.append_cancel_right hme

set_option maxRecDepth 100000 in
set_option maxHeartbeats 4000000 in
theorem remove_red {z : Nat} {zk zv : Int} (h : Tm w tb ob kind m (cx.plug (.node x false .nil k v .nil))) (he : ordf kind m k = ordf kind m key) (hlen : (cx.plug (.node x false .nil k v .nil)).ents.length ≤ 1000000) :
    Calls Try.prog 111 #[.pointer (some ⟨tb, 0, none⟩), .iface 3 (.int .i64 key)] w (RemPost tb ob kind m (cx.plug (.node x false .nil k v .nil)) key w) := by
  have L := hid (lookup_found h he)
  have H := hid h
  have HE := hid he
  have HL := hid hlen
  clear h he hlen
  go_enter Try.func111, Try.ntmps111
  go_wp2_with (fail)
  refine L.out.mono ?_
  rintro e w1 ⟨rfl, a, hw1⟩
  have T1 : Tm w1 tb ob kind m (cx.plug (.node x false .nil k v .nil)) := by rw [hw1]; exact H.out.drewN a
  have K1 : Keep (Own tb (cx.plug (.node x false .nil k v .nil))) w w1 := by rw [hw1]; exact (Keep.refl _ _).drewN a
  have x2 := node_col T1.tree.node
  have x3 : w1.cell? ⟨x, 3, none⟩ = some (.pointer none) := node_left T1.tree.node
  have x4 : w1.cell? ⟨x, 4, none⟩ = some (.pointer none) := node_right T1.tree.node
  have lx := node_plain T1.tree.node
  have TT := hid T1.tree
  have KK := hid K1
  clear T1 K1 hw1 L
  go_wp2_with (fail)
  have hrbt : (cx.plug (.node x false .nil k v .nil)).RBT := H.out.rb
  have hlk := look_hit_plug H.out.srt HE.out
  have hdl := del_hit_plug H.out.srt HE.out
  have hents : (cx.plug (.node x false .nil k v .nil)).ids = (cx.plug (.node x false .nil k v .nil)).ids := rfl
  obtain ⟨hh, hr1, hr2, hr3⟩ := RBT_plug _ _ hrbt
  rw [RB_red] at hr1
  have hh0 : hh = 0 := (RB_nil _).1 hr1.2.2.1
  subst hh0
  obtain ⟨hc1, hc2, hc3⟩ := cut_nil TT.out
  have hrb2 := plug_RBT _ .nil 0 ((RB_nil _).2 rfl) hr2 (.inl rfl)
  have C := hid (replaceNode_nil TT.out.hole TT.out.node (by have hn := TT.out.nodup; rw [nodup_plug] at hn; intro e; exact hn.2.2 _ e (by rw [ids_node]; simp)))
  have PD := hid (rem_done H.out hlk hc1 hrb2 (by
      rw [hdl, plug_toList]
      simp [Cx.bl, Cx.al, T.toList, T.ents]) (fun i hi => by
      rw [← hents]
      simp only [ids_plug, ids_node, ids_nil, List.mem_append, List.mem_cons, List.not_mem_nil, or_false, false_or] at hi ⊢
      rcases hi with hi | hi <;> simp [hi]) ((KK.out.trans (by rw [← (own_congr hents)]; exact hc2))))
  refine C.out.mono ?_
  rintro e w5 ⟨rfl, hw5⟩
  rw [hw5] at hc1 hc3 PD
  obtain ⟨g, hg⟩ : ∃ g, cx.par = some g := by
    have hred : cx.redOk = true := by simpa [T.black] using hr3
    cases hcx : cx with
    | top => rw [hcx] at hred; cases hred
    | left up g _ _ _ _ => exact ⟨g, rfl⟩
    | right up g _ _ _ _ => exact ⟨g, rfl⟩
  have n5 : w5.cell? ⟨x, 5, none⟩ = some (.pointer (some ⟨g, 0, none⟩)) := by have := node_par hc3; rw [hg] at this; exact this
  have e1 := tree_size hc1.head
  have le := tree_plain hc1.head
  obtain ⟨N, hN, hb⟩ : ∃ N : Nat, (cx.plug (.node x false .nil k v .nil)).ents.length = N ∧ N ≤ 1000000 := ⟨_, rfl, HL.out⟩
  rw [hN] at e1 PD
  have hb0 : (0 : Int) ≤ N := by omega
  clear hc1 hc2 hc3 hrb2 hr1 hr2 hr3 hrbt hlk hents hN hw5 hg hdl
  go_wp2_with (fail)
  go_end0
  exact PD.out

set_option maxRecDepth 100000 in
set_option maxHeartbeats 4000000 in
theorem remove_black {z : Nat} {zk zv : Int} (h : Tm w tb ob kind m (cx.plug (.node x true .nil k v .nil))) (he : ordf kind m k = ordf kind m key) (hlen : (cx.plug (.node x true .nil k v .nil)).ents.length ≤ 1000000) :
    Calls Try.prog 111 #[.pointer (some ⟨tb, 0, none⟩), .iface 3 (.int .i64 key)] w (RemPost tb ob kind m (cx.plug (.node x true .nil k v .nil)) key w) := by
  have L := hid (lookup_found h he)
  have H := hid h
  have HE := hid he
  have HL := hid hlen
  clear h he hlen
  go_enter Try.func111, Try.ntmps111
  go_wp2_with (fail)
  refine L.out.mono ?_
  rintro e w1 ⟨rfl, a, hw1⟩
  have T1 : Tm w1 tb ob kind m (cx.plug (.node x true .nil k v .nil)) := by rw [hw1]; exact H.out.drewN a
  have K1 : Keep (Own tb (cx.plug (.node x true .nil k v .nil))) w w1 := by rw [hw1]; exact (Keep.refl _ _).drewN a
  have x2 := node_col T1.tree.node
  have x3 : w1.cell? ⟨x, 3, none⟩ = some (.pointer none) := node_left T1.tree.node
  have x4 : w1.cell? ⟨x, 4, none⟩ = some (.pointer none) := node_right T1.tree.node
  have lx := node_plain T1.tree.node
  have TT := hid T1.tree
  have KK := hid K1
  clear T1 K1 hw1 L
  go_wp2_with (fail)
  refine (nodeColor_nil _).mono ?_
  rintro e w3 ⟨rfl, rfl⟩
  go_wp2_with (fail)
  have hrbt : (cx.plug (.node x true .nil k v .nil)).RBT := H.out.rb
  have hlk := look_hit_plug H.out.srt HE.out
  have hdl := del_hit_plug H.out.srt HE.out
  have hents : (cx.plug (.node x true .nil k v .nil)).ids = (cx.plug (.node x true .nil k v .nil)).ids := rfl
  obtain ⟨hh, hr1, hr2, hr3⟩ := RBT_plug _ _ hrbt
  have hh1 : hh = 1 := by
    cases hh with
    | zero => exact (RB_zero _ _ _ _ _ hr1).elim
    | succ hh =>
      rw [RB_black] at hr1
      have := (RB_nil _).1 hr1.2
      omega
  subst hh1
  refine (deleteCase1_any tb _ _ _ x true _ _ _ _ 0 _ (TT.out.setCol true) hr2).mono ?_
  rintro e w4 ⟨rfl, cx', ht', hb, ha, hok', hpb, hk4⟩
  obtain ⟨hc1, hc2, hc3⟩ := cut_nil ht'
  have hrb2 := plug_RBT cx' .nil 0 ((RB_nil _).2 rfl) hok' (.inl rfl)
  have C := hid (replaceNode_nil ht'.hole ht'.node (by have hn := ht'.nodup; rw [nodup_plug] at hn; intro e; exact hn.2.2 _ e (by rw [ids_node]; simp)))
  have hi' : (cx'.plug (.node x true .nil k v .nil)).ids = (cx.plug (.node x true .nil k v .nil)).ids := by rw [← hents] <;> simp [ids_plug, ids_node, hb, ha]
  have PD := hid (rem_done H.out hlk hc1 hrb2 (by
      rw [hdl, plug_toList]
      simp [Cx.bl, Cx.al, hb, ha, T.toList, T.ents]) (fun i hi => by
      rw [← hents]
      simp only [ids_plug, hb, ha, ids_node, ids_nil, List.mem_append, List.mem_cons, List.not_mem_nil, or_false, false_or] at hi ⊢
      rcases hi with hi | hi <;> simp [hi]) (((KK.out.setCell ⟨x, 2, none⟩ (fun _ => by rw [← (own_congr hents)]; exact own_plug) (.bool true)).trans (by rw [own_congr (show (cx.plug (.node x true .nil k v .nil)).ids = (cx.plug (.node x true .nil k v .nil)).ids from (by rw [← hents] <;> simp [ids_plug, ids_node]))] at hk4; exact hk4)).trans (by rw [← own_congr hi']; exact hc2)))
  have HC1 := hid hc1
  have HC3 := hid hc3
  clear hc1 hc2 hc3 hrb2 hr1 hr2 hr3 hrbt hlk hents ht' hok' ha hb hpb hk4 hi' hdl
  go_wp2_with (fail)
  refine C.out.mono ?_
  rintro e w5 ⟨rfl, hw5⟩
  have hc1 := HC1.out
  have hc3 := HC3.out
  rw [hw5] at hc1 hc3 PD
  have n5 := node_par hc3
  have e1 := tree_size hc1.head
  have le := tree_plain hc1.head
  obtain ⟨N, hN, hb⟩ : ∃ N : Nat, (cx.plug (.node x true .nil k v .nil)).ents.length = N ∧ N ≤ 1000000 := ⟨_, rfl, HL.out⟩
  rw [hN] at e1 PD
  have hb0 : (0 : Int) ≤ N := by omega
  cases hpar : cx'.par with
  | none =>
    rw [hpar] at n5
    have n5' : w5.cell? ⟨x, 5, none⟩ = some (.pointer none) := n5
    clear n5 hc1 hc3 hN hw5 hpar
    go_wp2_with (fail)
    go_end0
    exact PD.out
  | some g =>
    rw [hpar] at n5
    have n5' : w5.cell? ⟨x, 5, none⟩ = some (.pointer (some ⟨g, 0, none⟩)) := n5
    clear n5 hc1 hc3 hN hw5 hpar
    go_wp2_with (fail)
    go_end0
    exact PD.out

set_option maxRecDepth 100000 in
set_option maxHeartbeats 4000000 in
theorem remove_black_r {z : Nat} {zk zv : Int} (h : Tm w tb ob kind m (cx.plug (.node x true .nil k v (.node z false .nil zk zv .nil)))) (he : ordf kind m k = ordf kind m key) (hlen : (cx.plug (.node x true .nil k v (.node z false .nil zk zv .nil))).ents.length ≤ 1000000) :
    Calls Try.prog 111 #[.pointer (some ⟨tb, 0, none⟩), .iface 3 (.int .i64 key)] w (RemPost tb ob kind m (cx.plug (.node x true .nil k v (.node z false .nil zk zv .nil))) key w) := by
  have L := hid (lookup_found h he)
  have H := hid h
  have HE := hid he
  have HL := hid hlen
  clear h he hlen
  go_enter Try.func111, Try.ntmps111
  go_wp2_with (fail)
  refine L.out.mono ?_
  rintro e w1 ⟨rfl, a, hw1⟩
  have T1 : Tm w1 tb ob kind m (cx.plug (.node x true .nil k v (.node z false .nil zk zv .nil))) := by rw [hw1]; exact H.out.drewN a
  have K1 : Keep (Own tb (cx.plug (.node x true .nil k v (.node z false .nil zk zv .nil)))) w w1 := by rw [hw1]; exact (Keep.refl _ _).drewN a
  have x2 := node_col T1.tree.node
  have x3 : w1.cell? ⟨x, 3, none⟩ = some (.pointer none) := node_left T1.tree.node
  have x4 : w1.cell? ⟨x, 4, none⟩ = some (.pointer (some ⟨z, 0, none⟩)) := node_right T1.tree.node
  have lx := node_plain T1.tree.node
  have fz : w1.heap[z]? = some (nodeObj zk zv false none none (some x)) := T1.tree.sub.2.2.1
  have z2 := node_col fz
  have TT := hid T1.tree
  have KK := hid K1
  clear T1 K1 hw1 L fz
  go_wp2_with (fail)
  refine (nodeColor_node (c := false) (by first | exact z2 | (rw [World.cell?_setCell_other _ _ _ _ (by simp), World.cell?_setCell_other _ _ _ _ (by simp)]; exact z2))).mono ?_
  rintro e w3 ⟨rfl, rfl⟩
  go_wp2_with (fail)
  have hrbt : (cx.plug (.node x true .nil k v (.node z false .nil zk zv .nil))).RBT := H.out.rb
  have hlk := look_hit_plug H.out.srt HE.out
  have hdl := del_hit_plug H.out.srt HE.out
  have hents : (cx.plug (.node x true .nil k v (.node z false .nil zk zv .nil))).ids = (cx.plug (.node x true .nil k v (.node z false .nil zk zv .nil))).ids := rfl
  obtain ⟨hh, hr1, hr2, hr3⟩ := RBT_plug _ _ hrbt
  have hh1 : hh = 1 := by
    cases hh with
    | zero => exact (RB_zero _ _ _ _ _ hr1).elim
    | succ hh =>
      rw [RB_black] at hr1
      have := (RB_nil _).1 hr1.1
      omega
  subst hh1
  refine (deleteCase1_any tb _ _ _ x false _ _ _ _ 0 _ (TT.out.setCol false) hr2).mono ?_
  rintro e w4 ⟨rfl, cx', ht', hb, ha, hok', hpb, hk4⟩
  obtain ⟨hc1, hc2, hc3, hxz, hxc, hzc, hzt, hz1⟩ := cut_some (z := z) (zc := false) (zl := .nil) (zr := .nil) (zk := zk) (zv := zv) ht' (.inl ⟨rfl, rfl⟩)
  have C := hid (replaceNode_some ht'.hole ht'.node hxc hz1 hzc hzt (fun e => hxz e.symm))
  have hi' : (cx'.plug (.node x false .nil k v (.node z false .nil zk zv .nil))).ids = (cx.plug (.node x true .nil k v (.node z false .nil zk zv .nil))).ids := by rw [← hents] <;> simp [ids_plug, ids_node, hb, ha]
  have KW := hid (((KK.out.setCell ⟨x, 2, none⟩ (fun _ => by rw [← (own_congr hents)]; exact own_plug) (.bool false)).trans (by rw [own_congr (show (cx.plug (.node x false .nil k v (.node z false .nil zk zv .nil))).ids = (cx.plug (.node x true .nil k v (.node z false .nil zk zv .nil))).ids from (by rw [← hents] <;> simp [ids_plug, ids_node]))] at hk4; exact hk4)).trans (by rw [← own_congr hi']; exact hc2))
  have HLQ := hid (show ∀ cc, (cx'.plug (.node z cc .nil zk zv .nil)).toList = del (ordf kind m) key (cx.plug (.node x true .nil k v (.node z false .nil zk zv .nil))).toList from fun cc => by
      rw [hdl, plug_toList]
      simp [Cx.bl, Cx.al, hb, ha, T.toList, T.ents])
  have HIQ := hid (show ∀ cc, ∀ i ∈ (cx'.plug (.node z cc .nil zk zv .nil)).ids, i ∈ (cx.plug (.node x true .nil k v (.node z false .nil zk zv .nil))).ids from fun cc => fun i hi => by
      rw [← hents]
      simp only [ids_plug, hb, ha, ids_node, ids_nil, List.mem_append, List.mem_cons, List.not_mem_nil, or_false, false_or] at hi ⊢
      rcases hi with (hi | hi) | hi <;> simp [hi])
  have HC1 := hid hc1
  have HC3 := hid hc3
  have HLK := hid hlk
  have HOK := hid (And.intro hok' hpb)
  have HZT := hid hzt
  clear hc1 hc2 hc3 hr1 hr2 hr3 hrbt hlk hents ht' hok' ha hb hpb hk4 hi' hzc hxc hzt hz1 hxz hdl
  go_wp2_with (fail)
  refine C.out.mono ?_
  rintro e w5 ⟨rfl, hw5⟩
  have hc1 := HC1.out
  have hc3 := HC3.out
  rw [hw5] at hc1 hc3 KW
  have n5 := node_par hc3
  have zq := node_col hc1.node
  have lq := node_plain hc1.node
  have e1 := tree_size hc1.head
  have le := tree_plain hc1.head
  obtain ⟨N, hN, hb⟩ : ∃ N : Nat, (cx.plug (.node x true .nil k v (.node z false .nil zk zv .nil))).ents.length = N ∧ N ≤ 1000000 := ⟨_, rfl, HL.out⟩
  have hb0 : (0 : Int) ≤ N := by omega
  cases cx' with
  | top =>
    have n5' : w5.cell? ⟨x, 5, none⟩ = some (.pointer none) := n5
    have hc6 := hc1.setCol true
    have hrb2 : (Cx.top.plug (.node z true .nil zk zv .nil)).RBT := ⟨rfl, 1, (RB_black _ _ _ _ _ _).2 ⟨rfl, rfl⟩⟩
    have PD := hid (rem_done H.out HLK.out hc6 hrb2 (HLQ.out true) (HIQ.out true) (KW.out.setCell ⟨z, 2, none⟩ (fun _ => .inr (HIQ.out true z (by rw [mem_ids_plug, ids_node]; simp))) (.bool true)))
    rw [hN] at e1 PD
    have nzt : ¬ z = tb := HZT.out
    have ntz : ¬ tb = z := fun e => HZT.out e.symm
    clear n5 hc1 hc3 hc6 hrb2 hN hw5
    go_wp2_with (fail)
    go_end0
    exact PD.out
  | left up g gc gk gv gs =>
    have n5' : w5.cell? ⟨x, 5, none⟩ = some (.pointer (some ⟨g, 0, none⟩)) := n5
    have hrb2 := plug_RBT _ (.node z false .nil zk zv .nil) 0 ((RB_red _ _ _ _ _ _).2 ⟨rfl, rfl, rfl, rfl⟩) HOK.out.1 (.inr HOK.out.2)
    have PD := hid (rem_done H.out HLK.out hc1 hrb2 (HLQ.out false) (HIQ.out false) KW.out)
    rw [hN] at e1 PD
    clear n5 hc1 hc3 hrb2 hN hw5
    go_wp2_with (fail)
    go_end0
    exact PD.out
  | right up g gc gs gk gv =>
    have n5' : w5.cell? ⟨x, 5, none⟩ = some (.pointer (some ⟨g, 0, none⟩)) := n5
    have hrb2 := plug_RBT _ (.node z false .nil zk zv .nil) 0 ((RB_red _ _ _ _ _ _).2 ⟨rfl, rfl, rfl, rfl⟩) HOK.out.1 (.inr HOK.out.2)
    have PD := hid (rem_done H.out HLK.out hc1 hrb2 (HLQ.out false) (HIQ.out false) KW.out)
    rw [hN] at e1 PD
    clear n5 hc1 hc3 hrb2 hN hw5
    go_wp2_with (fail)
    go_end0
    exact PD.out

set_option maxRecDepth 100000 in
set_option maxHeartbeats 4000000 in
theorem remove_black_l {z : Nat} {zk zv : Int} (h : Tm w tb ob kind m (cx.plug (.node x true (.node z false .nil zk zv .nil) k v .nil))) (he : ordf kind m k = ordf kind m key) (hlen : (cx.plug (.node x true (.node z false .nil zk zv .nil) k v .nil)).ents.length ≤ 1000000) :
    Calls Try.prog 111 #[.pointer (some ⟨tb, 0, none⟩), .iface 3 (.int .i64 key)] w (RemPost tb ob kind m (cx.plug (.node x true (.node z false .nil zk zv .nil) k v .nil)) key w) := by
  have L := hid (lookup_found h he)
  have H := hid h
  have HE := hid he
  have HL := hid hlen
  clear h he hlen
  go_enter Try.func111, Try.ntmps111
  go_wp2_with (fail)
  refine L.out.mono ?_
  rintro e w1 ⟨rfl, a, hw1⟩
  have T1 : Tm w1 tb ob kind m (cx.plug (.node x true (.node z false .nil zk zv .nil) k v .nil)) := by rw [hw1]; exact H.out.drewN a
  have K1 : Keep (Own tb (cx.plug (.node x true (.node z false .nil zk zv .nil) k v .nil))) w w1 := by rw [hw1]; exact (Keep.refl _ _).drewN a
  have x2 := node_col T1.tree.node
  have x3 : w1.cell? ⟨x, 3, none⟩ = some (.pointer (some ⟨z, 0, none⟩)) := node_left T1.tree.node
  have x4 : w1.cell? ⟨x, 4, none⟩ = some (.pointer none) := node_right T1.tree.node
  have lx := node_plain T1.tree.node
  have fz : w1.heap[z]? = some (nodeObj zk zv false none none (some x)) := T1.tree.sub.2.1.1
  have z2 := node_col fz
  have TT := hid T1.tree
  have KK := hid K1
  clear T1 K1 hw1 L fz
  go_wp2_with (fail)
  refine (nodeColor_node (c := false) (by first | exact z2 | (rw [World.cell?_setCell_other _ _ _ _ (by simp), World.cell?_setCell_other _ _ _ _ (by simp)]; exact z2))).mono ?_
  rintro e w3 ⟨rfl, rfl⟩
  go_wp2_with (fail)
  have hrbt : (cx.plug (.node x true (.node z false .nil zk zv .nil) k v .nil)).RBT := H.out.rb
  have hlk := look_hit_plug H.out.srt HE.out
  have hdl := del_hit_plug H.out.srt HE.out
  have hents : (cx.plug (.node x true (.node z false .nil zk zv .nil) k v .nil)).ids = (cx.plug (.node x true (.node z false .nil zk zv .nil) k v .nil)).ids := rfl
  obtain ⟨hh, hr1, hr2, hr3⟩ := RBT_plug _ _ hrbt
  have hh1 : hh = 1 := by
    cases hh with
    | zero => exact (RB_zero _ _ _ _ _ hr1).elim
    | succ hh =>
      rw [RB_black] at hr1
      have := (RB_nil _).1 hr1.2
      omega
  subst hh1
  refine (deleteCase1_any tb _ _ _ x false _ _ _ _ 0 _ (TT.out.setCol false) hr2).mono ?_
  rintro e w4 ⟨rfl, cx', ht', hb, ha, hok', hpb, hk4⟩
  obtain ⟨hc1, hc2, hc3, hxz, hxc, hzc, hzt, hz1⟩ := cut_some (z := z) (zc := false) (zl := .nil) (zr := .nil) (zk := zk) (zv := zv) ht' (.inr ⟨rfl, rfl⟩)
  have C := hid (replaceNode_some ht'.hole ht'.node hxc hz1 hzc hzt (fun e => hxz e.symm))
  have hi' : (cx'.plug (.node x false (.node z false .nil zk zv .nil) k v .nil)).ids = (cx.plug (.node x true (.node z false .nil zk zv .nil) k v .nil)).ids := by rw [← hents] <;> simp [ids_plug, ids_node, hb, ha]
  have KW := hid (((KK.out.setCell ⟨x, 2, none⟩ (fun _ => by rw [← (own_congr hents)]; exact own_plug) (.bool false)).trans (by rw [own_congr (show (cx.plug (.node x false (.node z false .nil zk zv .nil) k v .nil)).ids = (cx.plug (.node x true (.node z false .nil zk zv .nil) k v .nil)).ids from (by rw [← hents] <;> simp [ids_plug, ids_node]))] at hk4; exact hk4)).trans (by rw [← own_congr hi']; exact hc2))
  have HLQ := hid (show ∀ cc, (cx'.plug (.node z cc .nil zk zv .nil)).toList = del (ordf kind m) key (cx.plug (.node x true (.node z false .nil zk zv .nil) k v .nil)).toList from fun cc => by
      rw [hdl, plug_toList]
      simp [Cx.bl, Cx.al, hb, ha, T.toList, T.ents])
  have HIQ := hid (show ∀ cc, ∀ i ∈ (cx'.plug (.node z cc .nil zk zv .nil)).ids, i ∈ (cx.plug (.node x true (.node z false .nil zk zv .nil) k v .nil)).ids from fun cc => fun i hi => by
      rw [← hents]
      simp only [ids_plug, hb, ha, ids_node, ids_nil, List.mem_append, List.mem_cons, List.not_mem_nil, or_false, false_or] at hi ⊢
      rcases hi with (hi | hi) | hi <;> simp [hi])
  have HC1 := hid hc1
  have HC3 := hid hc3
  have HLK := hid hlk
  have HOK := hid (And.intro hok' hpb)
  have HZT := hid hzt
  clear hc1 hc2 hc3 hr1 hr2 hr3 hrbt hlk hents ht' hok' ha hb hpb hk4 hi' hzc hxc hzt hz1 hxz hdl
  go_wp2_with (fail)
  refine C.out.mono ?_
  rintro e w5 ⟨rfl, hw5⟩
  have hc1 := HC1.out
  have hc3 := HC3.out
  rw [hw5] at hc1 hc3 KW
  have n5 := node_par hc3
  have zq := node_col hc1.node
  have lq := node_plain hc1.node
  have e1 := tree_size hc1.head
  have le := tree_plain hc1.head
  obtain ⟨N, hN, hb⟩ : ∃ N : Nat, (cx.plug (.node x true (.node z false .nil zk zv .nil) k v .nil)).ents.length = N ∧ N ≤ 1000000 := ⟨_, rfl, HL.out⟩
  have hb0 : (0 : Int) ≤ N := by omega
  cases cx' with
  | top =>
    have n5' : w5.cell? ⟨x, 5, none⟩ = some (.pointer none) := n5
    have hc6 := hc1.setCol true
    have hrb2 : (Cx.top.plug (.node z true .nil zk zv .nil)).RBT := ⟨rfl, 1, (RB_black _ _ _ _ _ _).2 ⟨rfl, rfl⟩⟩
    have PD := hid (rem_done H.out HLK.out hc6 hrb2 (HLQ.out true) (HIQ.out true) (KW.out.setCell ⟨z, 2, none⟩ (fun _ => .inr (HIQ.out true z (by rw [mem_ids_plug, ids_node]; simp))) (.bool true)))
    rw [hN] at e1 PD
    have nzt : ¬ z = tb := HZT.out
    have ntz : ¬ tb = z := fun e => HZT.out e.symm
    clear n5 hc1 hc3 hc6 hrb2 hN hw5
    go_wp2_with (fail)
    go_end0
    exact PD.out
  | left up g gc gk gv gs =>
    have n5' : w5.cell? ⟨x, 5, none⟩ = some (.pointer (some ⟨g, 0, none⟩)) := n5
    have hrb2 := plug_RBT _ (.node z false .nil zk zv .nil) 0 ((RB_red _ _ _ _ _ _).2 ⟨rfl, rfl, rfl, rfl⟩) HOK.out.1 (.inr HOK.out.2)
    have PD := hid (rem_done H.out HLK.out hc1 hrb2 (HLQ.out false) (HIQ.out false) KW.out)
    rw [hN] at e1 PD
    clear n5 hc1 hc3 hrb2 hN hw5
    go_wp2_with (fail)
    go_end0
    exact PD.out
  | right up g gc gs gk gv =>
    have n5' : w5.cell? ⟨x, 5, none⟩ = some (.pointer (some ⟨g, 0, none⟩)) := n5
    have hrb2 := plug_RBT _ (.node z false .nil zk zv .nil) 0 ((RB_red _ _ _ _ _ _).2 ⟨rfl, rfl, rfl, rfl⟩) HOK.out.1 (.inr HOK.out.2)
    have PD := hid (rem_done H.out HLK.out hc1 hrb2 (HLQ.out false) (HIQ.out false) KW.out)
    rw [hN] at e1 PD
    clear n5 hc1 hc3 hrb2 hN hw5
    go_wp2_with (fail)
    go_end0
    exact PD.out

set_option maxRecDepth 100000 in
set_option maxHeartbeats 4000000 in
theorem remove_two_red {q p y z : Nat} {qc pc : Bool} {ql qr pl pr : T} {qk qv pk pv yk yv zk zv : Int} {rp : List (Nat × Bool × T × Int × Int)} (h : Tm w tb ob kind m (cx.plug (.node x c (.node q qc ql qk qv qr) k v (.node p pc pl pk pv pr)))) (he : ordf kind m k = ordf kind m key) (hlen : (cx.plug (.node x c (.node q qc ql qk qv qr) k v (.node p pc pl pk pv pr))).ents.length ≤ 1000000)
    (hm : MaxAt (.node q qc ql qk qv qr) rp (.node y false .nil yk yv .nil)) (hmax : ∀ w1, Tm w1 tb ob kind m (cx.plug (.node x c (.node q qc ql qk qv qr) k v (.node p pc pl pk pv pr))) → Calls Try.prog 127 #[.pointer (some ⟨q, 0, none⟩)] w1 fun e w' => e = .returned (.pointer (some ⟨y, 0, none⟩)) ∧ w1 = w') :
    Calls Try.prog 111 #[.pointer (some ⟨tb, 0, none⟩), .iface 3 (.int .i64 key)] w (RemPost tb ob kind m (cx.plug (.node x c (.node q qc ql qk qv qr) k v (.node p pc pl pk pv pr))) key w) := by
  have L := hid (lookup_found h he)
  have H := hid h
  have HE := hid he
  have HL := hid hlen
  have HM := hid hm
  have HX := hid hmax
  clear h he hlen hm hmax
  go_enter Try.func111, Try.ntmps111
  go_wp2_with (fail)
  refine L.out.mono ?_
  rintro e w1 ⟨rfl, a, hw1⟩
  have T1 : Tm w1 tb ob kind m (cx.plug (.node x c (.node q qc ql qk qv qr) k v (.node p pc pl pk pv pr))) := by rw [hw1]; exact H.out.drewN a
  have K1 : Keep (Own tb (cx.plug (.node x c (.node q qc ql qk qv qr) k v (.node p pc pl pk pv pr)))) w w1 := by rw [hw1]; exact (Keep.refl _ _).drewN a
  have x0 := node_key T1.tree.node
  have x1 := node_val T1.tree.node
  have x3 : w1.cell? ⟨x, 3, none⟩ = some (.pointer (some ⟨q, 0, none⟩)) := node_left T1.tree.node
  have x4 : w1.cell? ⟨x, 4, none⟩ = some (.pointer (some ⟨p, 0, none⟩)) := node_right T1.tree.node
  have lx := node_plain T1.tree.node
  have TY : TreeIn w1 tb (cx.plug (.node x c (.node q qc ql qk qv qr) k v (.node p pc pl pk pv pr))).ents.length (cmpV ob) (((Cx.left cx x c k v (.node p pc pl pk pv pr)).rights rp).plug (.node y false .nil yk yv .nil)) := by
    have e := HM.out.eq (Cx.left cx x c k v (.node p pc pl pk pv pr))
    rw [← e]; exact T1.tree
  have y0 := node_key TY.node
  have y1 := node_val TY.node
  have y2 := node_col TY.node
  have y3 : w1.cell? ⟨y, 3, none⟩ = some (.pointer none) := node_left TY.node
  have y4 : w1.cell? ⟨y, 4, none⟩ = some (.pointer none) := node_right TY.node
  have ly := node_plain TY.node
  have yl : y ∈ T.ids (.node q qc ql qk qv qr) := by
    have e := congrArg T.ids (HM.out.eq Cx.top)
    rw [show (Cx.top.plug (.node q qc ql qk qv qr)) = (.node q qc ql qk qv qr) from rfl] at e
    rw [e, mem_ids_plug, ids_node]; simp
  have nxy : ¬ x = y := by
    have hn := T1.tree.nodup
    rw [nodup_plug, ids_node, List.nodup_append] at hn
    exact fun e => hn.2.1.2.2 y yl x (by simp) e.symm
  have nyx : ¬ y = x := fun e => nxy e.symm
  have X1 := hid (HX.out w1 T1)
  have T2 : TreeIn ((w1.setCell ⟨x, 0, none⟩ (.iface 3 (.int .i64 yk))).setCell ⟨x, 1, none⟩ (.iface 3 (.int .i64 yv))) tb (cx.plug (.node x c (.node q qc ql qk qv qr) k v (.node p pc pl pk pv pr))).ents.length (cmpV ob) (((Cx.left cx x c yk yv (.node p pc pl pk pv pr)).rights rp).plug (.node y false .nil yk yv .nil)) := by
    have e := HM.out.eq (Cx.left cx x c yk yv (.node p pc pl pk pv pr))
    rw [← e]
    exact (T1.tree.setKey yk).setVal yv
  have K2 : Keep (Own tb (cx.plug (.node x c (.node q qc ql qk qv qr) k v (.node p pc pl pk pv pr)))) w ((w1.setCell ⟨x, 0, none⟩ (.iface 3 (.int .i64 yk))).setCell ⟨x, 1, none⟩ (.iface 3 (.int .i64 yv))) := (K1.setCell ⟨x, 0, none⟩ (fun _ => own_plug) _).setCell ⟨x, 1, none⟩ (fun _ => own_plug) _
  have TT := hid T2
  have KK := hid K2
  clear T1 K1 hw1 L TY T2 K2 HX yl
  go_wp2_with (fail)
  refine X1.out.mono ?_
  rintro e w2 ⟨rfl, rfl⟩
  go_wp2_with (fail)
  have hrbt : (((Cx.left cx x c yk yv (.node p pc pl pk pv pr)).rights rp).plug (.node y false .nil yk yv .nil)).RBT := by
    have e := HM.out.eq (Cx.left cx x c yk yv (.node p pc pl pk pv pr))
    rw [← e]
    exact rb_kv cx yk yv H.out.rb
  have hlk := look_hit_plug H.out.srt HE.out
  have hdl0 := del_hit_plug H.out.srt HE.out
  have hme := congrArg T.ents (HM.out.eq (Cx.left cx x c yk yv (.node p pc pl pk pv pr)))
  have hents : (((Cx.left cx x c yk yv (.node p pc pl pk pv pr)).rights rp).plug (.node y false .nil yk yv .nil)).ids = (cx.plug (.node x c (.node q qc ql qk qv qr) k v (.node p pc pl pk pv pr))).ids := by unfold T.ids; rw [← hme]; simp [plug_ents, T.ents, Cx.bents, Cx.aents]
  obtain ⟨hh, hr1, hr2, hr3⟩ := RBT_plug _ _ hrbt
  rw [RB_red] at hr1
  have hh0 : hh = 0 := (RB_nil _).1 hr1.2.2.1
  subst hh0
  obtain ⟨hc1, hc2, hc3⟩ := cut_nil TT.out
  have hrb2 := plug_RBT _ .nil 0 ((RB_nil _).2 rfl) hr2 (.inl rfl)
  have C := hid (replaceNode_nil TT.out.hole TT.out.node (by have hn := TT.out.nodup; rw [nodup_plug] at hn; intro e; exact hn.2.2 _ e (by rw [ids_node]; simp)))
  have PD := hid (rem_done H.out hlk hc1 hrb2 (hdl0.symm ▸ rem_two_list (x := x) (YL := .nil) (rem_key HM.out) rfl ((rights_aents _ _)) rfl) (fun i hi => by
      rw [← hents]
      simp only [ids_plug, ids_node, ids_nil, List.mem_append, List.mem_cons, List.not_mem_nil, or_false, false_or] at hi ⊢
      rcases hi with hi | hi <;> simp [hi]) ((KK.out.trans (by rw [← (own_congr hents)]; exact hc2))))
  refine C.out.mono ?_
  rintro e w5 ⟨rfl, hw5⟩
  rw [hw5] at hc1 hc3 PD
  obtain ⟨g, hg⟩ : ∃ g, ((Cx.left cx x c yk yv (.node p pc pl pk pv pr)).rights rp).par = some g := by
    have hred : ((Cx.left cx x c yk yv (.node p pc pl pk pv pr)).rights rp).redOk = true := by simpa [T.black] using hr3
    cases hcx : ((Cx.left cx x c yk yv (.node p pc pl pk pv pr)).rights rp) with
    | top => rw [hcx] at hred; cases hred
    | left up g _ _ _ _ => exact ⟨g, rfl⟩
    | right up g _ _ _ _ => exact ⟨g, rfl⟩
  have n5 : w5.cell? ⟨y, 5, none⟩ = some (.pointer (some ⟨g, 0, none⟩)) := by have := node_par hc3; rw [hg] at this; exact this
  have e1 := tree_size hc1.head
  have le := tree_plain hc1.head
  obtain ⟨N, hN, hb⟩ : ∃ N : Nat, (cx.plug (.node x c (.node q qc ql qk qv qr) k v (.node p pc pl pk pv pr))).ents.length = N ∧ N ≤ 1000000 := ⟨_, rfl, HL.out⟩
  rw [hN] at e1 PD
  have hb0 : (0 : Int) ≤ N := by omega
  clear hc1 hc2 hc3 hrb2 hr1 hr2 hr3 hrbt hlk hents hN hw5 hg hdl0 hme
  go_wp2_with (fail)
  go_end0
  exact PD.out

set_option maxRecDepth 100000 in
set_option maxHeartbeats 4000000 in
theorem remove_two_black {q p y z : Nat} {qc pc : Bool} {ql qr pl pr : T} {qk qv pk pv yk yv zk zv : Int} {rp : List (Nat × Bool × T × Int × Int)} (h : Tm w tb ob kind m (cx.plug (.node x c (.node q qc ql qk qv qr) k v (.node p pc pl pk pv pr)))) (he : ordf kind m k = ordf kind m key) (hlen : (cx.plug (.node x c (.node q qc ql qk qv qr) k v (.node p pc pl pk pv pr))).ents.length ≤ 1000000)
    (hm : MaxAt (.node q qc ql qk qv qr) rp (.node y true .nil yk yv .nil)) (hmax : ∀ w1, Tm w1 tb ob kind m (cx.plug (.node x c (.node q qc ql qk qv qr) k v (.node p pc pl pk pv pr))) → Calls Try.prog 127 #[.pointer (some ⟨q, 0, none⟩)] w1 fun e w' => e = .returned (.pointer (some ⟨y, 0, none⟩)) ∧ w1 = w') :
    Calls Try.prog 111 #[.pointer (some ⟨tb, 0, none⟩), .iface 3 (.int .i64 key)] w (RemPost tb ob kind m (cx.plug (.node x c (.node q qc ql qk qv qr) k v (.node p pc pl pk pv pr))) key w) := by
  have L := hid (lookup_found h he)
  have H := hid h
  have HE := hid he
  have HL := hid hlen
  have HM := hid hm
  have HX := hid hmax
  clear h he hlen hm hmax
  go_enter Try.func111, Try.ntmps111
  go_wp2_with (fail)
  refine L.out.mono ?_
  rintro e w1 ⟨rfl, a, hw1⟩
  have T1 : Tm w1 tb ob kind m (cx.plug (.node x c (.node q qc ql qk qv qr) k v (.node p pc pl pk pv pr))) := by rw [hw1]; exact H.out.drewN a
  have K1 : Keep (Own tb (cx.plug (.node x c (.node q qc ql qk qv qr) k v (.node p pc pl pk pv pr)))) w w1 := by rw [hw1]; exact (Keep.refl _ _).drewN a
  have x0 := node_key T1.tree.node
  have x1 := node_val T1.tree.node
  have x3 : w1.cell? ⟨x, 3, none⟩ = some (.pointer (some ⟨q, 0, none⟩)) := node_left T1.tree.node
  have x4 : w1.cell? ⟨x, 4, none⟩ = some (.pointer (some ⟨p, 0, none⟩)) := node_right T1.tree.node
  have lx := node_plain T1.tree.node
  have TY : TreeIn w1 tb (cx.plug (.node x c (.node q qc ql qk qv qr) k v (.node p pc pl pk pv pr))).ents.length (cmpV ob) (((Cx.left cx x c k v (.node p pc pl pk pv pr)).rights rp).plug (.node y true .nil yk yv .nil)) := by
    have e := HM.out.eq (Cx.left cx x c k v (.node p pc pl pk pv pr))
    rw [← e]; exact T1.tree
  have y0 := node_key TY.node
  have y1 := node_val TY.node
  have y2 := node_col TY.node
  have y3 : w1.cell? ⟨y, 3, none⟩ = some (.pointer none) := node_left TY.node
  have y4 : w1.cell? ⟨y, 4, none⟩ = some (.pointer none) := node_right TY.node
  have ly := node_plain TY.node
  have yl : y ∈ T.ids (.node q qc ql qk qv qr) := by
    have e := congrArg T.ids (HM.out.eq Cx.top)
    rw [show (Cx.top.plug (.node q qc ql qk qv qr)) = (.node q qc ql qk qv qr) from rfl] at e
    rw [e, mem_ids_plug, ids_node]; simp
  have nxy : ¬ x = y := by
    have hn := T1.tree.nodup
    rw [nodup_plug, ids_node, List.nodup_append] at hn
    exact fun e => hn.2.1.2.2 y yl x (by simp) e.symm
  have nyx : ¬ y = x := fun e => nxy e.symm
  have X1 := hid (HX.out w1 T1)
  have T2 : TreeIn ((w1.setCell ⟨x, 0, none⟩ (.iface 3 (.int .i64 yk))).setCell ⟨x, 1, none⟩ (.iface 3 (.int .i64 yv))) tb (cx.plug (.node x c (.node q qc ql qk qv qr) k v (.node p pc pl pk pv pr))).ents.length (cmpV ob) (((Cx.left cx x c yk yv (.node p pc pl pk pv pr)).rights rp).plug (.node y true .nil yk yv .nil)) := by
    have e := HM.out.eq (Cx.left cx x c yk yv (.node p pc pl pk pv pr))
    rw [← e]
    exact (T1.tree.setKey yk).setVal yv
  have K2 : Keep (Own tb (cx.plug (.node x c (.node q qc ql qk qv qr) k v (.node p pc pl pk pv pr)))) w ((w1.setCell ⟨x, 0, none⟩ (.iface 3 (.int .i64 yk))).setCell ⟨x, 1, none⟩ (.iface 3 (.int .i64 yv))) := (K1.setCell ⟨x, 0, none⟩ (fun _ => own_plug) _).setCell ⟨x, 1, none⟩ (fun _ => own_plug) _
  have TT := hid T2
  have KK := hid K2
  clear T1 K1 hw1 L TY T2 K2 HX yl
  go_wp2_with (fail)
  refine X1.out.mono ?_
  rintro e w2 ⟨rfl, rfl⟩
  go_wp2_with (fail)
  refine (nodeColor_nil _).mono ?_
  rintro e w3 ⟨rfl, rfl⟩
  go_wp2_with (fail)
  have hrbt : (((Cx.left cx x c yk yv (.node p pc pl pk pv pr)).rights rp).plug (.node y true .nil yk yv .nil)).RBT := by
    have e := HM.out.eq (Cx.left cx x c yk yv (.node p pc pl pk pv pr))
    rw [← e]
    exact rb_kv cx yk yv H.out.rb
  have hlk := look_hit_plug H.out.srt HE.out
  have hdl0 := del_hit_plug H.out.srt HE.out
  have hme := congrArg T.ents (HM.out.eq (Cx.left cx x c yk yv (.node p pc pl pk pv pr)))
  have hents : (((Cx.left cx x c yk yv (.node p pc pl pk pv pr)).rights rp).plug (.node y true .nil yk yv .nil)).ids = (cx.plug (.node x c (.node q qc ql qk qv qr) k v (.node p pc pl pk pv pr))).ids := by unfold T.ids; rw [← hme]; simp [plug_ents, T.ents, Cx.bents, Cx.aents]
  obtain ⟨hh, hr1, hr2, hr3⟩ := RBT_plug _ _ hrbt
  have hh1 : hh = 1 := by
    cases hh with
    | zero => exact (RB_zero _ _ _ _ _ hr1).elim
    | succ hh =>
      rw [RB_black] at hr1
      have := (RB_nil _).1 hr1.2
      omega
  subst hh1
  refine (deleteCase1_any tb _ _ _ y true _ _ _ _ 0 _ (TT.out.setCol true) hr2).mono ?_
  rintro e w4 ⟨rfl, cx', ht', hb, ha, hok', hpb, hk4⟩
  obtain ⟨hc1, hc2, hc3⟩ := cut_nil ht'
  have hrb2 := plug_RBT cx' .nil 0 ((RB_nil _).2 rfl) hok' (.inl rfl)
  have C := hid (replaceNode_nil ht'.hole ht'.node (by have hn := ht'.nodup; rw [nodup_plug] at hn; intro e; exact hn.2.2 _ e (by rw [ids_node]; simp)))
  have hi' : (cx'.plug (.node y true .nil yk yv .nil)).ids = (cx.plug (.node x c (.node q qc ql qk qv qr) k v (.node p pc pl pk pv pr))).ids := by rw [← hents] <;> simp [ids_plug, ids_node, hb, ha]
  have PD := hid (rem_done H.out hlk hc1 hrb2 (hdl0.symm ▸ rem_two_list (x := x) (YL := .nil) (rem_key HM.out) hb (ha.trans (rights_aents _ _)) rfl) (fun i hi => by
      rw [← hents]
      simp only [ids_plug, hb, ha, ids_node, ids_nil, List.mem_append, List.mem_cons, List.not_mem_nil, or_false, false_or] at hi ⊢
      rcases hi with hi | hi <;> simp [hi]) (((KK.out.setCell ⟨y, 2, none⟩ (fun _ => by rw [← (own_congr hents)]; exact own_plug) (.bool true)).trans (by rw [own_congr (show (((Cx.left cx x c yk yv (.node p pc pl pk pv pr)).rights rp).plug (.node y true .nil yk yv .nil)).ids = (cx.plug (.node x c (.node q qc ql qk qv qr) k v (.node p pc pl pk pv pr))).ids from (by rw [← hents] <;> simp [ids_plug, ids_node]))] at hk4; exact hk4)).trans (by rw [← own_congr hi']; exact hc2)))
  have HC1 := hid hc1
  have HC3 := hid hc3
  clear hc1 hc2 hc3 hrb2 hr1 hr2 hr3 hrbt hlk hents ht' hok' ha hb hpb hk4 hi' hdl0 hme
  go_wp2_with (fail)
  refine C.out.mono ?_
  rintro e w5 ⟨rfl, hw5⟩
  have hc1 := HC1.out
  have hc3 := HC3.out
  rw [hw5] at hc1 hc3 PD
  have n5 := node_par hc3
  have e1 := tree_size hc1.head
  have le := tree_plain hc1.head
  obtain ⟨N, hN, hb⟩ : ∃ N : Nat, (cx.plug (.node x c (.node q qc ql qk qv qr) k v (.node p pc pl pk pv pr))).ents.length = N ∧ N ≤ 1000000 := ⟨_, rfl, HL.out⟩
  rw [hN] at e1 PD
  have hb0 : (0 : Int) ≤ N := by omega
  cases hpar : cx'.par with
  | none =>
    rw [hpar] at n5
    have n5' : w5.cell? ⟨y, 5, none⟩ = some (.pointer none) := n5
    clear n5 hc1 hc3 hN hw5 hpar
    go_wp2_with (fail)
    go_end0
    exact PD.out
  | some g =>
    rw [hpar] at n5
    have n5' : w5.cell? ⟨y, 5, none⟩ = some (.pointer (some ⟨g, 0, none⟩)) := n5
    clear n5 hc1 hc3 hN hw5 hpar
    go_wp2_with (fail)
    go_end0
    exact PD.out

set_option maxRecDepth 100000 in
set_option maxHeartbeats 4000000 in
theorem remove_two_black_l {q p y z : Nat} {qc pc : Bool} {ql qr pl pr : T} {qk qv pk pv yk yv zk zv : Int} {rp : List (Nat × Bool × T × Int × Int)} (h : Tm w tb ob kind m (cx.plug (.node x c (.node q qc ql qk qv qr) k v (.node p pc pl pk pv pr)))) (he : ordf kind m k = ordf kind m key) (hlen : (cx.plug (.node x c (.node q qc ql qk qv qr) k v (.node p pc pl pk pv pr))).ents.length ≤ 1000000)
    (hm : MaxAt (.node q qc ql qk qv qr) rp (.node y true (.node z false .nil zk zv .nil) yk yv .nil)) (hmax : ∀ w1, Tm w1 tb ob kind m (cx.plug (.node x c (.node q qc ql qk qv qr) k v (.node p pc pl pk pv pr))) → Calls Try.prog 127 #[.pointer (some ⟨q, 0, none⟩)] w1 fun e w' => e = .returned (.pointer (some ⟨y, 0, none⟩)) ∧ w1 = w') :
    Calls Try.prog 111 #[.pointer (some ⟨tb, 0, none⟩), .iface 3 (.int .i64 key)] w (RemPost tb ob kind m (cx.plug (.node x c (.node q qc ql qk qv qr) k v (.node p pc pl pk pv pr))) key w) := by
  have L := hid (lookup_found h he)
  have H := hid h
  have HE := hid he
  have HL := hid hlen
  have HM := hid hm
  have HX := hid hmax
  clear h he hlen hm hmax
  go_enter Try.func111, Try.ntmps111
  go_wp2_with (fail)
  refine L.out.mono ?_
  rintro e w1 ⟨rfl, a, hw1⟩
  have T1 : Tm w1 tb ob kind m (cx.plug (.node x c (.node q qc ql qk qv qr) k v (.node p pc pl pk pv pr))) := by rw [hw1]; exact H.out.drewN a
  have K1 : Keep (Own tb (cx.plug (.node x c (.node q qc ql qk qv qr) k v (.node p pc pl pk pv pr)))) w w1 := by rw [hw1]; exact (Keep.refl _ _).drewN a
  have x0 := node_key T1.tree.node
  have x1 := node_val T1.tree.node
  have x3 : w1.cell? ⟨x, 3, none⟩ = some (.pointer (some ⟨q, 0, none⟩)) := node_left T1.tree.node
  have x4 : w1.cell? ⟨x, 4, none⟩ = some (.pointer (some ⟨p, 0, none⟩)) := node_right T1.tree.node
  have lx := node_plain T1.tree.node
  have TY : TreeIn w1 tb (cx.plug (.node x c (.node q qc ql qk qv qr) k v (.node p pc pl pk pv pr))).ents.length (cmpV ob) (((Cx.left cx x c k v (.node p pc pl pk pv pr)).rights rp).plug (.node y true (.node z false .nil zk zv .nil) yk yv .nil)) := by
    have e := HM.out.eq (Cx.left cx x c k v (.node p pc pl pk pv pr))
    rw [← e]; exact T1.tree
  have y0 := node_key TY.node
  have y1 := node_val TY.node
  have y2 := node_col TY.node
  have y3 : w1.cell? ⟨y, 3, none⟩ = some (.pointer (some ⟨z, 0, none⟩)) := node_left TY.node
  have y4 : w1.cell? ⟨y, 4, none⟩ = some (.pointer none) := node_right TY.node
  have ly := node_plain TY.node
  have yl : y ∈ T.ids (.node q qc ql qk qv qr) := by
    have e := congrArg T.ids (HM.out.eq Cx.top)
    rw [show (Cx.top.plug (.node q qc ql qk qv qr)) = (.node q qc ql qk qv qr) from rfl] at e
    rw [e, mem_ids_plug, ids_node]; simp
  have nxy : ¬ x = y := by
    have hn := T1.tree.nodup
    rw [nodup_plug, ids_node, List.nodup_append] at hn
    exact fun e => hn.2.1.2.2 y yl x (by simp) e.symm
  have nyx : ¬ y = x := fun e => nxy e.symm
  have fz : w1.heap[z]? = some (nodeObj zk zv false none none (some y)) := TY.sub.2.1.1
  have z2 := node_col fz
  have X1 := hid (HX.out w1 T1)
  have T2 : TreeIn ((w1.setCell ⟨x, 0, none⟩ (.iface 3 (.int .i64 yk))).setCell ⟨x, 1, none⟩ (.iface 3 (.int .i64 yv))) tb (cx.plug (.node x c (.node q qc ql qk qv qr) k v (.node p pc pl pk pv pr))).ents.length (cmpV ob) (((Cx.left cx x c yk yv (.node p pc pl pk pv pr)).rights rp).plug (.node y true (.node z false .nil zk zv .nil) yk yv .nil)) := by
    have e := HM.out.eq (Cx.left cx x c yk yv (.node p pc pl pk pv pr))
    rw [← e]
    exact (T1.tree.setKey yk).setVal yv
  have K2 : Keep (Own tb (cx.plug (.node x c (.node q qc ql qk qv qr) k v (.node p pc pl pk pv pr)))) w ((w1.setCell ⟨x, 0, none⟩ (.iface 3 (.int .i64 yk))).setCell ⟨x, 1, none⟩ (.iface 3 (.int .i64 yv))) := (K1.setCell ⟨x, 0, none⟩ (fun _ => own_plug) _).setCell ⟨x, 1, none⟩ (fun _ => own_plug) _
  have TT := hid T2
  have KK := hid K2
  clear T1 K1 hw1 L TY T2 K2 HX yl fz
  go_wp2_with (fail)
  refine X1.out.mono ?_
  rintro e w2 ⟨rfl, rfl⟩
  go_wp2_with (fail)
  refine (nodeColor_node (c := false) (by first | exact z2 | (rw [World.cell?_setCell_other _ _ _ _ (by simp), World.cell?_setCell_other _ _ _ _ (by simp)]; exact z2))).mono ?_
  rintro e w3 ⟨rfl, rfl⟩
  go_wp2_with (fail)
  have hrbt : (((Cx.left cx x c yk yv (.node p pc pl pk pv pr)).rights rp).plug (.node y true (.node z false .nil zk zv .nil) yk yv .nil)).RBT := by
    have e := HM.out.eq (Cx.left cx x c yk yv (.node p pc pl pk pv pr))
    rw [← e]
    exact rb_kv cx yk yv H.out.rb
  have hlk := look_hit_plug H.out.srt HE.out
  have hdl0 := del_hit_plug H.out.srt HE.out
  have hme := congrArg T.ents (HM.out.eq (Cx.left cx x c yk yv (.node p pc pl pk pv pr)))
  have hents : (((Cx.left cx x c yk yv (.node p pc pl pk pv pr)).rights rp).plug (.node y true (.node z false .nil zk zv .nil) yk yv .nil)).ids = (cx.plug (.node x c (.node q qc ql qk qv qr) k v (.node p pc pl pk pv pr))).ids := by unfold T.ids; rw [← hme]; simp [plug_ents, T.ents, Cx.bents, Cx.aents]
  obtain ⟨hh, hr1, hr2, hr3⟩ := RBT_plug _ _ hrbt
  have hh1 : hh = 1 := by
    cases hh with
    | zero => exact (RB_zero _ _ _ _ _ hr1).elim
    | succ hh =>
      rw [RB_black] at hr1
      have := (RB_nil _).1 hr1.2
      omega
  subst hh1
  refine (deleteCase1_any tb _ _ _ y false _ _ _ _ 0 _ (TT.out.setCol false) hr2).mono ?_
  rintro e w4 ⟨rfl, cx', ht', hb, ha, hok', hpb, hk4⟩
  obtain ⟨hc1, hc2, hc3, hxz, hxc, hzc, hzt, hz1⟩ := cut_some (z := z) (zc := false) (zl := .nil) (zr := .nil) (zk := zk) (zv := zv) ht' (.inr ⟨rfl, rfl⟩)
  have C := hid (replaceNode_some ht'.hole ht'.node hxc hz1 hzc hzt (fun e => hxz e.symm))
  have hi' : (cx'.plug (.node y false (.node z false .nil zk zv .nil) yk yv .nil)).ids = (cx.plug (.node x c (.node q qc ql qk qv qr) k v (.node p pc pl pk pv pr))).ids := by rw [← hents] <;> simp [ids_plug, ids_node, hb, ha]
  have KW := hid (((KK.out.setCell ⟨y, 2, none⟩ (fun _ => by rw [← (own_congr hents)]; exact own_plug) (.bool false)).trans (by rw [own_congr (show (((Cx.left cx x c yk yv (.node p pc pl pk pv pr)).rights rp).plug (.node y false (.node z false .nil zk zv .nil) yk yv .nil)).ids = (cx.plug (.node x c (.node q qc ql qk qv qr) k v (.node p pc pl pk pv pr))).ids from (by rw [← hents] <;> simp [ids_plug, ids_node]))] at hk4; exact hk4)).trans (by rw [← own_congr hi']; exact hc2))
  have HLQ := hid (show ∀ cc, (cx'.plug (.node z cc .nil zk zv .nil)).toList = del (ordf kind m) key (cx.plug (.node x c (.node q qc ql qk qv qr) k v (.node p pc pl pk pv pr))).toList from fun cc => hdl0.symm ▸ rem_two_list (x := x) (YL := (.node z false .nil zk zv .nil)) (rem_key HM.out) hb (ha.trans (rights_aents _ _)) rfl)
  have HIQ := hid (show ∀ cc, ∀ i ∈ (cx'.plug (.node z cc .nil zk zv .nil)).ids, i ∈ (cx.plug (.node x c (.node q qc ql qk qv qr) k v (.node p pc pl pk pv pr))).ids from fun cc => fun i hi => by
      rw [← hents]
      simp only [ids_plug, hb, ha, ids_node, ids_nil, List.mem_append, List.mem_cons, List.not_mem_nil, or_false, false_or] at hi ⊢
      rcases hi with (hi | hi) | hi <;> simp [hi])
  have HC1 := hid hc1
  have HC3 := hid hc3
  have HLK := hid hlk
  have HOK := hid (And.intro hok' hpb)
  have HZT := hid hzt
  clear hc1 hc2 hc3 hr1 hr2 hr3 hrbt hlk hents ht' hok' ha hb hpb hk4 hi' hzc hxc hzt hz1 hxz hdl0 hme
  go_wp2_with (fail)
  refine C.out.mono ?_
  rintro e w5 ⟨rfl, hw5⟩
  have hc1 := HC1.out
  have hc3 := HC3.out
  rw [hw5] at hc1 hc3 KW
  have n5 := node_par hc3
  have zq := node_col hc1.node
  have lq := node_plain hc1.node
  have e1 := tree_size hc1.head
  have le := tree_plain hc1.head
  obtain ⟨N, hN, hb⟩ : ∃ N : Nat, (cx.plug (.node x c (.node q qc ql qk qv qr) k v (.node p pc pl pk pv pr))).ents.length = N ∧ N ≤ 1000000 := ⟨_, rfl, HL.out⟩
  have hb0 : (0 : Int) ≤ N := by omega
  cases cx' with
  | top =>
    have n5' : w5.cell? ⟨y, 5, none⟩ = some (.pointer none) := n5
    have hc6 := hc1.setCol true
    have hrb2 : (Cx.top.plug (.node z true .nil zk zv .nil)).RBT := ⟨rfl, 1, (RB_black _ _ _ _ _ _).2 ⟨rfl, rfl⟩⟩
    have PD := hid (rem_done H.out HLK.out hc6 hrb2 (HLQ.out true) (HIQ.out true) (KW.out.setCell ⟨z, 2, none⟩ (fun _ => .inr (HIQ.out true z (by rw [mem_ids_plug, ids_node]; simp))) (.bool true)))
    rw [hN] at e1 PD
    have nzt : ¬ z = tb := HZT.out
    have ntz : ¬ tb = z := fun e => HZT.out e.symm
    clear n5 hc1 hc3 hc6 hrb2 hN hw5
    go_wp2_with (fail)
    go_end0
    exact PD.out
  | left up g gc gk gv gs =>
    have n5' : w5.cell? ⟨y, 5, none⟩ = some (.pointer (some ⟨g, 0, none⟩)) := n5
    have hrb2 := plug_RBT _ (.node z false .nil zk zv .nil) 0 ((RB_red _ _ _ _ _ _).2 ⟨rfl, rfl, rfl, rfl⟩) HOK.out.1 (.inr HOK.out.2)
    have PD := hid (rem_done H.out HLK.out hc1 hrb2 (HLQ.out false) (HIQ.out false) KW.out)
    rw [hN] at e1 PD
    clear n5 hc1 hc3 hrb2 hN hw5
    go_wp2_with (fail)
    go_end0
    exact PD.out
  | right up g gc gs gk gv =>
    have n5' : w5.cell? ⟨y, 5, none⟩ = some (.pointer (some ⟨g, 0, none⟩)) := n5
    have hrb2 := plug_RBT _ (.node z false .nil zk zv .nil) 0 ((RB_red _ _ _ _ _ _).2 ⟨rfl, rfl, rfl, rfl⟩) HOK.out.1 (.inr HOK.out.2)
    have PD := hid (rem_done H.out HLK.out hc1 hrb2 (HLQ.out false) (HIQ.out false) KW.out)
    rw [hN] at e1 PD
    clear n5 hc1 hc3 hrb2 hN hw5
    go_wp2_with (fail)
    go_end0
    exact PD.out

end

theorem max_exists : ∀ (l : T) (x : Nat) (c : Bool) (k v : Int) (r : T), ∃ rp y yc yl yk yv, MaxAt (.node x c l k v r) rp (.node y yc yl yk yv .nil) := by
  intro l x c k v r
  induction r generalizing x c l k v with
  | nil => exact ⟨[], x, c, l, k, v, ⟨fun _ => rfl⟩⟩
  | node z zc zl zk zv zr _ ih =>
    obtain ⟨rp, y, yc, yl, yk, yv, h⟩ := ih zl z zc zk zv
    exact ⟨(x, c, l, k, v) :: rp, y, yc, yl, yk, yv, ⟨fun cx => by rw [show Cx.rights cx ((x, c, l, k, v) :: rp) = (Cx.right cx x c l k v).rights rp from rfl, ← h.eq]; rfl⟩⟩
theorem MaxAt.last {L : T} {rp : List (Nat × Bool × T × Int × Int)} {y : Nat} {yc : Bool} {yl : T} {yk yv : Int} (h : MaxAt L rp (.node y yc yl yk yv .nil)) : L.ents.getLast? = some (y, yk, yv) := by
  have e := congrArg T.ents (h.eq .top)
  rw [plug_ents, plug_ents, rights_aents] at e
  simp only [Cx.bents, Cx.aents, List.nil_append, List.append_nil, T.ents] at e
  rw [e, ← List.append_assoc]
  simp
theorem max_calls {w1 : World} {p : Option Nat} {q : Nat} {qc : Bool} {ql qr : T} {qk qv : Int} (hf : Fits w1 p (.node q qc ql qk qv qr)) {rp : List (Nat × Bool × T × Int × Int)} {y : Nat} {yc : Bool} {yl : T} {yk yv : Int}
    (h : MaxAt (.node q qc ql qk qv qr) rp (.node y yc yl yk yv .nil)) : Calls Try.prog 127 #[.pointer (some ⟨q, 0, none⟩)] w1 fun e w' => e = .returned (.pointer (some ⟨y, 0, none⟩)) ∧ w1 = w' := by
  refine (maximumNode_any hf).mono ?_
  rintro e w' ⟨rp2, y2, yc2, yl2, yk2, yv2, h2, rfl, hw⟩
  have := h.last.symm.trans h2.last
  simp only [Option.some.injEq, Prod.mk.injEq] at this
  exact ⟨by rw [this.1], hw⟩
theorem rb_leaf {zc : Bool} {z : Nat} {zl zr : T} {zk zv : Int} (h : (T.node z zc zl zk zv zr).RB 0) : zc = false ∧ zl = .nil ∧ zr = .nil := by
  cases zc with
  | true => exact (RB_zero _ _ _ _ _ h).elim
  | false =>
    rw [RB_red] at h
    refine ⟨rfl, ?_, ?_⟩
    · cases zl with
      | nil => rfl
      | node a ac al ak av ar =>
        have : ac = true := h.1
        subst this
        exact (RB_zero _ _ _ _ _ h.2.2.1).elim
    · cases zr with
      | nil => rfl
      | node a ac al ak av ar =>
        have : ac = true := h.2.1
        subst this
        exact (RB_zero _ _ _ _ _ h.2.2.2).elim

theorem treeRemove_any {w : World} {tb ob : Nat} {kind m : Int} {t : T} (h : Tm w tb ob kind m t) (key : Int) (hlen : t.ents.length ≤ 1000000) :
    Calls Try.prog 111 #[.pointer (some ⟨tb, 0, none⟩), .iface 3 (.int .i64 key)] w (RemPost tb ob kind m t key w) := by
  rcases look_cases t (ordf kind m) key with hn | ⟨cx, x, c, l, k, v, r, rfl, he⟩
  · exact remove_missing h hn
  · obtain ⟨hh, hr1, _, _⟩ := RBT_plug cx _ h.rb
    cases l with
    | nil =>
      cases r with
      | nil =>
        cases c with
        | false => exact remove_red (z := 0) (zk := 0) (zv := 0) h he hlen
        | true => exact remove_black (z := 0) (zk := 0) (zv := 0) h he hlen
      | node z zc zl zk zv zr =>
        cases c with
        | false =>
          rw [RB_red] at hr1
          have h0 := (RB_nil _).1 hr1.2.2.1
          subst h0
          have hz := (rb_leaf hr1.2.2.2).1
          rw [show (T.node z zc zl zk zv zr).black = zc from rfl, hz] at hr1
          exact absurd hr1.2.1 (by simp)
        | true =>
          cases hh with
          | zero => exact (RB_zero _ _ _ _ _ hr1).elim
          | succ hh =>
            rw [RB_black] at hr1
            have h0 := (RB_nil _).1 hr1.1
            subst h0
            obtain ⟨rfl, rfl, rfl⟩ := rb_leaf hr1.2
            exact remove_black_r h he hlen
    | node q qc ql qk qv qr =>
      cases r with
      | nil =>
        cases c with
        | false =>
          rw [RB_red] at hr1
          have h0 := (RB_nil _).1 hr1.2.2.2
          subst h0
          have hz := (rb_leaf hr1.2.2.1).1
          rw [show (T.node q qc ql qk qv qr).black = qc from rfl, hz] at hr1
          exact absurd hr1.1 (by simp)
        | true =>
          cases hh with
          | zero => exact (RB_zero _ _ _ _ _ hr1).elim
          | succ hh =>
            rw [RB_black] at hr1
            have h0 := (RB_nil _).1 hr1.2
            subst h0
            obtain ⟨rfl, rfl, rfl⟩ := rb_leaf hr1.1
            exact remove_black_l h he hlen
      | node p pc pl pk pv pr =>
        obtain ⟨rp, y, yc, yl, yk, yv, hm⟩ := max_exists ql q qc qk qv qr
        have hmax : ∀ w1, Tm w1 tb ob kind m (cx.plug (.node x c (.node q qc ql qk qv qr) k v (.node p pc pl pk pv pr))) → Calls Try.prog 127 #[.pointer (some ⟨q, 0, none⟩)] w1 fun e w' => e = .returned (.pointer (some ⟨y, 0, none⟩)) ∧ w1 = w' :=
          fun w1 h1 => max_calls h1.tree.sub.2.1 hm
        have hrb := h.rb
        have e := hm.eq (Cx.left cx x c k v (.node p pc pl pk pv pr))
        rw [show cx.plug (.node x c (.node q qc ql qk qv qr) k v (.node p pc pl pk pv pr)) = (Cx.left cx x c k v (.node p pc pl pk pv pr)).plug (.node q qc ql qk qv qr) from rfl, e] at hrb
        obtain ⟨h2, hy1, _, _⟩ := RBT_plug _ _ hrb
        cases yc with
        | false =>
          rw [RB_red] at hy1
          have h0 := (RB_nil _).1 hy1.2.2.2
          subst h0
          cases yl with
          | nil => exact remove_two_red (z := 0) (zk := 0) (zv := 0) h he hlen hm hmax
          | node z zc zl zk zv zr =>
            have hz := (rb_leaf hy1.2.2.1).1
            rw [show (T.node z zc zl zk zv zr).black = zc from rfl, hz] at hy1
            exact absurd hy1.1 (by simp)
        | true =>
          cases h2 with
          | zero => exact (RB_zero _ _ _ _ _ hy1).elim
          | succ h2 =>
            rw [RB_black] at hy1
            have h0 := (RB_nil _).1 hy1.2
            subst h0
            cases yl with
            | nil => exact remove_two_black (z := 0) (zk := 0) (zv := 0) h he hlen hm hmax
            | node z zc zl zk zv zr =>
              obtain ⟨rfl, rfl, rfl⟩ := rb_leaf hy1.1
              exact remove_two_black_l h he hlen hm hmax

end Go.Proofs.Ytdamfannmlncnaa
