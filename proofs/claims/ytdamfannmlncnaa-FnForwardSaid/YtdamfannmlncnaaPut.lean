/- Put, walked: the tree that it leaves holds the list with the key put in. -/
import Derived.Test.YtdamfannmlncnaaTm
namespace Go.Proofs.Ytdamfannmlncnaa
open Go.RowKit
set_option linter.unusedVariables false
set_option linter.unusedSimpArgs false

/-- What Put comes to. -/
def PutPost (tb ob : Nat) (kind m : Int) (t : T) (key val : Int) (w : World) (e : Ending) (w' : World) : Prop :=
  e = .returned (.tuple #[]) ∧ ∃ t', Tm w' tb ob kind m t' ∧ t'.toList = put (ordf kind m) key val t.toList ∧ (∀ i ∈ t'.ids, i ∈ t.ids ∨ w.heap.size ≤ i) ∧ Keep (Own tb t) w w'

/-- Behind the loop: the new node y hangs in the hole; it doesn't know its parent yet. -/
structure Hung (w wr : World) (tb ob : Nat) (kind m : Int) (t : T) (key val : Int) (cx : Cx) (y : Nat) : Prop where
  eq : t = cx.plug .nil
  btw : Between (ordf kind m) cx key
  hole : HoleIn wr tb t.ents.length (cmpV ob) cx (some y)
  node : wr.heap[y]? = some (nodeObj key val false none none none)
  keep : Keep (Own tb t) w wr
  fresh : w.heap.size ≤ y

section
variable {w wr : World} {tb ob : Nat} {kind m : Int} {t : T} {key val : Int} {cx : Cx} {y : Nat}

theorem Hung.tree (h : Hung w wr tb ob kind m t key val cx y) (ht : Tm w tb ob kind m t) :
    TreeIn (wr.setCell ⟨y, 5, none⟩ (.pointer (ad cx.par))) tb t.ents.length (cmpV ob) (cx.plug (.node y false .nil key val .nil)) := by
  have he := h.eq
  have hlt : ∀ i ∈ t.ids, i ≠ y := fun i hi e => by have := ht.tree.lt hi; have := h.fresh; omega
  have hty : tb ≠ y := fun e => by have := lt_of_heap ht.tree.head; have := h.fresh; omega
  have hcx : ∀ i ∈ cx.ids, i ≠ y := fun i hi => hlt i (by rw [he, mem_ids_plug]; exact .inl hi)
  refine TreeIn.of (h.hole.agree (set_other hty _) fun i hi => set_other (hcx i hi) _) ⟨set_par h.node cx.par, trivial, trivial⟩ ?_ ?_
  · have hn := ht.tree.nodup
    rw [he, nodup_plug] at hn
    rw [nodup_plug, ids_node]
    exact ⟨hn.1, by simp [ids_nil], fun i hi => by simp [ids_nil]; exact hcx i hi⟩
  · have hn := ht.tree.apart
    rw [he, mem_ids_plug] at hn
    rw [mem_ids_plug, ids_node]
    simp only [ids_nil, List.nil_append, List.mem_cons, List.not_mem_nil, or_false, not_or] at hn ⊢
    exact ⟨hn, hty⟩

theorem len_plug_new (cx : Cx) (y : Nat) (c : Bool) (key val : Int) : (cx.plug (.node y c .nil key val .nil)).ents.length = (cx.plug .nil).ents.length + 1 := by
  simp [plug_ents, T.ents]; omega

theorem put_done (ht : Tm w tb ob kind m t) (he : t = cx.plug .nil) (hbtw : Between (ordf kind m) cx key) (hfresh : w.heap.size ≤ y) {w0 w2 : World} {e : Ending} (k1 : Keep (Own tb t) w w0)
    (hi : InsPost tb t.ents.length (cmpV ob) (cx.plug (.node y false .nil key val .nil)) w0 e w2) :
    PutPost tb ob kind m t key val w (.returned (.tuple #[])) (w2.setCell ⟨tb, 1, none⟩ (.int .i64 ((t.ents.length : Int) + 1))) := by
  obtain ⟨_, t', ht', hrb, hents, hk⟩ := hi
  have hids : t'.ids = (cx.plug (.node y false .nil key val .nil)).ids := by unfold T.ids; rw [hents]
  have hsub : ∀ i, i ∈ t'.ids → i ∈ t.ids ∨ i = y := by
    intro i hi
    rw [hids, mem_ids_plug, ids_node] at hi
    rw [he, mem_ids_plug]
    simp only [ids_nil, List.nil_append, List.mem_cons, List.not_mem_nil, or_false] at hi
    rcases hi with hi | hi
    · exact .inl (.inl hi)
    · exact .inr hi
  have hlist : t'.toList = put (ordf kind m) key val t.toList := by
    have e1 : t'.toList = (cx.plug (.node y false .nil key val .nil)).toList := by unfold T.toList; rw [hents]
    rw [e1, he, put_nil_plug hbtw y false]
  have hK : Keep (Own tb t) w (w2.setCell ⟨tb, 1, none⟩ (.int .i64 ((t.ents.length : Int) + 1))) := by
    refine (k1.then hk fun i hlt hi => ?_).setCell ⟨tb, 1, none⟩ (fun _ => .inl rfl) _
    rcases hi with hi | hi
    · exact .inl hi
    · rw [mem_ids_plug, ids_node] at hi
      simp only [ids_nil, List.nil_append, List.mem_cons, List.not_mem_nil, or_false] at hi
      rcases hi with hi | hi
      · exact .inr (by rw [he, mem_ids_plug]; exact .inl hi)
      · exact absurd hlt (by omega)
  have hoy : ob ≠ y := fun e => by have := lt_of_heap ht.ord; omega
  have hlen : (t'.ents.length : Int) = (t.ents.length : Int) + 1 := by
    rw [hents, len_plug_new, ← he]; simp
  refine ⟨rfl, t', ⟨?_, ?_, ht.ok, by rw [hlist]; exact put_srt ht.srt, hrb, ht.ne, fun hm => ?_⟩, hlist, fun i hi => ?_, hK⟩
  · rw [hlen]; exact ht'.setSize _
  · exact hK.get ht.ord (by rintro (e | e); exact ht.ne e; exact ht.nm e)
  · rcases hsub ob hm with e | e
    · exact ht.nm e
    · exact hoy e
  · rcases hsub i hi with e | e
    · exact .inl e
    · exact .inr (by rw [e]; exact hfresh)

theorem Hung.keep5 (h : Hung w wr tb ob kind m t key val cx y) : Keep (Own tb t) w (wr.setCell ⟨y, 5, none⟩ (.pointer (ad cx.par))) :=
  h.keep.setCell ⟨y, 5, none⟩ (fun hlt => absurd hlt (by have := h.fresh; simp only; omega)) _

theorem heap_new (w : World) (o : Obj) (n : Nat) (h : n = w.heap.size) : (w.alloc o).heap[n]? = some o := by
  subst h
  show (w.heap.push o)[w.heap.size]? = _
  simp
theorem heap_old (w : World) (o : Obj) {i : Nat} (h : i < w.heap.size) : (w.alloc o).heap[i]? = w.heap[i]? := Below.heap_alloc w o i h
theorem hung_new {a : Nat} (ht : Tm w tb ob kind m t) (hw : wr = w.drewN a) (he : t = cx.plug .nil) (hb : Between (ordf kind m) cx key) :
    Hung w ((setHole wr tb cx (some wr.heap.size)).alloc (nodeObj key val false none none none)) tb ob kind m t key val cx wr.heap.size := by
  have T' : Tm wr tb ob kind m t := by rw [hw]; exact ht.drewN a
  have hsz : (setHole wr tb cx (some wr.heap.size)).heap.size = wr.heap.size := by cases cx <;> simp [setHole]
  have hn := T'.tree.nodup
  have ha := T'.tree.apart
  rw [he, nodup_plug] at hn
  rw [he, mem_ids_plug] at ha
  have hole : HoleIn wr tb t.ents.length (cmpV ob) cx none := by
    have := T'.tree
    rw [he] at this
    have h2 := this.hole
    rw [← he] at h2
    exact h2
  have hs := hole.set hn.1 (fun e => ha (.inl e)) (some wr.heap.size)
  have hlt : ∀ i, i = tb ∨ i ∈ cx.ids → i < (setHole wr tb cx (some wr.heap.size)).heap.size := by
    intro i hi
    rw [hsz]
    rcases hi with rfl | hi
    · exact lt_of_heap T'.tree.head
    · exact T'.tree.lt (by rw [he, mem_ids_plug]; exact .inl hi)
  refine ⟨he, hb, hs.agree (heap_old _ _ (hlt tb (.inl rfl))) fun i hi => heap_old _ _ (hlt i (.inr hi)), ?_, ?_, by rw [hw]; exact Nat.le_refl _⟩
  · exact heap_new _ _ _ hsz.symm
  · rw [hw]
    refine (((Keep.refl _ _).drewN a).then (setHole_keep (some (w.drewN a).heap.size)) fun i _ hi => ?_).alloc _
    rcases hi with hi | hi
    · exact .inl hi
    · exact .inr (by rw [he, mem_ids_plug]; exact .inl hi)

/-- Put at a key that is there. -/
theorem put_there {x : Nat} {c : Bool} {l r : T} {k v : Int} (ht : Tm w tb ob kind m (cx.plug (.node x c l k v r))) (hk : ordf kind m k = ordf kind m key) (a : Nat) :
    PutPost tb ob kind m (cx.plug (.node x c l k v r)) key val w (.returned (.tuple #[])) (((w.drewN a).setCell ⟨x, 0, none⟩ (.iface 3 (.int .i64 key))).setCell ⟨x, 1, none⟩ (.iface 3 (.int .i64 val))) := by
  have hd := ht.drewN a
  have hl := put_hit_plug (val := val) ht.srt hk
  have hents : ((cx.plug (.node x c l key val r)).ents).length = ((cx.plug (.node x c l k v r)).ents).length := by simp [plug_ents, T.ents]
  have hids : (cx.plug (.node x c l key val r)).ids = (cx.plug (.node x c l k v r)).ids := by simp [ids_plug, ids_node]
  have hK : Keep (Own tb (cx.plug (.node x c l k v r))) w (((w.drewN a).setCell ⟨x, 0, none⟩ (.iface 3 (.int .i64 key))).setCell ⟨x, 1, none⟩ (.iface 3 (.int .i64 val))) :=
    (((Keep.refl _ _).drewN a).setCell ⟨x, 0, none⟩ (fun _ => own_plug) _).setCell ⟨x, 1, none⟩ (fun _ => own_plug) _
  refine ⟨rfl, cx.plug (.node x c l key val r), ⟨?_, ?_, ht.ok, by rw [← hl]; exact put_srt ht.srt, ?_, ht.ne, by rw [hids]; exact ht.nm⟩, hl.symm, fun i hi => .inl (by rw [← hids]; exact hi), hK⟩
  · rw [hents]; exact (hd.tree.setKey key).setVal val
  · exact hK.get ht.ord (by rintro (e | e); exact ht.ne e; exact ht.nm e)
  · obtain ⟨h, h1, h2, h3⟩ := RBT_plug cx _ ht.rb
    refine plug_RBT cx _ h ?_ h2 h3
    cases c with
    | true =>
      cases h with
      | zero => exact (RB_zero _ _ _ _ _ h1).elim
      | succ h => rw [RB_black] at h1 ⊢; exact h1
    | false => rw [RB_red] at h1 ⊢; exact h1
end

/-- The loop's relation: still on its way down, or the node is hung. -/
def PutRel (w : World) (tb ob : Nat) (kind m : Int) (t : T) (key val : Int) (g : Nat) (s6 s7 s8 : Value) (wr : World) : Prop :=
  (∃ a cx x c l k v r, wr = w.drewN a ∧ t = Cx.plug cx (.node x c l k v r) ∧ Between (ordf kind m) cx key ∧ g = T.height (.node x c l k v r) ∧ s6 = .pointer none ∧ s7 = .pointer (some ⟨x, 0, none⟩) ∧ s8 = .bool true) ∨
  (∃ cx p y, Hung w wr tb ob kind m t key val cx y ∧ Cx.par cx = some p ∧ g = 0 ∧ s6 = .pointer (some ⟨y, 0, none⟩) ∧ s7 = .pointer (some ⟨p, 0, none⟩) ∧ s8 = .bool false)

set_option maxRecDepth 100000 in
set_option maxHeartbeats 1600000 in
theorem treePut_nil {w : World} {tb ob : Nat} {kind m : Int} (h : Tm w tb ob kind m .nil) (key val : Int) :
    Calls Try.prog 108 #[.pointer (some ⟨tb, 0, none⟩), .iface 3 (.int .i64 key), .iface 3 (.int .i64 val)] w (PutPost tb ob kind m .nil key val w) := by
  have t0 : w.cell? ⟨tb, 0, none⟩ = some (.pointer none) := tree_root h.tree.head
  have c2 : w.cell? ⟨tb, 2, none⟩ = some (.func (.func 109) #[] #[.pointer (some ⟨ob, 0, none⟩)]) := tree_cmp h.tree.head
  have lt := tree_plain h.tree.head
  have C := hid (comparator_lit h.ord h.ok (cmpI_eq (rfl : ordf kind m key = ordf kind m key)) 0)
  have H := hid h
  clear h
  go_enter Try.func108, Try.ntmps108
  go_wp2_with (fail)
  refine C.out.mono ?_
  rintro e w1 ⟨rfl, a, hw1⟩
  have H1 : Tm w1 tb ob kind m .nil := by rw [hw1]; exact H.out.drewN a
  have d0 : w1.cell? ⟨tb, 0, none⟩ = some (.pointer none) := tree_root H1.tree.head
  have d1 : w1.cell? ⟨tb, 1, none⟩ = some (.int .i64 0) := tree_size H1.tree.head
  have l1 := tree_plain H1.tree.head
  have ltb : tb < w1.heap.size := l1.lt
  have HW := hid hw1
  clear hw1 H1 t0 c2 lt
  go_wp2_with (fail)
  have HU := hung_new (val := val) (cx := .top) H.out HW.out rfl (Between.top _ key)
  have HT : TreeIn ((w1.setCell ⟨tb, 0, none⟩ (.pointer (some ⟨w1.heap.size, 0, none⟩))).alloc (nodeObj key val false none none none)) tb (T.nil.ents.length : Nat) (cmpV ob) (Cx.top.plug (.node w1.heap.size false .nil key val .nil)) := by
    refine TreeIn.of HU.hole ⟨HU.node, trivial, trivial⟩ (by simp [Cx.plug, ids_node, ids_nil]) ?_
    simp only [Cx.plug, ids_node, ids_nil, List.nil_append, List.mem_cons, List.not_mem_nil, or_false]
    omega
  have HI := insertCase1_any tb _ _ 0 .top w1.heap.size .nil .nil key val 0 _ (Nat.le_refl _) HT rfl rfl rfl rfl trivial
  refine HI.mono ?_
  intro e w2 hi
  obtain ⟨rfl, hi2⟩ := hi
  have hi : InsPost tb (T.nil.ents.length : Nat) (cmpV ob) (Cx.top.plug (.node w1.heap.size false .nil key val .nil)) _ (.returned (.tuple #[])) w2 := ⟨rfl, hi2⟩
  obtain ⟨t', ht', _⟩ := hi2
  have e1 : w2.cell? ⟨tb, 1, none⟩ = some (.int .i64 0) := tree_size ht'.head
  have l2 := tree_plain ht'.head
  have PD := hid (put_done H.out rfl HU.btw HU.fresh HU.keep hi)
  clear HU HT HI hi ht' d0 d1 l1 ltb
  go_wp2_with (fail)
  go_end0
  exact PD.out

set_option maxRecDepth 100000 in
set_option maxHeartbeats 4000000 in
theorem treePut_node {w : World} {tb ob : Nat} {kind m : Int} {x0 : Nat} {c0 : Bool} {l0 r0 : T} {k0 v0 : Int} (h : Tm w tb ob kind m (.node x0 c0 l0 k0 v0 r0)) (key val : Int) (hlen : (T.node x0 c0 l0 k0 v0 r0).ents.length ≤ 1000000) :
    Calls Try.prog 108 #[.pointer (some ⟨tb, 0, none⟩), .iface 3 (.int .i64 key), .iface 3 (.int .i64 val)] w (PutPost tb ob kind m (.node x0 c0 l0 k0 v0 r0) key val w) := by
  have t0 : w.cell? ⟨tb, 0, none⟩ = some (.pointer (some ⟨x0, 0, none⟩)) := tree_root h.tree.head
  have HL := hid hlen
  have H := hid h
  clear h hlen
  go_enter Try.func108, Try.ntmps108
  go_wp2_with (fail)
  go_loopg [6, 7, 8] (T.height (.node x0 c0 l0 k0 v0 r0)) (fun g s6 s7 s8 wr => PutRel w tb ob kind m (.node x0 c0 l0 k0 v0 r0) key val g s6 s7 s8 wr)
  case atStart => exact .inl ⟨0, .top, x0, c0, l0, k0, v0, r0, rfl, rfl, Between.top _ _, rfl, rfl, rfl, rfl⟩
  case round =>
    rcases hrel with ⟨a, cx, x, c, l, k, v, r, hw, hp, hb, hg, rfl, rfl, rfl⟩ | ⟨cx, p, y, hu, hpar, hg, rfl, rfl, rfl⟩
    · have T' : Tm wr tb ob kind m (.node x0 c0 l0 k0 v0 r0) := by rw [hw]; exact H.out.drewN a
      have HA := hid (And.intro hw (And.intro hp hg))
      have T1 := hid T'
      have c2 : wr.cell? ⟨tb, 2, none⟩ = some (.func (.func 109) #[] #[.pointer (some ⟨ob, 0, none⟩)]) := tree_cmp T'.tree.head
      have TI : TreeIn wr tb (cx.plug (.node x c l k v r)).ents.length (cmpV ob) (cx.plug (.node x c l k v r)) := by rw [← hp]; exact T'.tree
      have SR : Srt (ordf kind m) (cx.plug (.node x c l k v r)).toList := by rw [← hp]; exact T'.srt
      have SR := hid SR
      have x0' := node_key TI.node
      have x1' := node_val TI.node
      have x3 := node_left TI.node
      have x4 := node_right TI.node
      have lx := node_plain TI.node
      have ltx : x < wr.heap.size := lx.lt
      obtain ⟨s3, h3⟩ : ∃ s3, ad l.ptr = s3 := ⟨_, rfl⟩
      obtain ⟨s4, h4⟩ : ∃ s4, ad r.ptr = s4 := ⟨_, rfl⟩
      rw [h3] at x3
      rw [h4] at x4
      clear hw hp hg T' TI t0
      rcases Int.lt_trichotomy (ordf kind m key) (ordf kind m k) with hc | hc | hc
      · have C := hid (fun n => comparator_lit T1.out.ord T1.out.ok (cmpI_lt hc) n)
        have HB := hid (show Between (ordf kind m) (.left cx x c k v r) key from hb.left SR.out hc)
        clear hc hb
        cases l with
        | nil =>
          obtain rfl : none = s3 := h3
          go_wp2_with (fail)
          go_quiet ((go_at_call 109; exact C.out _))
          obtain ⟨wq, hq⟩ : ∃ wq, wq = wr.drewN nq := ⟨_, rfl⟩
          rw [← hq]
          have q3 : wq.cell? ⟨x, 3, none⟩ = some (.pointer none) := by rw [hq]; exact x3
          have lq : Plain wq x := by rw [hq]; exact lx
          have ltq : x < wq.heap.size := by rw [hq]; exact ltx
          have HU := hid (hung_new (val := val) (wr := wq) (a := a + nq) H.out (by rw [hq, HA.out.1, World.drewN_drewN]) (cx := .left cx x c k v r) HA.out.2.1 HB.out)
          clear hq x0' x1' x3 x4 lx ltx c2
          go_wp2_with (fail)
          go_roundg 0
          case measure => rw [HA.out.2.2]; simp only [T.height]; omega
          case rel => exact .inr ⟨_, x, _, HU.out, rfl, rfl, rfl, rfl, rfl⟩
        | node z zc zl zk zv zr =>
          obtain rfl : some ⟨z, 0, none⟩ = s3 := h3
          go_wp2_with (fail)
          go_quiet ((go_at_call 109; exact C.out _))
          go_wp2_with (fail)
          go_roundg (T.height (.node z zc zl zk zv zr))
          case measure => rw [HA.out.2.2]; simp only [T.height]; omega
          case rel => exact .inl ⟨a + nq, .left cx x c k v r, z, zc, zl, zk, zv, zr, by rw [HA.out.1, World.drewN_drewN], HA.out.2.1, HB.out, rfl, rfl, rfl, rfl⟩
      · have C := hid (fun n => comparator_lit T1.out.ord T1.out.ok (cmpI_eq hc) n)
        have HC := hid hc
        have h3 := hid h3
        have h4 := hid h4
        clear hc hb
        go_wp2_with (fail)
        go_quiet ((go_at_call 109; exact C.out _))
        go_wp2_with (fail)
        (try simp only [Exit.inBlock, Exit.then]); refine bodyPost_ret (results_none rfl _ _ _) rfl ?_
        have hh := H.out
        rw [HA.out.2.1] at hh ⊢
        rw [HA.out.1, World.drewN_drewN]
        exact put_there hh HC.out.symm (a + nq)
      · have C := hid (fun n => comparator_lit T1.out.ord T1.out.ok (cmpI_gt hc) n)
        have HB := hid (show Between (ordf kind m) (.right cx x c l k v) key from hb.right SR.out hc)
        clear hc hb
        cases r with
        | nil =>
          obtain rfl : none = s4 := h4
          go_wp2_with (fail)
          go_quiet ((go_at_call 109; exact C.out _))
          obtain ⟨wq, hq⟩ : ∃ wq, wq = wr.drewN nq := ⟨_, rfl⟩
          rw [← hq]
          have q4 : wq.cell? ⟨x, 4, none⟩ = some (.pointer none) := by rw [hq]; exact x4
          have lq : Plain wq x := by rw [hq]; exact lx
          have ltq : x < wq.heap.size := by rw [hq]; exact ltx
          have HU := hid (hung_new (val := val) (wr := wq) (a := a + nq) H.out (by rw [hq, HA.out.1, World.drewN_drewN]) (cx := .right cx x c l k v) HA.out.2.1 HB.out)
          clear hq x0' x1' x3 x4 lx ltx c2
          go_wp2_with (fail)
          go_roundg 0
          case measure => rw [HA.out.2.2]; simp only [T.height]; omega
          case rel => exact .inr ⟨_, x, _, HU.out, rfl, rfl, rfl, rfl, rfl⟩
        | node z zc zl zk zv zr =>
          obtain rfl : some ⟨z, 0, none⟩ = s4 := h4
          go_wp2_with (fail)
          go_quiet ((go_at_call 109; exact C.out _))
          go_wp2_with (fail)
          go_roundg (T.height (.node z zc zl zk zv zr))
          case measure => rw [HA.out.2.2]; simp only [T.height]; omega
          case rel => exact .inl ⟨a + nq, .right cx x c l k v, z, zc, zl, zk, zv, zr, by rw [HA.out.1, World.drewN_drewN], HA.out.2.1, HB.out, rfl, rfl, rfl, rfl⟩
    · have TI := hu.tree H.out
      rw [hpar] at TI
      have y5 := node_par hu.node
      have ly := node_plain hu.node
      have hcx0 : cx.Ok 0 := by
        have hrb := H.out.rb
        rw [hu.eq] at hrb
        obtain ⟨h0, h1, h2, _⟩ := RBT_plug cx _ hrb
        rw [RB_nil] at h1
        rw [h1] at h2
        exact h2
      have HI := hid (insertCase1_any tb _ _ cx.depth cx y .nil .nil key val 0 _ (Nat.le_refl _) TI rfl rfl rfl rfl hcx0)
      have K5 := hu.keep5
      rw [hpar] at K5
      have PD : ∀ e w2, InsPost tb _ _ (cx.plug (.node y false .nil key val .nil)) (wr.setCell ⟨y, 5, none⟩ (.pointer (ad (some p)))) e w2 → _ := fun e w2 hi => put_done H.out hu.eq hu.btw hu.fresh K5 hi
      have PD := hid PD
      clear t0 hu hpar TI hcx0 K5
      go_wp2_with (fail)
      refine HI.out.mono ?_
      intro e w2 hi
      obtain ⟨rfl, hi2⟩ := hi
      have PD2 := hid (PD.out _ w2 ⟨rfl, hi2⟩)
      obtain ⟨t', ht', _⟩ := hi2
      have e1 := tree_size ht'.head
      obtain ⟨N, hN, hb⟩ : ∃ N : Nat, (T.node x0 c0 l0 k0 v0 r0).ents.length = N ∧ N ≤ 1000000 := ⟨_, rfl, HL.out⟩
      rw [hN] at e1 PD2
      have l2 := tree_plain ht'.head
      clear ht' hN y5 ly
      go_wp2_with (fail)
      go_end0
      exact PD2.out

theorem treePut_any {w : World} {tb ob : Nat} {kind m : Int} {t : T} (h : Tm w tb ob kind m t) (key val : Int) (hlen : t.ents.length ≤ 1000000) :
    Calls Try.prog 108 #[.pointer (some ⟨tb, 0, none⟩), .iface 3 (.int .i64 key), .iface 3 (.int .i64 val)] w (PutPost tb ob kind m t key val w) := by
  cases t with
  | nil => exact treePut_nil h key val
  | node x c l k v r => exact treePut_node h key val hlen

end Go.Proofs.Ytdamfannmlncnaa
