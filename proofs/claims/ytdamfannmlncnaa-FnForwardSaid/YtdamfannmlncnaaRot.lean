/- A node is turned to the left, to the right: the walks, and that the tree lies in memory as the turned one. -/
import Derived.Test.YtdamfannmlncnaaLow
namespace Go.Proofs.Ytdamfannmlncnaa
open Go.RowKit
set_option linter.unusedVariables false
set_option linter.unusedSimpArgs false

theorem plain_moved_eq (w : World) (tb : Nat) (cx : Cx) (y i : Nat) : Plain (moved w tb cx y) i = Plain w i := by
  unfold moved; rw [plain_setCell]; cases cx <;> exact plain_setCell _ _ _ _
theorem plain_setHole_eq (w : World) (tb : Nat) (cx : Cx) (q : Option Nat) (i : Nat) : Plain (setHole w tb cx q) i = Plain w i := by
  cases cx <;> exact plain_setCell _ _ _ _
attribute [local go_sem] plain_moved_eq

/-- What stands behind the first two stores of a turn: y is in the place of x. -/
structure Moved (w w1 : World) (tb : Nat) (n : Int) (cv : Value) (cx : Cx) (x y : Nat) (yk yv : Int) (yc : Bool) (yl yr : Option Nat) : Prop where
  hole : HoleIn w1 tb n cv cx (some y)
  ycell : w1.heap[y]? = some (nodeObj yk yv yc yl yr cx.par)
  other : ∀ i, i ≠ tb → i ∉ cx.ids → i ≠ y → w1.heap[i]? = w.heap[i]?
  keep : Keep (fun i => i = tb ∨ i ∈ cx.ids ∨ i = y) w w1

section
variable {w : World} {tb : Nat} {n : Int} {cv : Value} {cx : Cx} {x y : Nat}
theorem moved_of {yk yv : Int} {yc : Bool} {yl yr yp : Option Nat} (h : HoleIn w tb n cv cx (some x)) (hy : w.heap[y]? = some (nodeObj yk yv yc yl yr yp)) (hnd : cx.ids.Nodup) (htb : tb ∉ cx.ids) (hyi : y ∉ cx.ids) (hyt : y ≠ tb) :
    Moved w (moved w tb cx y) tb n cv cx x y yk yv yc yl yr := by
  have hy' : (setHole w tb cx (some y)).heap[y]? = some (nodeObj yk yv yc yl yr yp) := (setHole_other hyt hyi).trans hy
  refine ⟨(h.set hnd htb (some y)).agree (set_other (fun e => hyt e.symm) _) fun i hi => set_other (by rintro rfl; exact hyi hi) _, set_par hy' cx.par, fun i h1 h2 h3 => (set_other h3 _).trans (setHole_other h1 h2), ?_⟩
  exact ((setHole_keep (some y)).mono fun i _ hi => by rcases hi with h | h <;> simp [h]).setCell _ (fun _ => .inr (.inr rfl)) _

variable {c cy : Bool} {a b d : T} {k v ky vy : Int}

/-- The world behind a turn to the left. -/
def rotLw (w : World) (tb : Nat) (cx : Cx) (x y : Nat) (q : Option Nat) : World :=
  ((match q with
    | none => (moved w tb cx y).setCell ⟨x, 4, none⟩ (.pointer none)
    | some z => ((moved w tb cx y).setCell ⟨x, 4, none⟩ (.pointer (some ⟨z, 0, none⟩))).setCell ⟨z, 5, none⟩ (.pointer (some ⟨x, 0, none⟩))).setCell ⟨y, 3, none⟩ (.pointer (some ⟨x, 0, none⟩))).setCell ⟨x, 5, none⟩ (.pointer (some ⟨y, 0, none⟩))
def rotRw (w : World) (tb : Nat) (cx : Cx) (x y : Nat) (q : Option Nat) : World :=
  ((match q with
    | none => (moved w tb cx y).setCell ⟨x, 3, none⟩ (.pointer none)
    | some z => ((moved w tb cx y).setCell ⟨x, 3, none⟩ (.pointer (some ⟨z, 0, none⟩))).setCell ⟨z, 5, none⟩ (.pointer (some ⟨x, 0, none⟩))).setCell ⟨y, 4, none⟩ (.pointer (some ⟨x, 0, none⟩))).setCell ⟨x, 5, none⟩ (.pointer (some ⟨y, 0, none⟩))

/-- The distinctness of what a turn meets. -/
structure TurnSep (tb : Nat) (cx : Cx) (x y : Nat) (a b d : T) : Prop where
  ndcx : cx.ids.Nodup
  tcx : tb ∉ cx.ids
  xcx : x ∉ cx.ids
  ycx : y ∉ cx.ids
  xt : x ≠ tb
  yt : y ≠ tb
  xy : x ≠ y
  a1 : ∀ i ∈ a.ids, i ∉ cx.ids ∧ i ≠ tb ∧ i ≠ x ∧ i ≠ y
  b1 : ∀ i ∈ b.ids, i ∉ cx.ids ∧ i ≠ tb ∧ i ≠ x ∧ i ≠ y
  d1 : ∀ i ∈ d.ids, i ∉ cx.ids ∧ i ≠ tb ∧ i ≠ x ∧ i ≠ y
  ab : ∀ i ∈ a.ids, i ∉ b.ids
  ad : ∀ i ∈ a.ids, i ∉ d.ids
  bd : ∀ i ∈ b.ids, i ∉ d.ids
  bb : b.ids.Nodup

theorem sep_of_list {tb : Nat} {cx : Cx} {x y : Nat} {a b d : T} {l : List Nat} (hl : cx.bents.map (·.1) ++ l ++ cx.aents.map (·.1) = cx.bents.map (·.1) ++ l ++ cx.aents.map (·.1))
    (hc : cx.ids.Nodup) (hd : ∀ i ∈ cx.ids, i ∉ l) (htl : tb ∉ l) (htc : tb ∉ cx.ids) (hm : ∀ i, i ∈ l ↔ i ∈ a.ids ∨ i = x ∨ i ∈ b.ids ∨ i = y ∨ i ∈ d.ids)
    (xy : x ≠ y) (xa : x ∉ a.ids) (xb : x ∉ b.ids) (xd : x ∉ d.ids) (ya : y ∉ a.ids) (yb : y ∉ b.ids) (yd : y ∉ d.ids)
    (ab : ∀ i ∈ a.ids, i ∉ b.ids) (ad : ∀ i ∈ a.ids, i ∉ d.ids) (bd : ∀ i ∈ b.ids, i ∉ d.ids) (bb : b.ids.Nodup) : TurnSep tb cx x y a b d := by
  have hx : x ∈ l := (hm x).2 (by simp)
  have hy : y ∈ l := (hm y).2 (by simp)
  refine ⟨hc, htc, fun h => hd x h hx, fun h => hd y h hy, by rintro rfl; exact htl hx, by rintro rfl; exact htl hy, xy, ?_, ?_, ?_, ab, ad, bd, bb⟩
  · intro i hi; have hil := (hm i).2 (.inl hi); exact ⟨fun h => hd i h hil, by rintro rfl; exact htl hil, by rintro rfl; exact xa hi, by rintro rfl; exact ya hi⟩
  · intro i hi; have hil := (hm i).2 (.inr (.inr (.inl hi))); exact ⟨fun h => hd i h hil, by rintro rfl; exact htl hil, by rintro rfl; exact xb hi, by rintro rfl; exact yb hi⟩
  · intro i hi; have hil := (hm i).2 (.inr (.inr (.inr (.inr hi)))); exact ⟨fun h => hd i h hil, by rintro rfl; exact htl hil, by rintro rfl; exact xd hi, by rintro rfl; exact yd hi⟩

theorem TreeIn.sepL (h : TreeIn w tb n cv (cx.plug (.node x c a k v (.node y cy b ky vy d)))) : TurnSep tb cx x y a b d := by
  have hn := h.nodup
  have ht := h.apart
  rw [nodup_plug] at hn
  rw [mem_ids_plug] at ht
  obtain ⟨h1, h2, h3⟩ := hn
  have h2' := h2
  simp only [ids_node, List.nodup_append, List.nodup_cons, List.mem_append, List.mem_cons] at h2'
  refine sep_of_list (l := (T.node x c a k v (.node y cy b ky vy d)).ids) rfl h1 h3 (fun e => ht (.inr e)) (fun e => ht (.inl e)) ?_ ?_ ?_ ?_ ?_ ?_ ?_ ?_ ?_ ?_ ?_ ?_
  · intro i; simp only [ids_node, List.mem_append, List.mem_cons]
  · rintro rfl; exact h2'.2.1.1 (.inr (.inl rfl))
  · intro hx; exact h2'.2.2 x hx x (.inl rfl) rfl
  · intro hx; exact h2'.2.1.1 (.inl hx)
  · intro hx; exact h2'.2.1.1 (.inr (.inr hx))
  · intro hx; exact h2'.2.2 y hx y (.inr (.inr (.inl rfl))) rfl
  · intro hx; exact h2'.2.1.2.2.2 y hx y (.inl rfl) rfl
  · intro hx; exact h2'.2.1.2.2.1.1 hx
  · intro i hi hb; exact h2'.2.2 i hi i (.inr (.inl hb)) rfl
  · intro i hi hb; exact h2'.2.2 i hi i (.inr (.inr (.inr hb))) rfl
  · intro i hi hb; exact h2'.2.1.2.2.2 i hi i (.inr hb) rfl
  · exact h2'.2.1.2.1
theorem TreeIn.sepR (h : TreeIn w tb n cv (cx.plug (.node x c (.node y cy a ky vy b) k v d))) : TurnSep tb cx x y a b d := by
  have hn := h.nodup
  have ht := h.apart
  rw [nodup_plug] at hn
  rw [mem_ids_plug] at ht
  obtain ⟨h1, h2, h3⟩ := hn
  have h2' := h2
  simp only [ids_node, List.nodup_append, List.nodup_cons, List.mem_append, List.mem_cons] at h2'
  refine sep_of_list (l := (T.node x c (.node y cy a ky vy b) k v d).ids) rfl h1 h3 (fun e => ht (.inr e)) (fun e => ht (.inl e)) ?_ ?_ ?_ ?_ ?_ ?_ ?_ ?_ ?_ ?_ ?_ ?_
  · intro i; simp only [ids_node, List.mem_append, List.mem_cons]
    constructor
    · rintro ((h | h | h) | h | h) <;> simp [h]
    · rintro (h | h | h | h | h) <;> simp [h]
  · rintro rfl; exact h2'.2.2 x (.inr (.inl rfl)) x (.inl rfl) rfl
  · intro hx; exact h2'.2.2 x (.inl hx) x (.inl rfl) rfl
  · intro hx; exact h2'.2.2 x (.inr (.inr hx)) x (.inl rfl) rfl
  · intro hx; exact h2'.2.1.1 hx
  · intro hx; exact h2'.1.2.2 y hx y (.inl rfl) rfl
  · intro hx; exact h2'.1.2.1.1 hx
  · intro hx; exact h2'.2.2 y (.inr (.inl rfl)) y (.inr hx) rfl
  · intro i hi hb; exact h2'.1.2.2 i hi i (.inr hb) rfl
  · intro i hi hb; exact h2'.2.2 i (.inl hi) i (.inr hb) rfl
  · intro i hi hb; exact h2'.2.2 i (.inr (.inr hi)) i (.inr hb) rfl
  · exact h2'.1.2.1.2


set_option maxHeartbeats 400000 in
theorem rotateLeft_walk (h : TreeIn w tb n cv (cx.plug (.node x c a k v (.node y cy b ky vy d)))) :
    Calls Try.prog 135 #[.pointer (some ⟨tb, 0, none⟩), .pointer (some ⟨x, 0, none⟩)] w fun e w' => e = .returned (.tuple #[]) ∧ rotLw w tb cx x y b.ptr = w' := by
  have s := h.sepL
  have hx := h.node
  have hf := h.sub
  have hy := hf.2.2
  have hm := moved_of h.hole hy.1 s.ndcx s.tcx s.ycx s.yt
  have hc := hid (replaceNode_some h.hole hx s.xcx hy.1 s.ycx s.yt (fun e => s.xy e.symm))
  have hx4 : w.cell? ⟨x, 4, none⟩ = some (.pointer (some ⟨y, 0, none⟩)) := node_right hx
  have hx1 := (hm.other x s.xt s.xcx s.xy).trans hx
  have e1 := node_right hx1
  have e2 := node_par hx1
  have e3 := node_plain hx1
  have e4 := node_plain hm.ycell
  have hxy := s.xy
  have hyx : ¬ y = x := fun e => s.xy e.symm
  cases b with
  | nil =>
    have e5 : (moved w tb cx y).cell? ⟨y, 3, none⟩ = some (.pointer none) := node_left hm.ycell
    clear h hx hf hy hm s hx1
    go_enter Try.func135, Try.ntmps135
    go_wp2_with (go_at_call 130; refine hc.out.mono ?_; rintro e w1 ⟨rfl, rfl⟩)
    go_end0
    exact ⟨rfl, rfl⟩
  | node z zc zl zk zv zr =>
    have e5 : (moved w tb cx y).cell? ⟨y, 3, none⟩ = some (.pointer (some ⟨z, 0, none⟩)) := node_left hm.ycell
    have hz := hy.2.1.1
    obtain ⟨z1, z2, z3, z4⟩ := s.b1 z (by rw [ids_node]; simp)
    have hz1 := (hm.other z z2 z1 z4).trans hz
    have e6 := node_par hz1
    have e7 := node_plain hz1
    have z5 : ¬ x = z := fun e => z3 e.symm
    have z6 : ¬ y = z := fun e => z4 e.symm
    clear h hx hf hy hm s hx1 hz hz1 z1 z2
    go_enter Try.func135, Try.ntmps135
    go_wp2_with (go_at_call 130; refine hc.out.mono ?_; rintro e w1 ⟨rfl, rfl⟩)
    go_end0
    exact ⟨rfl, rfl⟩

set_option maxHeartbeats 400000 in
theorem rotateRight_walk (h : TreeIn w tb n cv (cx.plug (.node x c (.node y cy a ky vy b) k v d))) :
    Calls Try.prog 136 #[.pointer (some ⟨tb, 0, none⟩), .pointer (some ⟨x, 0, none⟩)] w fun e w' => e = .returned (.tuple #[]) ∧ rotRw w tb cx x y b.ptr = w' := by
  have s := h.sepR
  have hx := h.node
  have hf := h.sub
  have hy := hf.2.1
  have hm := moved_of h.hole hy.1 s.ndcx s.tcx s.ycx s.yt
  have hc := hid (replaceNode_some h.hole hx s.xcx hy.1 s.ycx s.yt (fun e => s.xy e.symm))
  have hx4 : w.cell? ⟨x, 3, none⟩ = some (.pointer (some ⟨y, 0, none⟩)) := node_left hx
  have hx1 := (hm.other x s.xt s.xcx s.xy).trans hx
  have e1 := node_left hx1
  have e2 := node_par hx1
  have e3 := node_plain hx1
  have e4 := node_plain hm.ycell
  have hxy := s.xy
  have hyx : ¬ y = x := fun e => s.xy e.symm
  cases b with
  | nil =>
    have e5 : (moved w tb cx y).cell? ⟨y, 4, none⟩ = some (.pointer none) := node_right hm.ycell
    clear h hx hf hy hm s hx1
    go_enter Try.func136, Try.ntmps136
    go_wp2_with (go_at_call 130; refine hc.out.mono ?_; rintro e w1 ⟨rfl, rfl⟩)
    go_end0
    exact ⟨rfl, rfl⟩
  | node z zc zl zk zv zr =>
    have e5 : (moved w tb cx y).cell? ⟨y, 4, none⟩ = some (.pointer (some ⟨z, 0, none⟩)) := node_right hm.ycell
    have hz := hy.2.2.1
    obtain ⟨z1, z2, z3, z4⟩ := s.b1 z (by rw [ids_node]; simp)
    have hz1 := (hm.other z z2 z1 z4).trans hz
    have e6 := node_par hz1
    have e7 := node_plain hz1
    have z5 : ¬ x = z := fun e => z3 e.symm
    have z6 : ¬ y = z := fun e => z4 e.symm
    clear h hx hf hy hm s hx1 hz hz1 z1 z2
    go_enter Try.func136, Try.ntmps136
    go_wp2_with (go_at_call 130; refine hc.out.mono ?_; rintro e w1 ⟨rfl, rfl⟩)
    go_end0
    exact ⟨rfl, rfl⟩

theorem rotL_post (h : TreeIn w tb n cv (cx.plug (.node x c a k v (.node y cy b ky vy d)))) :
    TreeIn (rotLw w tb cx x y b.ptr) tb n cv (cx.plug (.node y cy (.node x c a k v b) ky vy d)) ∧ Keep (Own tb (cx.plug (.node x c a k v (.node y cy b ky vy d)))) w (rotLw w tb cx x y b.ptr) := by
  have s := h.sepL
  have hx := h.node
  have hf := h.sub
  have hy := hf.2.2
  have hm := moved_of h.hole hy.1 s.ndcx s.tcx s.ycx s.yt
  have hx1 := (hm.other x s.xt s.xcx s.xy).trans hx
  have hxy := s.xy
  have hyx : ¬ y = x := fun e => s.xy e.symm
  have hids : (cx.plug (.node y cy (.node x c a k v b) ky vy d)).ids = (cx.plug (.node x c a k v (.node y cy b ky vy d))).ids := by simp [ids_plug, ids_node]
  have hmem : ∀ i, i ∈ (cx.plug (.node x c a k v (.node y cy b ky vy d))).ids ↔ i ∈ cx.ids ∨ i ∈ a.ids ∨ i = x ∨ i ∈ b.ids ∨ i = y ∨ i ∈ d.ids := by
    intro i; simp only [mem_ids_plug, ids_node, List.mem_append, List.mem_cons]
    all_goals
      constructor
      · intro h; rcases h with h | h
        · simp [h]
        · simp only [or_assoc] at h; rcases h with h | h | h | h | h <;> simp [h]
      · intro h; rcases h with h | h | h | h | h | h <;> simp [h]
  -- the two nodes, the hole, the middle subtree, all others
  have key : (rotLw w tb cx x y b.ptr).heap[y]? = some (nodeObj ky vy cy (some x) d.ptr cx.par) ∧
      (rotLw w tb cx x y b.ptr).heap[x]? = some (nodeObj k v c a.ptr b.ptr (some y)) ∧ Fits (rotLw w tb cx x y b.ptr) (some x) b ∧
      (∀ i, i ≠ x → i ≠ y → i ∉ b.ids → (rotLw w tb cx x y b.ptr).heap[i]? = (moved w tb cx y).heap[i]?) ∧ Keep (fun i => i = x ∨ i = y ∨ i ∈ b.ids) (moved w tb cx y) (rotLw w tb cx x y b.ptr) := by
    cases b with
    | nil =>
      refine ⟨?_, ?_, trivial, ?_, ?_⟩
      · exact (set_other hyx _).trans (set_left ((set_other hyx _).trans hm.ycell) (some x))
      · exact set_par ((set_other hxy _).trans (set_right hx1 none)) (some y)
      · intro i h1 h2 _
        exact (set_other h1 _).trans ((set_other h2 _).trans (set_other h1 _))
      · exact (((Keep.refl _ _).setCell _ (fun _ => .inl rfl) _).setCell _ (fun _ => .inr (.inl rfl)) _).setCell _ (fun _ => .inl rfl) _
    | node z zc zl zk zv zr =>
      have hz := hy.2.1
      obtain ⟨z1, z2, z3, z4⟩ := s.b1 z (by rw [ids_node]; simp)
      have hz1 := (hm.other z z2 z1 z4).trans hz.1
      have hzm : z ∈ (T.node z zc zl zk zv zr).ids := by rw [ids_node]; simp
      have oth : ∀ i, i ≠ x → i ≠ y → i ≠ z → (rotLw w tb cx x y (T.node z zc zl zk zv zr).ptr).heap[i]? = (moved w tb cx y).heap[i]? := fun i h1 h2 h3 =>
        (set_other h1 _).trans ((set_other h2 _).trans ((set_other h3 _).trans (set_other h1 _)))
      have hzz : (rotLw w tb cx x y (T.node z zc zl zk zv zr).ptr).heap[z]? = some (nodeObj zk zv zc zl.ptr zr.ptr (some x)) :=
        (set_other z3 _).trans ((set_other z4 _).trans (set_par ((set_other z3 _).trans hz1) (some x)))
      refine ⟨?_, ?_, ?_, ?_, ?_⟩
      · exact (set_other hyx _).trans (set_left ((set_other (fun e => z4 e.symm) _).trans ((set_other hyx _).trans hm.ycell)) (some x))
      · exact set_par ((set_other hxy _).trans ((set_other (fun e => z3 e.symm) _).trans (set_right hx1 (some z)))) (some y)
      · refine hz.rehung hzz (fun i hi hne => ?_) s.bb
        obtain ⟨i1, i2, i3, i4⟩ := s.b1 i hi
        exact (oth i i3 i4 hne).trans (hm.other i i2 i1 i4)
      · intro i h1 h2 h3
        exact oth i h1 h2 (by rintro rfl; exact h3 hzm)
      · exact ((((Keep.refl _ _).setCell _ (fun _ => .inl rfl) _).setCell _ (fun _ => .inr (.inr hzm)) _).setCell _ (fun _ => .inr (.inl rfl)) _).setCell _ (fun _ => .inl rfl) _
  obtain ⟨k1, k2, k3, k4, k5⟩ := key
  constructor
  · refine TreeIn.of (hm.hole.agree (k4 tb (fun e => s.xt e.symm) (fun e => s.yt e.symm) fun e => (s.b1 tb e).2.1 rfl) fun i hi => k4 i (by rintro rfl; exact s.xcx hi) (by rintro rfl; exact s.ycx hi) fun e => (s.b1 i e).1 hi) ?_ (by rw [hids]; exact h.nodup) (by rw [hids]; exact h.apart)
    have ha : Fits (rotLw w tb cx x y b.ptr) (some x) a := Fits.agree hf.2.1 fun i hi => by
      obtain ⟨i1, i2, i3, i4⟩ := s.a1 i hi
      exact (k4 i i3 i4 (s.ab i hi)).trans (hm.other i i2 i1 i4)
    have hd : Fits (rotLw w tb cx x y b.ptr) (some y) d := Fits.agree hy.2.2 fun i hi => by
      obtain ⟨i1, i2, i3, i4⟩ := s.d1 i hi
      exact (k4 i i3 i4 fun e => s.bd i e hi).trans (hm.other i i2 i1 i4)
    exact ⟨k1, ⟨k2, ha, k3⟩, hd⟩
  · refine (hm.keep.mono fun i _ hi => ?_).then k5 fun i _ hi => ?_
    · rcases hi with h | h | h
      · exact .inl h
      · exact .inr ((hmem i).2 (.inl h))
      · exact .inr ((hmem i).2 (by simp [h]))
    · rcases hi with h | h | h
      · exact .inr ((hmem i).2 (by simp [h]))
      · exact .inr ((hmem i).2 (by simp [h]))
      · exact .inr ((hmem i).2 (by simp [h]))
theorem rotateLeft_any (h : TreeIn w tb n cv (cx.plug (.node x c a k v (.node y cy b ky vy d)))) :
    Calls Try.prog 135 #[.pointer (some ⟨tb, 0, none⟩), .pointer (some ⟨x, 0, none⟩)] w fun e w' => e = .returned (.tuple #[]) ∧ TreeIn w' tb n cv (cx.plug (.node y cy (.node x c a k v b) ky vy d)) ∧ Keep (Own tb (cx.plug (.node x c a k v (.node y cy b ky vy d)))) w w' :=
  (rotateLeft_walk h).mono fun e w' ⟨he, hw⟩ => ⟨he, hw ▸ rotL_post h⟩

theorem rotR_post (h : TreeIn w tb n cv (cx.plug (.node x c (.node y cy a ky vy b) k v d))) :
    TreeIn (rotRw w tb cx x y b.ptr) tb n cv (cx.plug (.node y cy a ky vy (.node x c b k v d))) ∧ Keep (Own tb (cx.plug (.node x c (.node y cy a ky vy b) k v d))) w (rotRw w tb cx x y b.ptr) := by
  have s := h.sepR
  have hx := h.node
  have hf := h.sub
  have hy := hf.2.1
  have hm := moved_of h.hole hy.1 s.ndcx s.tcx s.ycx s.yt
  have hx1 := (hm.other x s.xt s.xcx s.xy).trans hx
  have hxy := s.xy
  have hyx : ¬ y = x := fun e => s.xy e.symm
  have hids : (cx.plug (.node y cy a ky vy (.node x c b k v d))).ids = (cx.plug (.node x c (.node y cy a ky vy b) k v d)).ids := by simp [ids_plug, ids_node]
  have hmem : ∀ i, i ∈ (cx.plug (.node x c (.node y cy a ky vy b) k v d)).ids ↔ i ∈ cx.ids ∨ i ∈ a.ids ∨ i = x ∨ i ∈ b.ids ∨ i = y ∨ i ∈ d.ids := by
    intro i; simp only [mem_ids_plug, ids_node, List.mem_append, List.mem_cons]
    all_goals
      constructor
      · intro h; rcases h with h | h
        · simp [h]
        · simp only [or_assoc] at h; rcases h with h | h | h | h | h <;> simp [h]
      · intro h; rcases h with h | h | h | h | h | h <;> simp [h]
  -- the two nodes, the hole, the middle subtree, all others
  have key : (rotRw w tb cx x y b.ptr).heap[y]? = some (nodeObj ky vy cy a.ptr (some x) cx.par) ∧
      (rotRw w tb cx x y b.ptr).heap[x]? = some (nodeObj k v c b.ptr d.ptr (some y)) ∧ Fits (rotRw w tb cx x y b.ptr) (some x) b ∧
      (∀ i, i ≠ x → i ≠ y → i ∉ b.ids → (rotRw w tb cx x y b.ptr).heap[i]? = (moved w tb cx y).heap[i]?) ∧ Keep (fun i => i = x ∨ i = y ∨ i ∈ b.ids) (moved w tb cx y) (rotRw w tb cx x y b.ptr) := by
    cases b with
    | nil =>
      refine ⟨?_, ?_, trivial, ?_, ?_⟩
      · exact (set_other hyx _).trans (set_right ((set_other hyx _).trans hm.ycell) (some x))
      · exact set_par ((set_other hxy _).trans (set_left hx1 none)) (some y)
      · intro i h1 h2 _
        exact (set_other h1 _).trans ((set_other h2 _).trans (set_other h1 _))
      · exact (((Keep.refl _ _).setCell _ (fun _ => .inl rfl) _).setCell _ (fun _ => .inr (.inl rfl)) _).setCell _ (fun _ => .inl rfl) _
    | node z zc zl zk zv zr =>
      have hz := hy.2.2
      obtain ⟨z1, z2, z3, z4⟩ := s.b1 z (by rw [ids_node]; simp)
      have hz1 := (hm.other z z2 z1 z4).trans hz.1
      have hzm : z ∈ (T.node z zc zl zk zv zr).ids := by rw [ids_node]; simp
      have oth : ∀ i, i ≠ x → i ≠ y → i ≠ z → (rotRw w tb cx x y (T.node z zc zl zk zv zr).ptr).heap[i]? = (moved w tb cx y).heap[i]? := fun i h1 h2 h3 =>
        (set_other h1 _).trans ((set_other h2 _).trans ((set_other h3 _).trans (set_other h1 _)))
      have hzz : (rotRw w tb cx x y (T.node z zc zl zk zv zr).ptr).heap[z]? = some (nodeObj zk zv zc zl.ptr zr.ptr (some x)) :=
        (set_other z3 _).trans ((set_other z4 _).trans (set_par ((set_other z3 _).trans hz1) (some x)))
      refine ⟨?_, ?_, ?_, ?_, ?_⟩
      · exact (set_other hyx _).trans (set_right ((set_other (fun e => z4 e.symm) _).trans ((set_other hyx _).trans hm.ycell)) (some x))
      · exact set_par ((set_other hxy _).trans ((set_other (fun e => z3 e.symm) _).trans (set_left hx1 (some z)))) (some y)
      · refine hz.rehung hzz (fun i hi hne => ?_) s.bb
        obtain ⟨i1, i2, i3, i4⟩ := s.b1 i hi
        exact (oth i i3 i4 hne).trans (hm.other i i2 i1 i4)
      · intro i h1 h2 h3
        exact oth i h1 h2 (by rintro rfl; exact h3 hzm)
      · exact ((((Keep.refl _ _).setCell _ (fun _ => .inl rfl) _).setCell _ (fun _ => .inr (.inr hzm)) _).setCell _ (fun _ => .inr (.inl rfl)) _).setCell _ (fun _ => .inl rfl) _
  obtain ⟨k1, k2, k3, k4, k5⟩ := key
  constructor
  · refine TreeIn.of (hm.hole.agree (k4 tb (fun e => s.xt e.symm) (fun e => s.yt e.symm) fun e => (s.b1 tb e).2.1 rfl) fun i hi => k4 i (by rintro rfl; exact s.xcx hi) (by rintro rfl; exact s.ycx hi) fun e => (s.b1 i e).1 hi) ?_ (by rw [hids]; exact h.nodup) (by rw [hids]; exact h.apart)
    have ha : Fits (rotRw w tb cx x y b.ptr) (some y) a := Fits.agree hy.2.1 fun i hi => by
      obtain ⟨i1, i2, i3, i4⟩ := s.a1 i hi
      exact (k4 i i3 i4 (s.ab i hi)).trans (hm.other i i2 i1 i4)
    have hd : Fits (rotRw w tb cx x y b.ptr) (some x) d := Fits.agree hf.2.2 fun i hi => by
      obtain ⟨i1, i2, i3, i4⟩ := s.d1 i hi
      exact (k4 i i3 i4 fun e => s.bd i e hi).trans (hm.other i i2 i1 i4)
    exact ⟨k1, ha, ⟨k2, k3, hd⟩⟩
  · refine (hm.keep.mono fun i _ hi => ?_).then k5 fun i _ hi => ?_
    · rcases hi with h | h | h
      · exact .inl h
      · exact .inr ((hmem i).2 (.inl h))
      · exact .inr ((hmem i).2 (by simp [h]))
    · rcases hi with h | h | h
      · exact .inr ((hmem i).2 (by simp [h]))
      · exact .inr ((hmem i).2 (by simp [h]))
      · exact .inr ((hmem i).2 (by simp [h]))
theorem rotateRight_any (h : TreeIn w tb n cv (cx.plug (.node x c (.node y cy a ky vy b) k v d))) :
    Calls Try.prog 136 #[.pointer (some ⟨tb, 0, none⟩), .pointer (some ⟨x, 0, none⟩)] w fun e w' => e = .returned (.tuple #[]) ∧ TreeIn w' tb n cv (cx.plug (.node y cy a ky vy (.node x c b k v d))) ∧ Keep (Own tb (cx.plug (.node x c (.node y cy a ky vy b) k v d))) w w' :=
  (rotateRight_walk h).mono fun e w' ⟨he, hw⟩ => ⟨he, hw ▸ rotR_post h⟩
end
end Go.Proofs.Ytdamfannmlncnaa
