/- The tree's small functions, walked: colour, sibling, uncle, grandparent, the greatest node below a node; a node is put in another's place; a node is turned. -/
import Derived.Test.YtdamfannmlncnaaHeap
import Derived.Deep.LoopGhost
namespace Go.Proofs.Ytdamfannmlncnaa
open Go.RowKit
set_option linter.unusedVariables false
set_option linter.unusedSimpArgs false

theorem ptr_mem {t : T} {y : Nat} (h : t.ptr = some y) : y ∈ t.ids := by
  cases t with
  | nil => cases h
  | node x c l k v r => simp [T.ptr] at h; subst h; rw [ids_node]; simp
theorem Fits.plainO {w : World} {p : Option Nat} {t : T} (h : Fits w p t) : PlainO w t.ptr := fun _ hb => h.mem_some _ (ptr_mem hb)
theorem ptr_ne {t : T} {y : Nat} (h : y ∉ t.ids) : ¬ t.ptr = some y := fun e => h (ptr_mem e)

section
variable {w : World} {tb : Nat} {n : Int} {cv : Value} {up cx : Cx} {p x : Nat} {pc c : Bool} {l r s : T} {pk pv k v : Int}

theorem TreeIn.upL (h : TreeIn w tb n cv ((Cx.left up p pc pk pv s).plug (.node x c l k v r))) : TreeIn w tb n cv (up.plug (.node p pc (.node x c l k v r) pk pv s)) := h
theorem TreeIn.upR (h : TreeIn w tb n cv ((Cx.right up p pc s pk pv).plug (.node x c l k v r))) : TreeIn w tb n cv (up.plug (.node p pc s pk pv (.node x c l k v r))) := h
theorem TreeIn.neR (h : TreeIn w tb n cv (up.plug (.node p pc s pk pv (.node x c l k v r)))) : ¬ s.ptr = some x := by
  have hnd := h.nodup
  rw [nodup_plug] at hnd
  have h2 := hnd.2.1
  rw [ids_node, ids_node] at h2
  simp only [List.nodup_append, List.mem_cons, List.mem_append] at h2
  exact ptr_ne fun hx => h2.2.2 x hx x (.inr (.inr (.inl rfl))) rfl

theorem nodeColor_any {w : World} {p : Option Nat} {t : T} (h : Fits w p t) : Calls Try.prog 128 #[.pointer (ad t.ptr)] w fun e w' => e = .returned (.bool t.black) ∧ w = w' := by
  cases t with
  | nil =>
    show Calls Try.prog 128 #[.pointer none] w _
    go_enter Try.func128, Try.ntmps128
    go_wp2
    go_ret
    exact ⟨rfl, rfl⟩
  | node x c l k v r =>
    have h2 := node_col h.1
    show Calls Try.prog 128 #[.pointer (some ⟨x, 0, none⟩)] w fun e w' => e = .returned (.bool c) ∧ w = w'
    go_enter Try.func128, Try.ntmps128
    go_wp2
    go_ret
    exact ⟨rfl, rfl⟩

theorem sibling_left (h : TreeIn w tb n cv (up.plug (.node p pc (.node x c l k v r) pk pv s))) :
    Calls Try.prog 134 #[.pointer (some ⟨x, 0, none⟩)] w fun e w' => e = .returned (.pointer (ad s.ptr)) ∧ w = w' := by
  have hp := h.node
  have hx := h.sub.2.1.1
  have h5 : w.cell? ⟨x, 5, none⟩ = some (.pointer (some ⟨p, 0, none⟩)) := node_par hx
  have h3 : w.cell? ⟨p, 3, none⟩ = some (.pointer (some ⟨x, 0, none⟩)) := node_left hp
  have h4 := node_right hp
  have px := node_plain hx
  clear hp hx h
  go_enter Try.func134, Try.ntmps134
  go_wp2
  go_ret
  exact ⟨rfl, rfl⟩
theorem sibling_right (h : TreeIn w tb n cv (up.plug (.node p pc s pk pv (.node x c l k v r)))) :
    Calls Try.prog 134 #[.pointer (some ⟨x, 0, none⟩)] w fun e w' => e = .returned (.pointer (ad s.ptr)) ∧ w = w' := by
  have hp := h.node
  have hx := h.sub.2.2.1
  have h5 : w.cell? ⟨x, 5, none⟩ = some (.pointer (some ⟨p, 0, none⟩)) := node_par hx
  have h3 := node_left hp
  have px := node_plain hx
  have ps := h.sub.2.1.plainO
  have hne := h.neR
  clear hp hx h
  go_enter Try.func134, Try.ntmps134
  go_wp2
  go_ret
  exact ⟨rfl, rfl⟩

theorem grandparent_raw {w : World} {x p : Nat} {q : Option Nat} (hx : w.cell? ⟨x, 5, none⟩ = some (.pointer (some ⟨p, 0, none⟩))) (hp : w.cell? ⟨p, 5, none⟩ = some (.pointer (ad q))) :
    Calls Try.prog 139 #[.pointer (some ⟨x, 0, none⟩)] w fun e w' => e = .returned (.pointer (ad q)) ∧ w = w' := by
  go_enter Try.func139, Try.ntmps139
  go_wp2
  go_ret
  exact ⟨rfl, rfl⟩
theorem uncle_raw {w : World} {x p g : Nat} {v : Value} (hx : w.cell? ⟨x, 5, none⟩ = some (.pointer (some ⟨p, 0, none⟩))) (hp : w.cell? ⟨p, 5, none⟩ = some (.pointer (some ⟨g, 0, none⟩)))
    (hs : Calls Try.prog 134 #[.pointer (some ⟨p, 0, none⟩)] w fun e w' => e = .returned v ∧ w = w') :
    Calls Try.prog 138 #[.pointer (some ⟨x, 0, none⟩)] w fun e w' => e = .returned v ∧ w = w' := by
  have HS := hid hs
  clear hs
  go_enter Try.func138, Try.ntmps138
  go_wp2_with (go_at_call 134; refine HS.out.mono ?_; rintro e w' ⟨rfl, rfl⟩)
  go_ret
  exact ⟨rfl, rfl⟩
end

/-! ### The greatest node -/
/-- Down along right children. -/
def Cx.rights : Cx → List (Nat × Bool × T × Int × Int) → Cx
  | cx, [] => cx
  | cx, (x, c, l, k, v) :: rest => (Cx.right cx x c l k v).rights rest
theorem rights_snoc (rp : List (Nat × Bool × T × Int × Int)) (x c l k v) : ∀ cx, Cx.rights cx (rp ++ [(x, c, l, k, v)]) = Cx.right (cx.rights rp) x c l k v := by
  induction rp with
  | nil => intro cx; rfl
  | cons a rp ih => intro cx; obtain ⟨x', c', l', k', v'⟩ := a; exact ih _
/-- The way down to the greatest node of a tree. -/
structure MaxAt (t : T) (rp : List (Nat × Bool × T × Int × Int)) (s : T) : Prop where
  eq : ∀ cx : Cx, cx.plug t = (cx.rights rp).plug s

theorem maximumNode_any {w : World} {p : Option Nat} {x : Nat} {c : Bool} {l r : T} {k v : Int} (h : Fits w p (.node x c l k v r)) :
    Calls Try.prog 127 #[.pointer (some ⟨x, 0, none⟩)] w fun e w' => ∃ rp y yc yl yk yv, MaxAt (.node x c l k v r) rp (.node y yc yl yk yv .nil) ∧ e = .returned (.pointer (some ⟨y, 0, none⟩)) ∧ w = w' := by
  go_enter Try.func127, Try.ntmps127
  go_wp2
  go_loopg [0] (T.height (.node x c l k v r)) (fun g s wr => w = wr ∧ ∃ rp p' y yc yl yk yv yr, MaxAt (.node x c l k v r) rp (.node y yc yl yk yv yr) ∧ Fits w p' (.node y yc yl yk yv yr) ∧ g = T.height (.node y yc yl yk yv yr) ∧ s = .pointer (some ⟨y, 0, none⟩))
  case atStart => exact ⟨rfl, [], p, x, c, l, k, v, r, ⟨fun _ => rfl⟩, h, rfl, rfl⟩
  case round =>
    obtain ⟨rfl, rp, p', y, yc, yl, yk, yv, yr, hm, hf, hg, rfl⟩ := hrel
    have HA : Aside (MaxAt (.node x c l k v r) rp (.node y yc yl yk yv yr) ∧ Fits w p' (.node y yc yl yk yv yr) ∧ gk = T.height (.node y yc yl yk yv yr)) := ⟨hm, hf, hg⟩
    cases yr with
    | nil =>
      have h4 : w.cell? ⟨y, 4, none⟩ = some (.pointer none) := node_right hf.1
      clear h hm hf hg
      go_wp2
      go_ret
      exact ⟨rp, y, yc, yl, yk, yv, HA.out.1, rfl, rfl⟩
    | node z zc zl zk zv zr =>
      have h4 : w.cell? ⟨y, 4, none⟩ = some (.pointer (some ⟨z, 0, none⟩)) := node_right hf.1
      clear h hm hf hg
      go_wp2
      obtain ⟨hm, hf, hg⟩ := HA.out
      go_roundg (T.height (.node z zc zl zk zv zr))
      case measure => rw [hg]; simp only [T.height]; omega
      case rel => exact ⟨rfl, rp ++ [(y, yc, yl, yk, yv)], some y, z, zc, zl, zk, zv, zr, ⟨fun cx => by rw [hm.eq cx, rights_snoc]; rfl⟩, hf.2.2, rfl, rfl⟩

/-! ### A node is put in another's place -/
/-- The store that fills the hole. -/
def setHole (w : World) (tb : Nat) : Cx → Option Nat → World
  | .top, q => w.setCell ⟨tb, 0, none⟩ (.pointer (ad q))
  | .left _ p _ _ _ _, q => w.setCell ⟨p, 3, none⟩ (.pointer (ad q))
  | .right _ p _ _ _ _, q => w.setCell ⟨p, 4, none⟩ (.pointer (ad q))

/-- y is hung into the hole. -/
def moved (w : World) (tb : Nat) (cx : Cx) (y : Nat) : World := (setHole w tb cx (some y)).setCell ⟨y, 5, none⟩ (.pointer (ad cx.par))

section
variable {w : World} {tb : Nat} {n : Int} {cv : Value} {cx : Cx}
theorem cx_left_ids (up : Cx) (p : Nat) (pc : Bool) (pk pv : Int) (s : T) (i : Nat) : i ∈ (Cx.left up p pc pk pv s).ids ↔ i ∈ up.ids ∨ i = p ∨ i ∈ s.ids := by
  simp only [Cx.ids, Cx.bents, Cx.aents, List.mem_append, List.map_append, List.map_cons, List.mem_cons, T.ids]
  constructor
  · rintro (h | (h | h) | h) <;> simp [h]
  · rintro ((h | h) | h | h) <;> simp [h]
theorem cx_right_ids (up : Cx) (p : Nat) (pc : Bool) (pk pv : Int) (s : T) (i : Nat) : i ∈ (Cx.right up p pc s pk pv).ids ↔ i ∈ up.ids ∨ i = p ∨ i ∈ s.ids := by
  simp only [Cx.ids, Cx.bents, Cx.aents, List.mem_append, List.map_append, List.map_cons, List.mem_cons, T.ids, List.map_nil, List.not_mem_nil, or_false]
  constructor
  · rintro ((h | h | h) | h) <;> simp [h]
  · rintro ((h | h) | h | h) <;> simp [h]
theorem cx_left_nodup {up : Cx} {p : Nat} {pc : Bool} {pk pv : Int} {s : T} (h : (Cx.left up p pc pk pv s).ids.Nodup) : up.ids.Nodup ∧ p ∉ up.ids ∧ p ∉ s.ids ∧ (∀ i ∈ up.ids, i ∉ s.ids) ∧ s.ids.Nodup := by
  have h' : (up.plug (.node p pc .nil pk pv s)).ids.Nodup := by
    have e : (up.plug (.node p pc .nil pk pv s)).ids = (Cx.left up p pc pk pv s).ids := by rw [ids_plug]; simp [Cx.ids, Cx.bents, Cx.aents, ids_node, ids_nil]; simp [T.ids]
    rw [e]; exact h
  rw [nodup_plug] at h'
  simp only [ids_node, ids_nil, List.nil_append, List.nodup_cons, List.mem_cons] at h'
  exact ⟨h'.1, fun hp => h'.2.2 p hp (.inl rfl), h'.2.1.1, fun i hi hs => h'.2.2 i hi (.inr hs), h'.2.1.2⟩
theorem cx_right_nodup {up : Cx} {p : Nat} {pc : Bool} {pk pv : Int} {s : T} (h : (Cx.right up p pc s pk pv).ids.Nodup) : up.ids.Nodup ∧ p ∉ up.ids ∧ p ∉ s.ids ∧ (∀ i ∈ up.ids, i ∉ s.ids) ∧ s.ids.Nodup := by
  have h' : (up.plug (.node p pc s pk pv .nil)).ids.Nodup := by
    have e : (up.plug (.node p pc s pk pv .nil)).ids = (Cx.right up p pc s pk pv).ids := by rw [ids_plug]; simp [Cx.ids, Cx.bents, Cx.aents, ids_node, ids_nil]; simp [T.ids]
    rw [e]; exact h
  rw [nodup_plug] at h'
  simp only [ids_node, ids_nil, List.nodup_append, List.nodup_cons, List.mem_cons, List.mem_append, List.not_mem_nil, or_false] at h'
  exact ⟨h'.1, fun hp => h'.2.2 p hp (.inr rfl), fun hp => h'.2.1.2.2 p hp p rfl rfl, fun i hi hs => h'.2.2 i hi (.inl hs), h'.2.1.1⟩

theorem setHole_other {q : Option Nat} {i : Nat} (h1 : i ≠ tb) (h2 : i ∉ cx.ids) : (setHole w tb cx q).heap[i]? = w.heap[i]? := by
  cases cx with
  | top => exact set_other h1 _
  | left up p pc pk pv s => exact set_other (fun e => h2 ((cx_left_ids _ _ _ _ _ _ _).2 (.inr (.inl e)))) _
  | right up p pc s pk pv => exact set_other (fun e => h2 ((cx_right_ids _ _ _ _ _ _ _).2 (.inr (.inl e)))) _
theorem setHole_keep (q : Option Nat) : Keep (fun i => i = tb ∨ i ∈ cx.ids) w (setHole w tb cx q) := by
  cases cx with
  | top => exact (Keep.refl _ _).setCell _ (fun _ => .inl rfl) _
  | left up p pc pk pv s => exact (Keep.refl _ _).setCell _ (fun _ => .inr ((cx_left_ids _ _ _ _ _ _ _).2 (.inr (.inl rfl)))) _
  | right up p pc s pk pv => exact (Keep.refl _ _).setCell _ (fun _ => .inr ((cx_right_ids _ _ _ _ _ _ _).2 (.inr (.inl rfl)))) _
theorem HoleIn.set {q : Option Nat} (h : HoleIn w tb n cv cx q) (hnd : cx.ids.Nodup) (htb : tb ∉ cx.ids) (q' : Option Nat) : HoleIn (setHole w tb cx q') tb n cv cx q' := by
  cases cx with
  | top => exact ⟨set_root h.head q', trivial⟩
  | left up p pc pk pv s =>
    obtain ⟨n1, n2, n3, n4, n5⟩ := cx_left_nodup hnd
    have htp : tb ≠ p := fun e => htb ((cx_left_ids _ _ _ _ _ _ _).2 (.inr (.inl e)))
    exact ⟨(set_other htp _).trans h.head, set_left h.fits.1 q', h.fits.2.1.agree fun i hi => set_other (by rintro rfl; exact n3 hi) _, h.fits.2.2.agree fun i hi => set_other (by rintro rfl; exact n2 hi) _⟩
  | right up p pc s pk pv =>
    obtain ⟨n1, n2, n3, n4, n5⟩ := cx_right_nodup hnd
    have htp : tb ≠ p := fun e => htb ((cx_right_ids _ _ _ _ _ _ _).2 (.inr (.inl e)))
    exact ⟨(set_other htp _).trans h.head, set_right h.fits.1 q', h.fits.2.1.agree fun i hi => set_other (by rintro rfl; exact n3 hi) _, h.fits.2.2.agree fun i hi => set_other (by rintro rfl; exact n2 hi) _⟩
theorem HoleIn.agree {w' : World} {q : Option Nat} (h : HoleIn w tb n cv cx q) (h1 : w'.heap[tb]? = w.heap[tb]?) (h2 : ∀ i ∈ cx.ids, w'.heap[i]? = w.heap[i]?) : HoleIn w' tb n cv cx q :=
  ⟨h1.trans h.head, h.fits.agree h2⟩

theorem replaceNode_nil {old : Nat} {ok ov : Int} {oc : Bool} {ol orr : Option Nat} (h : HoleIn w tb n cv cx (some old)) (ho : w.heap[old]? = some (nodeObj ok ov oc ol orr cx.par)) (hold : old ∉ cx.ids) :
    Calls Try.prog 130 #[.pointer (some ⟨tb, 0, none⟩), .pointer (some ⟨old, 0, none⟩), .pointer none] w fun e w' => e = .returned (.tuple #[]) ∧ setHole w tb cx none = w' := by
  have ht0 := tree_root h.head
  have pt := tree_plain h.head
  have po := node_plain ho
  cases cx with
  | top =>
    have h5 : w.cell? ⟨old, 5, none⟩ = some (.pointer none) := node_par ho
    clear h ho hold
    go_enter Try.func130, Try.ntmps130
    go_wp2
    go_end0
    exact ⟨rfl, rfl⟩
  | left up p pc pk pv s =>
    have h5 : w.cell? ⟨old, 5, none⟩ = some (.pointer (some ⟨p, 0, none⟩)) := node_par ho
    have h3 : w.cell? ⟨p, 3, none⟩ = some (.pointer (some ⟨old, 0, none⟩)) := node_left h.fits.1
    have pp := node_plain h.fits.1
    clear h ho hold
    go_enter Try.func130, Try.ntmps130
    go_wp2
    go_end0
    exact ⟨rfl, rfl⟩
  | right up p pc s pk pv =>
    have h5 : w.cell? ⟨old, 5, none⟩ = some (.pointer (some ⟨p, 0, none⟩)) := node_par ho
    have h3 := node_left h.fits.1
    have h4 := node_right h.fits.1
    have pp := node_plain h.fits.1
    have ps := h.fits.2.1.plainO
    have hne : ¬ s.ptr = some old := ptr_ne fun e => hold ((cx_right_ids _ _ _ _ _ _ _).2 (.inr (.inr e)))
    clear h ho hold
    go_enter Try.func130, Try.ntmps130
    go_wp2
    go_end0
    exact ⟨rfl, rfl⟩

theorem replaceNode_some {old y : Nat} {ok ov yk yv : Int} {oc yc : Bool} {ol orr yl yr yp : Option Nat} (h : HoleIn w tb n cv cx (some old)) (ho : w.heap[old]? = some (nodeObj ok ov oc ol orr cx.par)) (hold : old ∉ cx.ids)
    (hy : w.heap[y]? = some (nodeObj yk yv yc yl yr yp)) (hyi : y ∉ cx.ids) (_hyt : y ≠ tb) (hyo : y ≠ old) :
    Calls Try.prog 130 #[.pointer (some ⟨tb, 0, none⟩), .pointer (some ⟨old, 0, none⟩), .pointer (some ⟨y, 0, none⟩)] w fun e w' => e = .returned (.tuple #[]) ∧ moved w tb cx y = w' := by
  have ht0 := tree_root h.head
  have pt := tree_plain h.head
  have po := node_plain ho
  have py := node_plain hy
  have y5 := node_par hy
  clear hy
  cases cx with
  | top =>
    have h5 : w.cell? ⟨old, 5, none⟩ = some (.pointer none) := node_par ho
    clear h ho hold
    go_enter Try.func130, Try.ntmps130
    go_wp2
    go_end0
    exact ⟨rfl, rfl⟩
  | left up p pc pk pv s =>
    have h5 : w.cell? ⟨old, 5, none⟩ = some (.pointer (some ⟨p, 0, none⟩)) := node_par ho
    have h3 : w.cell? ⟨p, 3, none⟩ = some (.pointer (some ⟨old, 0, none⟩)) := node_left h.fits.1
    have pp := node_plain h.fits.1
    clear h ho hold hyi
    go_enter Try.func130, Try.ntmps130
    go_wp2
    go_end0
    exact ⟨rfl, rfl⟩
  | right up p pc s pk pv =>
    have h5 : w.cell? ⟨old, 5, none⟩ = some (.pointer (some ⟨p, 0, none⟩)) := node_par ho
    have h3 := node_left h.fits.1
    have h4 := node_right h.fits.1
    have pp := node_plain h.fits.1
    have ps := h.fits.2.1.plainO
    have hne : ¬ s.ptr = some old := ptr_ne fun e => hold ((cx_right_ids _ _ _ _ _ _ _).2 (.inr (.inr e)))
    clear h ho hold hyi
    go_enter Try.func130, Try.ntmps130
    go_wp2
    go_end0
    exact ⟨rfl, rfl⟩
end

end Go.Proofs.Ytdamfannmlncnaa
