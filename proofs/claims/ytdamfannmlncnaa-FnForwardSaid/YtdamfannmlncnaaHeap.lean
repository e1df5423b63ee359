/- How a red-black tree lies in the model's memory; what a store does to it; that what is kept stays. No walk. -/
import Derived.WalkKit
import Derived.WideLaws
import Derived.LaidEqlPtr
import Derived.Deep.Draws
import Derived.Test.YtdamfannmlncnaaProg
import Derived.Test.YtdamfannmlncnaaTree
namespace Go.Proofs.Ytdamfannmlncnaa
open Go.RowKit
set_option linter.unusedVariables false
set_option linter.unusedSimpArgs false

theorem hid {p : Prop} (h : p) : Hid p := h

/-! ### What stays: all blocks but those of S -/

structure Keep (S : Nat → Prop) (w w' : World) : Prop where
  os : w'.os = w.os
  tape : w'.tape = w.tape
  output : w'.output = w.output
  size : w.heap.size ≤ w'.heap.size
  block : ∀ i, i < w.heap.size → ¬ S i → w'.heap[i]? = w.heap[i]?

theorem Keep.refl (S : Nat → Prop) (w : World) : Keep S w w := ⟨rfl, rfl, rfl, Nat.le_refl _, fun _ _ _ => rfl⟩
theorem Keep.trans {S : Nat → Prop} {a b c : World} (h : Keep S a b) (k : Keep S b c) : Keep S a c :=
  ⟨k.os.trans h.os, k.tape.trans h.tape, k.output.trans h.output, Nat.le_trans h.size k.size,
    fun i hi hs => (k.block i (Nat.lt_of_lt_of_le hi h.size) hs).trans (h.block i hi hs)⟩
theorem Keep.mono {S S' : Nat → Prop} {w w' : World} (h : Keep S w w') (hs : ∀ i, i < w.heap.size → S i → S' i) : Keep S' w w' :=
  ⟨h.os, h.tape, h.output, h.size, fun i hi hn => h.block i hi (fun x => hn (hs i hi x))⟩
/-- Two steps; what the second may touch, of what was there at first, the first may touch too. -/
theorem Keep.then {S S' : Nat → Prop} {a b c : World} (h : Keep S a b) (k : Keep S' b c) (hs : ∀ i, i < a.heap.size → S' i → S i) : Keep S a c :=
  ⟨k.os.trans h.os, k.tape.trans h.tape, k.output.trans h.output, Nat.le_trans h.size k.size,
    fun i hi hn => (k.block i (Nat.lt_of_lt_of_le hi h.size) (fun x => hn (hs i hi x))).trans (h.block i hi hn)⟩
theorem Keep.drew {S : Nat → Prop} {a w : World} (h : Keep S a w) : Keep S a w.drew := ⟨h.os, h.tape, h.output, h.size, h.block⟩
theorem Keep.drewN {S : Nat → Prop} {a w : World} (h : Keep S a w) (n : Nat) : Keep S a (w.drewN n) := ⟨h.os, h.tape, h.output, h.size, h.block⟩
theorem Keep.setCell {S : Nat → Prop} {a w : World} (h : Keep S a w) (p : Addr) (hp : p.block < a.heap.size → S p.block) (v : Value) : Keep S a (w.setCell p v) := by
  refine ⟨h.os, h.tape, h.output, by simpa using h.size, fun i hi hn => ?_⟩
  rw [Below.heap_setCell _ _ _ _ (fun e => hn (by subst e; exact hp hi))]
  exact h.block i hi hn
theorem Keep.alloc {S : Nat → Prop} {a w : World} (h : Keep S a w) (o : Obj) : Keep S a (w.alloc o) := by
  refine ⟨h.os, h.tape, h.output, by have := h.size; simp; omega, fun i hi hn => ?_⟩
  rw [Below.heap_alloc _ _ _ (Nat.lt_of_lt_of_le hi h.size)]
  exact h.block i hi hn
theorem Keep.below {B : Nat} {w w' : World} (h : Keep (fun i => B ≤ i) w w') (hB : B ≤ w.heap.size) : Below B w w' :=
  ⟨h.os, h.tape, h.output, h.size, fun k hk => h.block k (Nat.lt_of_lt_of_le hk hB) (by omega)⟩
theorem Keep.of_below {w w' : World} (h : Below w.heap.size w w') : Keep (fun _ => False) w w' :=
  ⟨h.os, h.tape, h.output, h.size, fun k hk _ => h.block k hk⟩
theorem Keep.to_below {w w' : World} (h : Keep (fun _ => False) w w') : Below w.heap.size w w' :=
  ⟨h.os, h.tape, h.output, h.size, fun k hk => h.block k hk (fun x => x)⟩
theorem Keep.get {S : Nat → Prop} {w w' : World} (h : Keep S w w') {i : Nat} {o : Obj} (hi : w.heap[i]? = some o) (hs : ¬ S i) : w'.heap[i]? = some o := by
  have hlt : i < w.heap.size := by
    rcases Nat.lt_or_ge i w.heap.size with h | h
    · exact h
    · rw [Array.getElem?_eq_none h] at hi; cases hi
  rw [h.block i hlt hs, hi]
theorem lt_of_heap {w : World} {i : Nat} {o : Obj} (hi : w.heap[i]? = some o) : i < w.heap.size := by
  rcases Nat.lt_or_ge i w.heap.size with h | h
  · exact h
  · rw [Array.getElem?_eq_none h] at hi; cases hi

/-! ### Plain blocks: rows of cells of which none is frozen -/

def Plain (w : World) (n : Nat) : Prop := ∃ c t, w.heap[n]? = some (.cells c t (0, 0))
def PlainO (w : World) (x : Option Nat) : Prop := ∀ b, x = some b → Plain w b
def ad (x : Option Nat) : Option Addr := x.map fun b => ⟨b, 0, none⟩
theorem ad_some (b : Nat) : ad (some b) = some ⟨b, 0, none⟩ := rfl
theorem ad_none : ad none = none := rfl
theorem ad_isNone (x : Option Nat) : (ad x).isNone = x.isNone := by cases x <;> rfl

theorem plain_setCell_iff (w : World) (a : Addr) (v : Value) (n : Nat) : Plain (w.setCell a v) n ↔ Plain w n := by
  unfold Plain
  simp only [World.setCell, Array.getElem?_modify]
  split
  · rename_i h
    cases hw : w.heap[n]? with
    | none => simp
    | some o => cases o <;> simp
  · rfl
theorem Plain.setCell {w : World} {n : Nat} (h : Plain w n) (a : Addr) (v : Value) : Plain (w.setCell a v) n := (plain_setCell_iff w a v n).2 h
theorem Plain.alloc {w : World} {n : Nat} (h : Plain w n) (o : Obj) : Plain (w.alloc o) n := by
  obtain ⟨c, t, h⟩ := h
  exact ⟨c, t, by rw [Below.heap_alloc _ _ _ (lt_of_heap h)]; exact h⟩
theorem Plain.new (w : World) (c : Array Value) (t : TypeId) : Plain (w.alloc (.cells c t)) w.heap.size := ⟨c, t, by show (w.heap.push _)[w.heap.size]? = _; simp⟩
theorem Plain.lt {w : World} {n : Nat} (h : Plain w n) : n < w.heap.size := by obtain ⟨c, t, h⟩ := h; exact lt_of_heap h
theorem Plain.drewN {w : World} {n : Nat} (h : Plain w n) (k : Nat) : Plain (w.drewN k) n := h

@[go_sem] theorem plain_setCell (w : World) (a : Addr) (v : Value) (n : Nat) : Plain (w.setCell a v) n = Plain w n := propext (plain_setCell_iff w a v n)
@[go_sem] theorem plainO_setCell (w : World) (a : Addr) (v : Value) (x : Option Nat) : PlainO (w.setCell a v) x = PlainO w x := by
  unfold PlainO; simp only [plain_setCell]
@[go_sem] theorem plain_drew (w : World) (n : Nat) : Plain w.drew n = Plain w n := propext ⟨fun h => h, fun h => h⟩
@[go_sem] theorem plainO_drew (w : World) (n : Option Nat) : PlainO w.drew n = PlainO w n := propext ⟨fun h => h, fun h => h⟩
@[go_sem] theorem plain_drewN (w : World) (k n : Nat) : Plain (w.drewN k) n = Plain w n := propext ⟨fun h => h, fun h => h⟩
@[go_sem] theorem plainO_drewN (w : World) (k : Nat) (n : Option Nat) : PlainO (w.drewN k) n = PlainO w n := propext ⟨fun h => h, fun h => h⟩
@[go_sem] theorem plain_alloc (w : World) (o : Obj) (n : Nat) (h : Plain w n) : Plain (w.alloc o) n := h.alloc o
@[go_sem] theorem frozen_plain (w : World) (n o : Nat) (h : Plain w n) : w.frozen? ⟨n, o, none⟩ = false := by
  obtain ⟨c, t, h⟩ := h
  simp [World.frozen?, h]

/-! ### Nodes compared -/
theorem info128 : ∃ j, Try.prog.info? 128 = some j ∧ j.size ≠ 0 := by
  have h : (Try.prog.info? 128).map (fun i => i.size) = some 6 := by kernel_rfl
  cases hh : Try.prog.info? 128 with
  | none => rw [hh] at h; cases h
  | some j => rw [hh] at h; simp at h; exact ⟨j, rfl, by omega⟩

@[go_sem] theorem eql_nodes (w : World) (a b : Nat) (ha : Plain w a) (hb : Plain w b) :
    (binOp .eql 91 (.pointer (some ⟨a, 0, none⟩)) (.pointer (some ⟨b, 0, none⟩))).run Try.prog w = .ok (.bool (decide (a = b))) w := by
  obtain ⟨j, hj, hs⟩ := info128
  by_cases h : a = b
  · subst h
    rw [run_eql_ptr_same w ⟨a, 0, none⟩ Try.underlying91 hj]; simp
  · obtain ⟨ca, ta, ha⟩ := ha
    obtain ⟨cb, tb, hb⟩ := hb
    have hne : (⟨a, 0, none⟩ : Addr) ≠ ⟨b, 0, none⟩ := by intro e; injection e with e; exact h e
    rw [run_eql_ptr_other w (a := ⟨a, 0, none⟩) (b := ⟨b, 0, none⟩) Try.underlying91 hj hs hne ha hb, decide_eq_false h]
@[go_sem] theorem eql_nodesO (w : World) (a : Nat) (x : Option Nat) (ha : Plain w a) (hb : PlainO w x) :
    (binOp .eql 91 (.pointer (some ⟨a, 0, none⟩)) (.pointer (ad x))).run Try.prog w = .ok (.bool (decide (x = some a))) w := by
  cases x with
  | none =>
    have hp : Try.prog.underlying 91 = some (.pointer (Try.prog.pointee 91)) := by simp [Program.pointee, Try.underlying91]
    rw [ad_none, run_eql_pointer_nil w 91 _ hp]; simp
  | some b => rw [ad_some, eql_nodes w a b ha (hb b rfl)]; simp only [Option.some.injEq]; rw [show (decide (a = b)) = decide (b = a) from by simp only [eq_comm]]

/-! ### A node, a tree's head, in memory -/

def nodeObj (k v : Int) (c : Bool) (l r p : Option Nat) : Obj :=
  .cells #[.iface 3 (.int .i64 k), .iface 3 (.int .i64 v), .bool c, .pointer (ad l), .pointer (ad r), .pointer (ad p)] 128 (0, 0)
def treeObj (root : Option Nat) (n : Int) (cv : Value) : Obj := .cells #[.pointer (ad root), .int .i64 n, cv] 132 (0, 0)

theorem node_plain {w : World} {x : Nat} {k v : Int} {c : Bool} {l r p : Option Nat} (h : w.heap[x]? = some (nodeObj k v c l r p)) : Plain w x := ⟨_, _, h⟩
theorem node_key {w : World} {x : Nat} {k v : Int} {c : Bool} {l r p : Option Nat} (h : w.heap[x]? = some (nodeObj k v c l r p)) : w.cell? ⟨x, 0, none⟩ = some (.iface 3 (.int .i64 k)) := by simp [World.cell?, h, nodeObj]
theorem node_val {w : World} {x : Nat} {k v : Int} {c : Bool} {l r p : Option Nat} (h : w.heap[x]? = some (nodeObj k v c l r p)) : w.cell? ⟨x, 1, none⟩ = some (.iface 3 (.int .i64 v)) := by simp [World.cell?, h, nodeObj]
theorem node_col {w : World} {x : Nat} {k v : Int} {c : Bool} {l r p : Option Nat} (h : w.heap[x]? = some (nodeObj k v c l r p)) : w.cell? ⟨x, 2, none⟩ = some (.bool c) := by simp [World.cell?, h, nodeObj]
theorem node_left {w : World} {x : Nat} {k v : Int} {c : Bool} {l r p : Option Nat} (h : w.heap[x]? = some (nodeObj k v c l r p)) : w.cell? ⟨x, 3, none⟩ = some (.pointer (ad l)) := by simp [World.cell?, h, nodeObj]
theorem node_right {w : World} {x : Nat} {k v : Int} {c : Bool} {l r p : Option Nat} (h : w.heap[x]? = some (nodeObj k v c l r p)) : w.cell? ⟨x, 4, none⟩ = some (.pointer (ad r)) := by simp [World.cell?, h, nodeObj]
theorem node_par {w : World} {x : Nat} {k v : Int} {c : Bool} {l r p : Option Nat} (h : w.heap[x]? = some (nodeObj k v c l r p)) : w.cell? ⟨x, 5, none⟩ = some (.pointer (ad p)) := by simp [World.cell?, h, nodeObj]
theorem tree_plain {w : World} {x : Nat} {root : Option Nat} {n : Int} {cv : Value} (h : w.heap[x]? = some (treeObj root n cv)) : Plain w x := ⟨_, _, h⟩
theorem tree_root {w : World} {x : Nat} {root : Option Nat} {n : Int} {cv : Value} (h : w.heap[x]? = some (treeObj root n cv)) : w.cell? ⟨x, 0, none⟩ = some (.pointer (ad root)) := by simp [World.cell?, h, treeObj]
theorem tree_size {w : World} {x : Nat} {root : Option Nat} {n : Int} {cv : Value} (h : w.heap[x]? = some (treeObj root n cv)) : w.cell? ⟨x, 1, none⟩ = some (.int .i64 n) := by simp [World.cell?, h, treeObj]
theorem tree_cmp {w : World} {x : Nat} {root : Option Nat} {n : Int} {cv : Value} (h : w.heap[x]? = some (treeObj root n cv)) : w.cell? ⟨x, 2, none⟩ = some cv := by simp [World.cell?, h, treeObj]

theorem heap_set {w : World} {a : Addr} {v : Value} {c : Array Value} {t : TypeId} {f : Nat × Nat} (h : w.heap[a.block]? = some (.cells c t f)) (hs : a.spot = none) :
    (w.setCell a v).heap[a.block]? = some (.cells (c.setIfInBounds a.off v) t f) := by
  simp only [World.setCell, Array.getElem?_modify, if_true, h, Option.map_some, hs]
  simp
theorem set_key {w : World} {x : Nat} {k v : Int} {c : Bool} {l r p : Option Nat} (h : w.heap[x]? = some (nodeObj k v c l r p)) (k' : Int) : (w.setCell ⟨x, 0, none⟩ (.iface 3 (.int .i64 k'))).heap[x]? = some (nodeObj k' v c l r p) := by
  rw [heap_set (a := ⟨x, 0, none⟩) h rfl]; simp [nodeObj]
theorem set_val {w : World} {x : Nat} {k v : Int} {c : Bool} {l r p : Option Nat} (h : w.heap[x]? = some (nodeObj k v c l r p)) (v' : Int) : (w.setCell ⟨x, 1, none⟩ (.iface 3 (.int .i64 v'))).heap[x]? = some (nodeObj k v' c l r p) := by
  rw [heap_set (a := ⟨x, 1, none⟩) h rfl]; simp [nodeObj]
theorem set_col {w : World} {x : Nat} {k v : Int} {c : Bool} {l r p : Option Nat} (h : w.heap[x]? = some (nodeObj k v c l r p)) (c' : Bool) : (w.setCell ⟨x, 2, none⟩ (.bool c')).heap[x]? = some (nodeObj k v c' l r p) := by
  rw [heap_set (a := ⟨x, 2, none⟩) h rfl]; simp [nodeObj]
theorem set_left {w : World} {x : Nat} {k v : Int} {c : Bool} {l r p : Option Nat} (h : w.heap[x]? = some (nodeObj k v c l r p)) (l' : Option Nat) : (w.setCell ⟨x, 3, none⟩ (.pointer (ad l'))).heap[x]? = some (nodeObj k v c l' r p) := by
  rw [heap_set (a := ⟨x, 3, none⟩) h rfl]; simp [nodeObj]
theorem set_right {w : World} {x : Nat} {k v : Int} {c : Bool} {l r p : Option Nat} (h : w.heap[x]? = some (nodeObj k v c l r p)) (r' : Option Nat) : (w.setCell ⟨x, 4, none⟩ (.pointer (ad r'))).heap[x]? = some (nodeObj k v c l r' p) := by
  rw [heap_set (a := ⟨x, 4, none⟩) h rfl]; simp [nodeObj]
theorem set_par {w : World} {x : Nat} {k v : Int} {c : Bool} {l r p : Option Nat} (h : w.heap[x]? = some (nodeObj k v c l r p)) (p' : Option Nat) : (w.setCell ⟨x, 5, none⟩ (.pointer (ad p'))).heap[x]? = some (nodeObj k v c l r p') := by
  rw [heap_set (a := ⟨x, 5, none⟩) h rfl]; simp [nodeObj]
theorem set_root {w : World} {x : Nat} {root : Option Nat} {n : Int} {cv : Value} (h : w.heap[x]? = some (treeObj root n cv)) (r' : Option Nat) : (w.setCell ⟨x, 0, none⟩ (.pointer (ad r'))).heap[x]? = some (treeObj r' n cv) := by
  rw [heap_set (a := ⟨x, 0, none⟩) h rfl]; simp [treeObj]
theorem set_size {w : World} {x : Nat} {root : Option Nat} {n : Int} {cv : Value} (h : w.heap[x]? = some (treeObj root n cv)) (n' : Int) : (w.setCell ⟨x, 1, none⟩ (.int .i64 n')).heap[x]? = some (treeObj root n' cv) := by
  rw [heap_set (a := ⟨x, 1, none⟩) h rfl]; simp [treeObj]
theorem set_other {w : World} {x : Nat} {a : Addr} (hx : x ≠ a.block) (v : Value) : (w.setCell a v).heap[x]? = w.heap[x]? := Below.heap_setCell w a v x hx

/-! ### A tree, a context, in memory -/

def Fits (w : World) : Option Nat → T → Prop
  | _, .nil => True
  | p, .node x c l k v r => w.heap[x]? = some (nodeObj k v c l.ptr r.ptr p) ∧ Fits w (some x) l ∧ Fits w (some x) r
def CFits (w : World) : Cx → Option Nat → Prop
  | .top, _ => True
  | .left up x c k v r, q => w.heap[x]? = some (nodeObj k v c q r.ptr up.par) ∧ Fits w (some x) r ∧ CFits w up (some x)
  | .right up x c l k v, q => w.heap[x]? = some (nodeObj k v c l.ptr q up.par) ∧ Fits w (some x) l ∧ CFits w up (some x)
/-- What the tree's head leads to, if the hole is filled by q. -/
def Cx.rootp : Cx → Option Nat → Option Nat
  | .top, q => q
  | .left up x _ _ _ _, _ => up.rootp (some x)
  | .right up x _ _ _ _, _ => up.rootp (some x)
def Cx.ids (cx : Cx) : List Nat := cx.bents.map (·.1) ++ cx.aents.map (·.1)

structure TreeIn (w : World) (tb : Nat) (n : Int) (cv : Value) (t : T) : Prop where
  head : w.heap[tb]? = some (treeObj t.ptr n cv)
  fits : Fits w none t
  nodup : t.ids.Nodup
  apart : tb ∉ t.ids
structure HoleIn (w : World) (tb : Nat) (n : Int) (cv : Value) (cx : Cx) (q : Option Nat) : Prop where
  head : w.heap[tb]? = some (treeObj (cx.rootp q) n cv)
  fits : CFits w cx q

theorem plug_ptr (cx : Cx) : ∀ t, (cx.plug t).ptr = cx.rootp t.ptr := by
  induction cx with
  | top => intro t; rfl
  | left up x c k v r ih => intro t; exact ih _
  | right up x c l k v ih => intro t; exact ih _

theorem fits_plug (w : World) (cx : Cx) : ∀ t, Fits w none (cx.plug t) ↔ CFits w cx t.ptr ∧ Fits w cx.par t := by
  induction cx with
  | top => intro t; simp [Cx.plug, CFits, Cx.par]
  | left up x c k v r ih =>
    intro t
    simp only [Cx.plug, ih, CFits, Cx.par, Fits, T.ptr]
    constructor
    · rintro ⟨h1, h2, h3, h4⟩; exact ⟨⟨h2, h4, h1⟩, h3⟩
    · rintro ⟨⟨h2, h4, h1⟩, h3⟩; exact ⟨h1, h2, h3, h4⟩
  | right up x c l k v ih =>
    intro t
    simp only [Cx.plug, ih, CFits, Cx.par, Fits, T.ptr]
    constructor
    · rintro ⟨h1, h2, h3, h4⟩; exact ⟨⟨h2, h3, h1⟩, h4⟩
    · rintro ⟨⟨h2, h4, h1⟩, h3⟩; exact ⟨h1, h2, h4, h3⟩

theorem ids_plug (cx : Cx) (t : T) : (cx.plug t).ids = cx.bents.map (·.1) ++ t.ids ++ cx.aents.map (·.1) := by
  simp [T.ids, plug_ents]
theorem ids_node (x c l k v r) : (T.node x c l k v r).ids = l.ids ++ x :: r.ids := by simp [T.ids, T.ents]
theorem ids_nil : T.nil.ids = [] := rfl
theorem mem_ids_plug (cx : Cx) (t : T) (i : Nat) : i ∈ (cx.plug t).ids ↔ i ∈ cx.ids ∨ i ∈ t.ids := by
  simp only [ids_plug, Cx.ids, List.mem_append]
  constructor
  · rintro ((h | h) | h)
    · exact .inl (.inl h)
    · exact .inr h
    · exact .inl (.inr h)
  · rintro ((h | h) | h)
    · exact .inl (.inl h)
    · exact .inr h
    · exact .inl (.inr h)
theorem nodup_plug (cx : Cx) (t : T) : (cx.plug t).ids.Nodup ↔ cx.ids.Nodup ∧ t.ids.Nodup ∧ ∀ i ∈ cx.ids, i ∉ t.ids := by
  rw [ids_plug, Cx.ids]
  simp only [List.nodup_append, List.mem_append]
  constructor
  · rintro ⟨⟨h1, h2, h3⟩, h4, h5⟩
    refine ⟨⟨h1, h4, fun a ha b hb => h5 a (.inl ha) b hb⟩, h2, ?_⟩
    rintro i (hi | hi) ht
    · exact h3 i hi i ht rfl
    · exact h5 i (.inr ht) i hi rfl
  · rintro ⟨⟨h1, h4, h5⟩, h2, h3⟩
    refine ⟨⟨h1, h2, fun a ha b hb e => h3 a (.inl ha) (e ▸ hb)⟩, h4, ?_⟩
    rintro a (ha | ha) b hb e
    · exact h5 a ha b hb e
    · exact h3 b (.inr hb) (e ▸ ha)

theorem Fits.agree {w w' : World} {t : T} : ∀ {p : Option Nat}, Fits w p t → (∀ i ∈ t.ids, w'.heap[i]? = w.heap[i]?) → Fits w' p t := by
  induction t with
  | nil => intro p _ _; trivial
  | node x c l k v r ihl ihr =>
    intro p h hs
    simp only [ids_node, List.mem_append, List.mem_cons] at hs
    exact ⟨(hs x (.inr (.inl rfl))).trans h.1, ihl h.2.1 fun i hi => hs i (.inl hi), ihr h.2.2 fun i hi => hs i (.inr (.inr hi))⟩
theorem CFits.agree {w w' : World} {cx : Cx} : ∀ {q : Option Nat}, CFits w cx q → (∀ i ∈ cx.ids, w'.heap[i]? = w.heap[i]?) → CFits w' cx q := by
  induction cx with
  | top => intro q _ _; trivial
  | left up x c k v r ih =>
    intro q h hs
    simp only [Cx.ids, Cx.bents, Cx.aents, List.mem_append, List.map_append, List.map_cons, List.mem_cons] at hs ih
    exact ⟨(hs x (by simp)).trans h.1, h.2.1.agree fun i hi => hs i (.inr (.inl (.inr hi))), ih h.2.2 fun i hi => hs i (by rcases hi with h | h <;> simp [h])⟩
  | right up x c l k v ih =>
    intro q h hs
    simp only [Cx.ids, Cx.bents, Cx.aents, List.mem_append, List.map_append, List.map_cons, List.mem_cons] at hs ih
    exact ⟨(hs x (by simp)).trans h.1, h.2.1.agree fun i hi => hs i (.inl (.inr (.inl hi))), ih h.2.2 fun i hi => hs i (by rcases hi with h | h <;> simp [h])⟩
/-- A subtree whose root is hung under another node. -/
theorem Fits.rehung {w w' : World} {x : Nat} {c : Bool} {l r : T} {k v : Int} {p p' : Option Nat} (h : Fits w p (.node x c l k v r))
    (hx : w'.heap[x]? = some (nodeObj k v c l.ptr r.ptr p')) (hs : ∀ i ∈ (T.node x c l k v r).ids, i ≠ x → w'.heap[i]? = w.heap[i]?) (hnd : (T.node x c l k v r).ids.Nodup) : Fits w' p' (.node x c l k v r) := by
  rw [ids_node] at hnd hs
  simp only [List.nodup_append, List.nodup_cons, List.mem_append, List.mem_cons] at hnd hs
  refine ⟨hx, h.2.1.agree fun i hi => hs i (.inl hi) ?_, h.2.2.agree fun i hi => hs i (.inr (.inr hi)) ?_⟩
  · exact hnd.2.2 i hi x (.inl rfl)
  · rintro rfl; exact hnd.2.1.1 hi

theorem Fits.mem_some {w : World} {t : T} : ∀ {p : Option Nat}, Fits w p t → ∀ i ∈ t.ids, Plain w i := by
  induction t with
  | nil => intro p _ i hi; simp [ids_nil] at hi
  | node x c l k v r ihl ihr =>
    intro p h i hi
    simp only [ids_node, List.mem_append, List.mem_cons] at hi
    rcases hi with hi | rfl | hi
    · exact ihl h.2.1 i hi
    · exact node_plain h.1
    · exact ihr h.2.2 i hi
theorem CFits.mem_some {w : World} {cx : Cx} : ∀ {q : Option Nat}, CFits w cx q → ∀ i ∈ cx.ids, Plain w i := by
  induction cx with
  | top => intro p _ i hi; simp [Cx.ids, Cx.bents, Cx.aents] at hi
  | left up x c k v r ih =>
    intro p h i hi
    simp only [Cx.ids, Cx.bents, Cx.aents, List.mem_append, List.map_append, List.map_cons, List.mem_cons] at hi ih
    rcases hi with hi | (rfl | hi) | hi
    · exact ih h.2.2 i (.inl hi)
    · exact node_plain h.1
    · exact h.2.1.mem_some i hi
    · exact ih h.2.2 i (.inr hi)
  | right up x c l k v ih =>
    intro p h i hi
    simp only [Cx.ids, Cx.bents, Cx.aents, List.mem_append, List.map_append, List.map_cons, List.mem_cons, List.map_nil] at hi ih
    rcases hi with (hi | hi | hi | hi) | hi
    · exact ih h.2.2 i (.inl hi)
    · exact h.2.1.mem_some i hi
    · subst hi; exact node_plain h.1
    · simp at hi
    · exact ih h.2.2 i (.inr hi)

namespace TreeIn
variable {w : World} {tb : Nat} {n : Int} {cv : Value} {cx : Cx} {t : T}

theorem hole (h : TreeIn w tb n cv (cx.plug t)) : HoleIn w tb n cv cx t.ptr := ⟨by rw [← plug_ptr]; exact h.head, ((fits_plug w cx t).1 h.fits).1⟩
theorem sub (h : TreeIn w tb n cv (cx.plug t)) : Fits w cx.par t := ((fits_plug w cx t).1 h.fits).2
theorem of (h : HoleIn w tb n cv cx t.ptr) (h' : Fits w cx.par t) (hn : (cx.plug t).ids.Nodup) (ha : tb ∉ (cx.plug t).ids) : TreeIn w tb n cv (cx.plug t) :=
  ⟨by rw [plug_ptr]; exact h.head, (fits_plug w cx t).2 ⟨h.fits, h'⟩, hn, ha⟩
theorem node {x : Nat} {c : Bool} {l r : T} {k v : Int} (h : TreeIn w tb n cv (cx.plug (.node x c l k v r))) : w.heap[x]? = some (nodeObj k v c l.ptr r.ptr cx.par) := h.sub.1
theorem keep {S : Nat → Prop} {w' : World} {t : T} (h : TreeIn w tb n cv t) (hk : Keep S w w') (h1 : ¬ S tb) (h2 : ∀ i ∈ t.ids, ¬ S i) : TreeIn w' tb n cv t :=
  ⟨hk.get h.head h1, h.fits.agree fun i hi => hk.block i (h.fits.mem_some i hi).lt (h2 i hi), h.nodup, h.apart⟩
theorem lt {t : T} (h : TreeIn w tb n cv t) {i : Nat} (hi : i ∈ t.ids) : i < w.heap.size := (h.fits.mem_some i hi).lt

/-- A store into a node that turns nothing but its key, its value, its colour. -/
theorem store {x : Nat} {c c' : Bool} {l r : T} {k v k' v' : Int} {w' : World} (h : TreeIn w tb n cv (cx.plug (.node x c l k v r)))
    (hx : w'.heap[x]? = some (nodeObj k' v' c' l.ptr r.ptr cx.par)) (hs : ∀ i, i ≠ x → w'.heap[i]? = w.heap[i]?) : TreeIn w' tb n cv (cx.plug (.node x c' l k' v' r)) := by
  have hm : (cx.plug (.node x c' l k' v' r)).ids = (cx.plug (.node x c l k v r)).ids := by simp only [ids_plug, ids_node]
  have hnd := h.nodup
  have hap := h.apart
  rw [nodup_plug] at hnd
  have hnd2 := hnd.2.1
  rw [ids_node] at hnd2
  simp only [List.nodup_append, List.nodup_cons, List.mem_cons] at hnd2
  have hxm : x ∈ (cx.plug (.node x c l k v r)).ids := by rw [mem_ids_plug, ids_node]; simp
  refine of ⟨?_, h.hole.fits.agree fun i hi => hs i ?_⟩ ⟨hx, h.sub.2.1.agree fun i hi => hs i ?_, h.sub.2.2.agree fun i hi => hs i ?_⟩ (by rw [hm]; exact h.nodup) (by rw [hm]; exact hap)
  · rw [hs tb (fun e => hap (e ▸ hxm))]; exact h.hole.head
  · rintro rfl; exact hnd.2.2 i hi (by rw [ids_node]; simp)
  · exact hnd2.2.2 i hi x (.inl rfl)
  · rintro rfl; exact hnd2.2.1.1 hi
theorem setCol {x : Nat} {c : Bool} {l r : T} {k v : Int} (h : TreeIn w tb n cv (cx.plug (.node x c l k v r))) (c' : Bool) :
    TreeIn (w.setCell ⟨x, 2, none⟩ (.bool c')) tb n cv (cx.plug (.node x c' l k v r)) := h.store (set_col h.node c') fun _ hi => set_other hi _
theorem setKey {x : Nat} {c : Bool} {l r : T} {k v : Int} (h : TreeIn w tb n cv (cx.plug (.node x c l k v r))) (k' : Int) :
    TreeIn (w.setCell ⟨x, 0, none⟩ (.iface 3 (.int .i64 k'))) tb n cv (cx.plug (.node x c l k' v r)) := h.store (set_key h.node k') fun _ hi => set_other hi _
theorem setVal {x : Nat} {c : Bool} {l r : T} {k v : Int} (h : TreeIn w tb n cv (cx.plug (.node x c l k v r))) (v' : Int) :
    TreeIn (w.setCell ⟨x, 1, none⟩ (.iface 3 (.int .i64 v'))) tb n cv (cx.plug (.node x c l k v' r)) := h.store (set_val h.node v') fun _ hi => set_other hi _
theorem setSize {t : T} (h : TreeIn w tb n cv t) (n' : Int) : TreeIn (w.setCell ⟨tb, 1, none⟩ (.int .i64 n')) tb n' cv t :=
  ⟨set_size h.head n', h.fits.agree fun i hi => set_other (by rintro rfl; exact h.apart hi) _, h.nodup, h.apart⟩
end TreeIn

/-- What the tree's own functions may touch. -/
def Own (tb : Nat) (t : T) : Nat → Prop := fun i => i = tb ∨ i ∈ t.ids
theorem own_plug {tb : Nat} {cx : Cx} {x c l k v r} : Own tb (cx.plug (.node x c l k v r)) x := .inr (by rw [mem_ids_plug, ids_node]; simp)

end Go.Proofs.Ytdamfannmlncnaa
