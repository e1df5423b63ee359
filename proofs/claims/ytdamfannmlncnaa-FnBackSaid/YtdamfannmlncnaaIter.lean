/- The tree's iterator: where it stands; its first and its last node. -/
import Derived.Test.YtdamfannmlncnaaRem
import Derived.ScopeJumps
import Derived.WalkMore
namespace Go
/-- As Q; by a goto to the first label J0, to the second J1. -/
def Exit.two (J0 J1 : Act → World → Prop) (Q : Exit → Act → World → Prop) : Exit → Act → World → Prop
  | .goto 0, a, w => J0 a w
  | .goto 1, a, w => J1 a w
  | .goto _, _, _ => False
  | e, a, w => Q e a w
section
variable {P : Program} {a : Act} {w : World} {Q : Exit → Act → World → Prop} {J0 J1 : Act → World → Prop}
@[go_sem] theorem Exit.two_0 : Exit.two J0 J1 Q (.goto 0) a w = J0 a w := rfl
@[go_sem] theorem Exit.two_1 : Exit.two J0 J1 Q (.goto 1) a w = J1 a w := rfl
@[go_sem] theorem Exit.two_normal : Exit.two J0 J1 Q .normal a w = Q .normal a w := rfl
@[go_sem] theorem Exit.two_exit (id : Nat) : Exit.two J0 J1 Q (.exit id) a w = Q (.exit id) a w := rfl
@[go_sem] theorem Exit.two_ret : Exit.two J0 J1 Q .ret a w = Q .ret a w := rfl
@[go_sem] theorem Exit.two_panic (ch : List PanicEntry) : Exit.two J0 J1 Q (.panic ch) a w = Q (.panic ch) a w := rfl
/-- A scope with two labels that are jumped to from ahead of them. -/
theorem wp_scope_two {c r0 r1 : Code} (h0 : findLabel c 0 = some r0) (h1 : findLabel c 1 = some r1)
    (first : ∀ J0 J1 : Act → World → Prop, (∀ a w, r0.wp P (Exit.noGoto Q) a w → J0 a w) → (∀ a w, r1.wp P (Exit.noGoto Q) a w → J1 a w) → c.wp P (Exit.two J0 J1 Q) a w) : (Code.scope c).wp P Q a w := by
  have first := first _ _ (fun _ _ h => h) (fun _ _ h => h)
  intro b k cs
  have key : ∀ (l : Nat) (rest : Code) a w, findLabel c l = some rest → rest.wp P (Exit.noGoto Q) a w →
      ∃ e a' w', Q e a' w' ∧ Arrives P (lone (b.at a (.code rest :: .inScope c :: k)) cs w) b k cs e a' w' := by
    intro l rest a w hf hp
    obtain ⟨e, a₁, w₁, hq, harr⟩ := hp b (.inScope c :: k) cs
    cases e with
    | normal => exact ⟨.normal, a₁, w₁, hq, Steps.trans harr (.one step_inScope)⟩
    | exit id => exact ⟨.exit id, a₁, w₁, hq, fun k' hk => harr k' (by simp [exitTo, hk])⟩
    | goto l' => exact hq.elim
    | ret => exact ⟨_, a₁, w₁, hq, harr⟩
    | panic ch => exact ⟨_, a₁, w₁, hq, harr⟩
    | outgrown => exact ⟨_, a₁, w₁, hq, harr⟩
  obtain ⟨e, a₁, w₁, hq, harr⟩ := first b (.inScope c :: k) cs
  have jump : ∀ (l : Nat) (rest : Code), e = .goto l → findLabel c l = some rest → rest.wp P (Exit.noGoto Q) a₁ w₁ →
      ∃ e a' w', Q e a' w' ∧ Arrives P (lone (b.at a (.code (.scope c) :: k)) cs w) b k cs e a' w' := by
    intro l rest he hf hp
    subst he
    have hg : gotoIn l (.inScope c :: k) = some (.code rest :: .inScope c :: k) := by simp [gotoIn, hf]
    obtain ⟨e₂, a₂, w₂, hq₂, harr₂⟩ := key l rest a₁ w₁ hf hp
    exact ⟨e₂, a₂, w₂, hq₂, .of_steps (.head step_scope (harr _ hg)) harr₂⟩
  cases e with
  | normal => exact ⟨.normal, a₁, w₁, hq, .head step_scope (Steps.trans harr (.one step_inScope))⟩
  | exit id => exact ⟨.exit id, a₁, w₁, hq, fun k' hk => .head step_scope (harr k' (by simp [exitTo, hk]))⟩
  | goto l' =>
    match l', hq, jump with
    | 0, hq, jump => exact jump 0 r0 rfl h0 hq
    | 1, hq, jump => exact jump 1 r1 rfl h1 hq
    | _ + 2, hq, _ => exact hq.elim
  | ret => exact ⟨_, a₁, w₁, hq, .of_steps (.one step_scope) harr⟩
  | panic ch => exact ⟨_, a₁, w₁, hq, .of_steps (.one step_scope) harr⟩
  | outgrown => exact ⟨_, a₁, w₁, hq, .of_steps (.one step_scope) harr⟩
end
end Go
namespace Go.Proofs.Ytdamfannmlncnaa
open Go.RowKit
set_option linter.unusedVariables false
set_option linter.unusedSimpArgs false

theorem par_of_bents {cx : Cx} (h : cx.bents = []) : cx.aents.head?.map (·.1) = cx.par := by
  cases cx with
  | top => rfl
  | left up x c k v r => rfl
  | right up x c l k v => simp [Cx.bents] at h
theorem par_of_aents {cx : Cx} (h : cx.aents = []) : cx.bents.getLast?.map (·.1) = cx.par := by
  cases cx with
  | top => rfl
  | left up x c k v r => simp [Cx.aents] at h
  | right up x c l k v =>
    simp only [Cx.bents, Cx.par]
    rw [← List.append_assoc, List.getLast?_append]
    rfl

theorem treeLeft_any {w : World} {tb : Nat} {n : Int} {cv : Value} {t : T} (h : TreeIn w tb n cv t) :
    Calls Try.prog 102 #[.pointer (some ⟨tb, 0, none⟩)] w fun e w' => e = .returned (.pointer (ad (t.ents.head?.map (·.1)))) ∧ w = w' := by
  have t0 := tree_root h.head
  go_enter Try.func102, Try.ntmps102
  go_wp2
  go_loopg [3, 4] t.height (fun g p s wr => w = wr ∧ ∃ (cx : Cx) (u : T), t = cx.plug u ∧ cx.bents = [] ∧ g = u.height ∧ ∃ sp sa, ad cx.par = sp ∧ p = .pointer sp ∧ ad u.ptr = sa ∧ s = .pointer sa)
  case atStart => exact ⟨rfl, .top, t, rfl, rfl, rfl, _, _, rfl, rfl, rfl, rfl⟩
  case round =>
    obtain ⟨rfl, cx, u, hp, hb, hg, sp, sa, hsp, rfl, hsa, rfl⟩ := hrel
    have HA := hid (And.intro hp (And.intro hb (And.intro hg hsp)))
    have TI := h
    rw [hp] at TI
    have H := hid h
    cases u with
    | nil =>
      obtain rfl : none = sa := hsa
      clear h hp hb hg hsp TI t0
      go_wp2
      go_ret
      refine ⟨?_, rfl⟩
      have e : ad (t.ents.head?.map (·.1)) = sp := by
        rw [HA.out.1, plug_ents, HA.out.2.1, ← HA.out.2.2.2]
        simp only [T.ents, List.nil_append, par_of_bents HA.out.2.1]
      rw [e]
      rfl
    | node x c l k v r =>
      have x3 := node_left TI.node
      obtain rfl : some ⟨x, 0, none⟩ = sa := hsa
      clear h hp hb hg hsp TI t0
      go_wp2_with (fail)
      go_roundg l.height
      case measure => rw [HA.out.2.2.1]; simp only [T.height]; omega
      case rel => exact ⟨rfl, .left cx x c k v r, l, HA.out.1, HA.out.2.1, rfl, _, _, rfl, rfl, rfl, rfl⟩

theorem treeRight_any {w : World} {tb : Nat} {n : Int} {cv : Value} {t : T} (h : TreeIn w tb n cv t) :
    Calls Try.prog 103 #[.pointer (some ⟨tb, 0, none⟩)] w fun e w' => e = .returned (.pointer (ad (t.ents.getLast?.map (·.1)))) ∧ w = w' := by
  have t0 := tree_root h.head
  go_enter Try.func103, Try.ntmps103
  go_wp2
  go_loopg [3, 4] t.height (fun g p s wr => w = wr ∧ ∃ (cx : Cx) (u : T), t = cx.plug u ∧ cx.aents = [] ∧ g = u.height ∧ ∃ sp sa, ad cx.par = sp ∧ p = .pointer sp ∧ ad u.ptr = sa ∧ s = .pointer sa)
  case atStart => exact ⟨rfl, .top, t, rfl, rfl, rfl, _, _, rfl, rfl, rfl, rfl⟩
  case round =>
    obtain ⟨rfl, cx, u, hp, hb, hg, sp, sa, hsp, rfl, hsa, rfl⟩ := hrel
    have HA := hid (And.intro hp (And.intro hb (And.intro hg hsp)))
    have TI := h
    rw [hp] at TI
    have H := hid h
    cases u with
    | nil =>
      obtain rfl : none = sa := hsa
      clear h hp hb hg hsp TI t0
      go_wp2
      go_ret
      refine ⟨?_, rfl⟩
      have e : ad (t.ents.getLast?.map (·.1)) = sp := by
        rw [HA.out.1, plug_ents, HA.out.2.1, ← HA.out.2.2.2]
        simp only [T.ents, List.append_nil, par_of_aents HA.out.2.1]
      rw [e]
      rfl
    | node x c l k v r =>
      have x4 := node_right TI.node
      obtain rfl : some ⟨x, 0, none⟩ = sa := hsa
      clear h hp hb hg hsp TI t0
      go_wp2_with (fail)
      go_roundg r.height
      case measure => rw [HA.out.2.2.1]; simp only [T.height]; omega
      case rel => exact ⟨rfl, .right cx x c l k v, r, HA.out.1, HA.out.2.1, rfl, _, _, rfl, rfl, rfl, rfl⟩

/-! ### The iterator in memory: the tree, the node, where it stands (0: ahead of all, 1: at a node, 2: behind all) -/
def iterObj (ty tb : Nat) (nd : Option Nat) (pos : Int) : Obj := .cells #[.pointer (some ⟨tb, 0, none⟩), .pointer (ad nd), .int .u8 pos] ty (0, 0)
section
variable {w : World} {ib ty tb : Nat} {nd : Option Nat} {pos : Int}
theorem it_plain (h : w.heap[ib]? = some (iterObj ty tb nd pos)) : Plain w ib := ⟨_, _, h⟩
theorem it_tree (h : w.heap[ib]? = some (iterObj ty tb nd pos)) : w.cell? ⟨ib, 0, none⟩ = some (.pointer (some ⟨tb, 0, none⟩)) := by simp [World.cell?, h, iterObj]
theorem it_node (h : w.heap[ib]? = some (iterObj ty tb nd pos)) : w.cell? ⟨ib, 1, none⟩ = some (.pointer (ad nd)) := by simp [World.cell?, h, iterObj]
theorem it_pos (h : w.heap[ib]? = some (iterObj ty tb nd pos)) : w.cell? ⟨ib, 2, none⟩ = some (.int .u8 pos) := by simp [World.cell?, h, iterObj]
theorem it_setNode (h : w.heap[ib]? = some (iterObj ty tb nd pos)) (nd' : Option Nat) : (w.setCell ⟨ib, 1, none⟩ (.pointer (ad nd'))).heap[ib]? = some (iterObj ty tb nd' pos) := by
  rw [heap_set (a := ⟨ib, 1, none⟩) h rfl]; simp [iterObj]
theorem it_setPos (h : w.heap[ib]? = some (iterObj ty tb nd pos)) (pos' : Int) : (w.setCell ⟨ib, 2, none⟩ (.int .u8 pos')).heap[ib]? = some (iterObj ty tb nd pos') := by
  rw [heap_set (a := ⟨ib, 2, none⟩) h rfl]; simp [iterObj]
end

theorem Keep.one {ib : Nat} {a w : World} (h : Keep (fun i => i = ib) a w) (o : Nat) (v : Value) : Keep (fun i => i = ib) a (w.setCell ⟨ib, o, none⟩ v) := h.setCell ⟨ib, o, none⟩ (fun _ => rfl) v

/-- What a move comes to. -/
def ItPost (w : World) (ib ty tb : Nat) (b : Bool) (nd : Option Nat) (pos : Int) (e : Ending) (w' : World) : Prop :=
  e = .returned (.bool b) ∧ w'.heap[ib]? = some (iterObj ty tb nd pos) ∧ Keep (fun i => i = ib) w w'

end Go.Proofs.Ytdamfannmlncnaa
