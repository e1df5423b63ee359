/- The five cases behind an insertion, walked; what they come to. -/
import Derived.Test.YtdamfannmlncnaaRot
import Derived.Deep.QuietTactic
import Derived.BigQuiet
namespace Go.Proofs.Ytdamfannmlncnaa
open Go.RowKit
set_option linter.unusedVariables false
set_option linter.unusedSimpArgs false

theorem TreeIn.drewN {w : World} {tb : Nat} {n : Int} {cv : Value} {t : T} (h : TreeIn w tb n cv t) (m : Nat) : TreeIn (w.drewN m) tb n cv t :=
  h.keep (S := fun _ => False) ((Keep.refl _ _).drewN m) id fun _ _ => id
theorem TreeIn.drew {w : World} {tb : Nat} {n : Int} {cv : Value} {t : T} (h : TreeIn w tb n cv t) : TreeIn w.drew tb n cv t := h.drewN 1
theorem own_eq {tb : Nat} {t t' : T} (h : t.ents = t'.ents) : Own tb t = Own tb t' := by unfold Own T.ids; rw [h]
theorem Keep.own {tb : Nat} {t t' : T} {w w1 w2 : World} (h : Keep (Own tb t) w w1) (k : Keep (Own tb t') w1 w2) (e : t'.ents = t.ents) : Keep (Own tb t) w w2 := by
  rw [own_eq e] at k; exact h.trans k

theorem grandparent_some {w : World} {x p g : Nat} (hx : w.cell? ⟨x, 5, none⟩ = some (.pointer (some ⟨p, 0, none⟩))) (hp : w.cell? ⟨p, 5, none⟩ = some (.pointer (some ⟨g, 0, none⟩))) :
    Calls Try.prog 139 #[.pointer (some ⟨x, 0, none⟩)] w fun e w' => e = .returned (.pointer (some ⟨g, 0, none⟩)) ∧ w = w' := grandparent_raw (q := some g) hx hp

theorem TreeIn.neL {w : World} {tb : Nat} {n : Int} {cv : Value} {up : Cx} {x p : Nat} {l r s : T} {k v pk pv : Int} {c pc : Bool} (h : TreeIn w tb n cv (up.plug (.node p pc (.node x c l k v r) pk pv s))) : ¬ s.ptr = some x := by
  have hnd := h.nodup
  rw [nodup_plug] at hnd
  have h2 := hnd.2.1
  rw [ids_node, ids_node] at h2
  simp only [List.nodup_append, List.mem_cons, List.mem_append] at h2
  exact ptr_ne fun hx => h2.2.2 x (.inr (.inl rfl)) x (.inr hx) rfl

section
variable {w : World} {tb : Nat} {n : Int} {cv : Value} {up : Cx} {x p g : Nat} {l r s u : T} {k v pk pv gk gv : Int} {c pc gc : Bool}

set_option maxHeartbeats 400000 in
theorem case5_LL (h : TreeIn w tb n cv (up.plug (.node g gc (.node p pc (.node x c l k v r) pk pv s) gk gv u))) :
    Calls Try.prog 142 #[.pointer (some ⟨tb, 0, none⟩), .pointer (some ⟨x, 0, none⟩)] w fun e w' => e = .returned (.tuple #[]) ∧
      TreeIn w' tb n cv (up.plug (.node p true (.node x c l k v r) pk pv (.node g false s gk gv u))) ∧ Keep (Own tb (up.plug (.node g gc (.node p pc (.node x c l k v r) pk pv s) gk gv u))) w w' := by
  have hp : TreeIn w tb n cv ((Cx.left up g gc gk gv u).plug (.node p pc (.node x c l k v r) pk pv s)) := h
  have hx : TreeIn w tb n cv ((Cx.left (Cx.left up g gc gk gv u) p pc pk pv s).plug (.node x c l k v r)) := h
  have x5 : w.cell? ⟨x, 5, none⟩ = some (.pointer (some ⟨p, 0, none⟩)) := node_par hx.node
  have p2 := node_col hp.node
  have p3 : w.cell? ⟨p, 3, none⟩ = some (.pointer (some ⟨x, 0, none⟩)) := node_left hp.node
  have p5 : w.cell? ⟨p, 5, none⟩ = some (.pointer (some ⟨g, 0, none⟩)) := node_par hp.node
  have g2 := node_col h.node
  have g3 : w.cell? ⟨g, 3, none⟩ = some (.pointer (some ⟨p, 0, none⟩)) := node_left h.node
  have lx := node_plain hx.node
  have lp := node_plain hp.node
  have lg := node_plain h.node
  have sp := h.sepR
  have hgp : ¬ g = p := sp.xy
  have hpg : ¬ p = g := fun e => sp.xy e.symm
  have h1 := hp.setCol true
  have x5' : (w.setCell ⟨p, 2, none⟩ (.bool true)).cell? ⟨x, 5, none⟩ = some (.pointer (some ⟨p, 0, none⟩)) := node_par (TreeIn.node (cx := (Cx.left (Cx.left up g gc gk gv u) p true pk pv s)) h1)
  have p5' : (w.setCell ⟨p, 2, none⟩ (.bool true)).cell? ⟨p, 5, none⟩ = some (.pointer (some ⟨g, 0, none⟩)) := node_par h1.node
  have H2 := hid (TreeIn.setCol (cx := up) (x := g) (c := gc) (l := (.node p true (.node x c l k v r) pk pv s)) (r := u) h1 false)
  have G := hid (grandparent_some x5' p5')
  have K0 := hid ((((Keep.refl (Own tb (up.plug (.node g gc (.node p pc (.node x c l k v r) pk pv s) gk gv u))) w).setCell ⟨p, 2, none⟩ (fun _ => own_plug (cx := (Cx.left up g gc gk gv u))) (.bool true))).setCell ⟨g, 2, none⟩ (fun _ => own_plug) (.bool false))
  clear h hp hx sp h1 x5' p5'
  go_enter Try.func142, Try.ntmps142
  go_wp2_with (go_at_call 139; refine G.out.mono ?_; rintro e w1 ⟨rfl, rfl⟩)
  go_quiet (fail)
  go_wp2_with (go_at_call 136; refine (rotateRight_any (H2.out.drewN _)).mono ?_; rintro e w1 ⟨rfl, ht, hk⟩)
  go_end0
  exact ⟨rfl, ht, (K0.out.drewN _).own hk (by simp [plug_ents, T.ents])⟩

set_option maxHeartbeats 400000 in
theorem case5_RR (h : TreeIn w tb n cv (up.plug (.node g gc u gk gv (.node p pc s pk pv (.node x c l k v r))))) :
    Calls Try.prog 142 #[.pointer (some ⟨tb, 0, none⟩), .pointer (some ⟨x, 0, none⟩)] w fun e w' => e = .returned (.tuple #[]) ∧
      TreeIn w' tb n cv (up.plug (.node p true (.node g false u gk gv s) pk pv (.node x c l k v r))) ∧ Keep (Own tb (up.plug (.node g gc u gk gv (.node p pc s pk pv (.node x c l k v r))))) w w' := by
  have hp : TreeIn w tb n cv ((Cx.right up g gc u gk gv).plug (.node p pc s pk pv (.node x c l k v r))) := h
  have hx : TreeIn w tb n cv ((Cx.right (Cx.right up g gc u gk gv) p pc s pk pv).plug (.node x c l k v r)) := h
  have x5 : w.cell? ⟨x, 5, none⟩ = some (.pointer (some ⟨p, 0, none⟩)) := node_par hx.node
  have p2 := node_col hp.node
  have p4 : w.cell? ⟨p, 4, none⟩ = some (.pointer (some ⟨x, 0, none⟩)) := node_right hp.node
  have p5 : w.cell? ⟨p, 5, none⟩ = some (.pointer (some ⟨g, 0, none⟩)) := node_par hp.node
  have g2 := node_col h.node
  have g4 : w.cell? ⟨g, 4, none⟩ = some (.pointer (some ⟨p, 0, none⟩)) := node_right h.node
  have lx := node_plain hx.node
  have lp := node_plain hp.node
  have lg := node_plain h.node
  have sp := h.sepL
  have p3 := node_left hp.node
  have ps := hp.sub.2.1.plainO
  have hne := TreeIn.neR (up := (Cx.right up g gc u gk gv)) hp

  have hgp : ¬ g = p := sp.xy
  have hpg : ¬ p = g := fun e => sp.xy e.symm
  have h1 := hp.setCol true
  have x5' : (w.setCell ⟨p, 2, none⟩ (.bool true)).cell? ⟨x, 5, none⟩ = some (.pointer (some ⟨p, 0, none⟩)) := node_par (TreeIn.node (cx := (Cx.right (Cx.right up g gc u gk gv) p true s pk pv)) h1)
  have p5' : (w.setCell ⟨p, 2, none⟩ (.bool true)).cell? ⟨p, 5, none⟩ = some (.pointer (some ⟨g, 0, none⟩)) := node_par h1.node
  have H2 := hid (TreeIn.setCol (cx := up) (x := g) (c := gc) (l := u) (r := (.node p true s pk pv (.node x c l k v r))) h1 false)
  have G := hid (grandparent_some x5' p5')
  have K0 := hid ((((Keep.refl (Own tb (up.plug (.node g gc u gk gv (.node p pc s pk pv (.node x c l k v r))))) w).setCell ⟨p, 2, none⟩ (fun _ => own_plug (cx := (Cx.right up g gc u gk gv))) (.bool true))).setCell ⟨g, 2, none⟩ (fun _ => own_plug) (.bool false))
  clear h hp hx sp h1 x5' p5'
  go_enter Try.func142, Try.ntmps142
  go_wp2_with (go_at_call 139; refine G.out.mono ?_; rintro e w1 ⟨rfl, rfl⟩)
  go_quiet (fail)
  go_wp2_with (fail)
  go_quiet (fail)
  go_wp2_with (go_at_call 135; refine (rotateLeft_any (H2.out.drewN _)).mono ?_; rintro e w1 ⟨rfl, ht, hk⟩)
  go_end0
  exact ⟨rfl, ht, (K0.out.drewN _).own hk (by simp [plug_ents, T.ents])⟩

set_option maxHeartbeats 800000 in
theorem case4_LL (h : TreeIn w tb n cv (up.plug (.node g gc (.node p pc (.node x c l k v r) pk pv s) gk gv u))) :
    Calls Try.prog 140 #[.pointer (some ⟨tb, 0, none⟩), .pointer (some ⟨x, 0, none⟩)] w fun e w' => e = .returned (.tuple #[]) ∧
      TreeIn w' tb n cv (up.plug (.node p true (.node x c l k v r) pk pv (.node g false s gk gv u))) ∧ Keep (Own tb (up.plug (.node g gc (.node p pc (.node x c l k v r) pk pv s) gk gv u))) w w' := by
  have hp : TreeIn w tb n cv ((Cx.left up g gc gk gv u).plug (.node p pc (.node x c l k v r) pk pv s)) := h
  have hx : TreeIn w tb n cv ((Cx.left (Cx.left up g gc gk gv u) p pc pk pv s).plug (.node x c l k v r)) := h
  have x5 : w.cell? ⟨x, 5, none⟩ = some (.pointer (some ⟨p, 0, none⟩)) := node_par hx.node
  have p5 : w.cell? ⟨p, 5, none⟩ = some (.pointer (some ⟨g, 0, none⟩)) := node_par hp.node
  have p3 : w.cell? ⟨p, 3, none⟩ = some (.pointer (some ⟨x, 0, none⟩)) := node_left hp.node
  have p4 := node_right hp.node
  have g3 : w.cell? ⟨g, 3, none⟩ = some (.pointer (some ⟨p, 0, none⟩)) := node_left h.node
  have g4 := node_right h.node
  have lx := node_plain hx.node
  have lp := node_plain hp.node
  have lg := node_plain h.node
  have ps : PlainO w s.ptr := hp.sub.2.2.plainO
  have pu : PlainO w u.ptr := h.sub.2.2.plainO
  have ns : ¬ s.ptr = some x := TreeIn.neL (up := (Cx.left up g gc gk gv u)) hp
  have nu : ¬ u.ptr = some p := TreeIn.neL h
  have G := hid (grandparent_some x5 p5)
  have H := hid h
  clear h hp hx
  go_enter Try.func140, Try.ntmps140
  go_wp2_with (go_at_call 139; refine G.out.mono ?_; rintro e w1 ⟨rfl, rfl⟩)
  go_quiet (fail)
  go_wp2_with (fail)
  go_quiet (fail)
  go_wp2_with (go_at_call 142; refine (case5_LL (H.out.drewN _)).mono ?_; rintro e w1 ⟨rfl, ht, hk⟩)
  go_end0
  exact ⟨rfl, ht, ((Keep.refl _ _).drewN _).own hk rfl⟩

set_option maxHeartbeats 800000 in
theorem case4_LR (h : TreeIn w tb n cv (up.plug (.node g gc (.node p pc s pk pv (.node x c l k v r)) gk gv u))) :
    Calls Try.prog 140 #[.pointer (some ⟨tb, 0, none⟩), .pointer (some ⟨x, 0, none⟩)] w fun e w' => e = .returned (.tuple #[]) ∧
      TreeIn w' tb n cv (up.plug (.node x true (.node p pc s pk pv l) k v (.node g false r gk gv u))) ∧ Keep (Own tb (up.plug (.node g gc (.node p pc s pk pv (.node x c l k v r)) gk gv u))) w w' := by
  have hp : TreeIn w tb n cv ((Cx.left up g gc gk gv u).plug (.node p pc s pk pv (.node x c l k v r))) := h
  have hx : TreeIn w tb n cv ((Cx.right (Cx.left up g gc gk gv u) p pc s pk pv).plug (.node x c l k v r)) := h
  have x5 : w.cell? ⟨x, 5, none⟩ = some (.pointer (some ⟨p, 0, none⟩)) := node_par hx.node
  have p5 : w.cell? ⟨p, 5, none⟩ = some (.pointer (some ⟨g, 0, none⟩)) := node_par hp.node
  have p4 : w.cell? ⟨p, 4, none⟩ = some (.pointer (some ⟨x, 0, none⟩)) := node_right hp.node
  have p3 := node_left hp.node
  have g3 : w.cell? ⟨g, 3, none⟩ = some (.pointer (some ⟨p, 0, none⟩)) := node_left h.node
  have g4 := node_right h.node
  have lx := node_plain hx.node
  have lp := node_plain hp.node
  have lg := node_plain h.node
  have ps : PlainO w s.ptr := hp.sub.2.1.plainO
  have pu : PlainO w u.ptr := h.sub.2.2.plainO
  have ns : ¬ s.ptr = some x := TreeIn.neR (up := (Cx.left up g gc gk gv u)) hp
  have nu : ¬ u.ptr = some p := TreeIn.neL h
  have G := hid (grandparent_some x5 p5)
  have H := hid h
  clear h hp hx
  go_enter Try.func140, Try.ntmps140
  go_wp2_with (go_at_call 139; refine G.out.mono ?_; rintro e w1 ⟨rfl, rfl⟩)
  go_quiet (fail)
  go_wp2_with (first | (go_at_call 135; refine (rotateLeft_any (TreeIn.drewN (t := (Cx.left up g gc gk gv u).plug (.node p pc s pk pv (.node x c l k v r))) H.out _)).mono ?_; rintro e w1 ⟨rfl, ht, hk⟩; have q3 : w1.cell? ⟨x, 3, none⟩ = some (.pointer (some ⟨p, 0, none⟩)) := node_left ht.node) | (go_at_call 142; refine (case5_LL ht).mono ?_; rintro e w2 ⟨rfl, ht2, hk2⟩))
  go_end0
  exact ⟨rfl, ht2, (((Keep.refl _ _).drewN _).own hk rfl).own hk2 (by simp [plug_ents, T.ents, Cx.bents, Cx.aents])⟩

set_option maxHeartbeats 800000 in
theorem case4_RL (h : TreeIn w tb n cv (up.plug (.node g gc u gk gv (.node p pc (.node x c l k v r) pk pv s)))) :
    Calls Try.prog 140 #[.pointer (some ⟨tb, 0, none⟩), .pointer (some ⟨x, 0, none⟩)] w fun e w' => e = .returned (.tuple #[]) ∧
      TreeIn w' tb n cv (up.plug (.node x true (.node g false u gk gv l) k v (.node p pc r pk pv s))) ∧ Keep (Own tb (up.plug (.node g gc u gk gv (.node p pc (.node x c l k v r) pk pv s)))) w w' := by
  have hp : TreeIn w tb n cv ((Cx.right up g gc u gk gv).plug (.node p pc (.node x c l k v r) pk pv s)) := h
  have hx : TreeIn w tb n cv ((Cx.left (Cx.right up g gc u gk gv) p pc pk pv s).plug (.node x c l k v r)) := h
  have x5 : w.cell? ⟨x, 5, none⟩ = some (.pointer (some ⟨p, 0, none⟩)) := node_par hx.node
  have p5 : w.cell? ⟨p, 5, none⟩ = some (.pointer (some ⟨g, 0, none⟩)) := node_par hp.node
  have p3 : w.cell? ⟨p, 3, none⟩ = some (.pointer (some ⟨x, 0, none⟩)) := node_left hp.node
  have p4 := node_right hp.node
  have g4 : w.cell? ⟨g, 4, none⟩ = some (.pointer (some ⟨p, 0, none⟩)) := node_right h.node
  have g3 := node_left h.node
  have lx := node_plain hx.node
  have lp := node_plain hp.node
  have lg := node_plain h.node
  have ps : PlainO w s.ptr := hp.sub.2.2.plainO
  have pu : PlainO w u.ptr := h.sub.2.1.plainO
  have ns : ¬ s.ptr = some x := TreeIn.neL (up := (Cx.right up g gc u gk gv)) hp
  have nu : ¬ u.ptr = some p := TreeIn.neR h
  have G := hid (grandparent_some x5 p5)
  have H := hid h
  clear h hp hx
  go_enter Try.func140, Try.ntmps140
  go_wp2_with (go_at_call 139; refine G.out.mono ?_; rintro e w1 ⟨rfl, rfl⟩)
  go_quiet (fail)
  go_wp2_with (fail)
  go_quiet (fail)
  go_wp2_with (first | (go_at_call 136; refine (rotateRight_any (TreeIn.drewN (t := (Cx.right up g gc u gk gv).plug (.node p pc (.node x c l k v r) pk pv s)) H.out _)).mono ?_; rintro e w1 ⟨rfl, ht, hk⟩; have q4 : w1.cell? ⟨x, 4, none⟩ = some (.pointer (some ⟨p, 0, none⟩)) := node_right ht.node) | (go_at_call 142; refine (case5_RR ht).mono ?_; rintro e w2 ⟨rfl, ht2, hk2⟩))
  go_end0
  exact ⟨rfl, ht2, (((Keep.refl _ _).drewN _).own hk rfl).own hk2 (by simp [plug_ents, T.ents, Cx.bents, Cx.aents])⟩

set_option maxHeartbeats 800000 in
theorem case4_RR (h : TreeIn w tb n cv (up.plug (.node g gc u gk gv (.node p pc s pk pv (.node x c l k v r))))) :
    Calls Try.prog 140 #[.pointer (some ⟨tb, 0, none⟩), .pointer (some ⟨x, 0, none⟩)] w fun e w' => e = .returned (.tuple #[]) ∧
      TreeIn w' tb n cv (up.plug (.node p true (.node g false u gk gv s) pk pv (.node x c l k v r))) ∧ Keep (Own tb (up.plug (.node g gc u gk gv (.node p pc s pk pv (.node x c l k v r))))) w w' := by
  have hp : TreeIn w tb n cv ((Cx.right up g gc u gk gv).plug (.node p pc s pk pv (.node x c l k v r))) := h
  have hx : TreeIn w tb n cv ((Cx.right (Cx.right up g gc u gk gv) p pc s pk pv).plug (.node x c l k v r)) := h
  have x5 : w.cell? ⟨x, 5, none⟩ = some (.pointer (some ⟨p, 0, none⟩)) := node_par hx.node
  have p5 : w.cell? ⟨p, 5, none⟩ = some (.pointer (some ⟨g, 0, none⟩)) := node_par hp.node
  have p4 : w.cell? ⟨p, 4, none⟩ = some (.pointer (some ⟨x, 0, none⟩)) := node_right hp.node
  have p3 := node_left hp.node
  have g4 : w.cell? ⟨g, 4, none⟩ = some (.pointer (some ⟨p, 0, none⟩)) := node_right h.node
  have g3 := node_left h.node
  have lx := node_plain hx.node
  have lp := node_plain hp.node
  have lg := node_plain h.node
  have ps : PlainO w s.ptr := hp.sub.2.1.plainO
  have pu : PlainO w u.ptr := h.sub.2.1.plainO
  have ns : ¬ s.ptr = some x := TreeIn.neR (up := (Cx.right up g gc u gk gv)) hp
  have nu : ¬ u.ptr = some p := TreeIn.neR h
  have G := hid (grandparent_some x5 p5)
  have H := hid h
  clear h hp hx
  go_enter Try.func140, Try.ntmps140
  go_wp2_with (go_at_call 139; refine G.out.mono ?_; rintro e w1 ⟨rfl, rfl⟩)
  go_quiet (fail)
  go_wp2_with (fail)
  go_quiet (fail)
  go_wp2_with (go_at_call 142; refine (case5_RR (H.out.drewN _)).mono ?_; rintro e w1 ⟨rfl, ht, hk⟩)
  go_end0
  exact ⟨rfl, ht, ((Keep.refl _ _).drewN _).own hk rfl⟩

/-- What an insertion's cases come to: a red-black tree of the same nodes, in the same order. -/
def InsPost (tb : Nat) (n : Int) (cv : Value) (t : T) (w : World) (e : Ending) (w' : World) : Prop :=
  e = .returned (.tuple #[]) ∧ ∃ t', TreeIn w' tb n cv t' ∧ t'.RBT ∧ t'.ents = t.ents ∧ Keep (Own tb t) w w'

set_option maxHeartbeats 400000 in
theorem case3_black_LL (h : TreeIn w tb n cv (up.plug (.node g gc (.node p pc (.node x c l k v r) pk pv s) gk gv u))) (hu : u.black = true) :
    Calls Try.prog 133 #[.pointer (some ⟨tb, 0, none⟩), .pointer (some ⟨x, 0, none⟩)] w fun e w' => e = .returned (.tuple #[]) ∧
      TreeIn w' tb n cv (up.plug (.node p true (.node x c l k v r) pk pv (.node g false s gk gv u))) ∧ Keep (Own tb (up.plug (.node g gc (.node p pc (.node x c l k v r) pk pv s) gk gv u))) w w' := by
  have hp : TreeIn w tb n cv ((Cx.left up g gc gk gv u).plug (.node p pc (.node x c l k v r) pk pv s)) := h
  have hx : TreeIn w tb n cv ((Cx.left (Cx.left up g gc gk gv u) p pc pk pv s).plug (.node x c l k v r)) := h
  have x5 : w.cell? ⟨x, 5, none⟩ = some (.pointer (some ⟨p, 0, none⟩)) := node_par hx.node
  have p5 : w.cell? ⟨p, 5, none⟩ = some (.pointer (some ⟨g, 0, none⟩)) := node_par hp.node
  have U := hid (uncle_raw x5 p5 (sibling_left h))
  have F := hid (h.sub.2.2)
  have H := hid h
  have C := hid (nodeColor_any F.out)
  rw [hu] at C
  clear h hp hx hu
  go_enter Try.func133, Try.ntmps133
  go_wp2_with (first | (go_at_call 138; refine U.out.mono ?_; rintro e w1 ⟨rfl, rfl⟩) | (go_at_call 128; refine C.out.mono ?_; rintro e w1 ⟨rfl, rfl⟩) | (go_at_call 140; refine (case4_LL H.out).mono ?_; rintro e w1 ⟨rfl, ht, hk⟩))
  go_end0
  exact ⟨rfl, ht, hk⟩

set_option maxHeartbeats 800000 in
theorem case3_red_LL {y : Nat} {ul ur : T} {uk uv : Int} {uc : Bool} (huc : uc = false) (h : TreeIn w tb n cv (up.plug (.node g gc (.node p pc (.node x c l k v r) pk pv s) gk gv (.node y uc ul uk uv ur))))
    (ih : ∀ w1, TreeIn w1 tb n cv (up.plug (.node g false (.node p true (.node x c l k v r) pk pv s) gk gv (.node y true ul uk uv ur))) → Calls Try.prog 126 #[.pointer (some ⟨tb, 0, none⟩), .pointer (some ⟨g, 0, none⟩)] w1 (InsPost tb n cv (up.plug (.node g false (.node p true (.node x c l k v r) pk pv s) gk gv (.node y true ul uk uv ur))) w1)) :
    Calls Try.prog 133 #[.pointer (some ⟨tb, 0, none⟩), .pointer (some ⟨x, 0, none⟩)] w (InsPost tb n cv (up.plug (.node g gc (.node p pc (.node x c l k v r) pk pv s) gk gv (.node y uc ul uk uv ur))) w) := by
  have hp : TreeIn w tb n cv ((Cx.left up g gc gk gv (.node y uc ul uk uv ur)).plug (.node p pc (.node x c l k v r) pk pv s)) := h
  have hx : TreeIn w tb n cv ((Cx.left (Cx.left up g gc gk gv (.node y uc ul uk uv ur)) p pc pk pv s).plug (.node x c l k v r)) := h
  have x5 : w.cell? ⟨x, 5, none⟩ = some (.pointer (some ⟨p, 0, none⟩)) := node_par hx.node
  have p5 : w.cell? ⟨p, 5, none⟩ = some (.pointer (some ⟨g, 0, none⟩)) := node_par hp.node
  have p2 := node_col hp.node
  have g2 := node_col h.node
  have lp := node_plain hp.node
  have lg := node_plain h.node
  have U : Calls Try.prog 138 #[.pointer (some ⟨x, 0, none⟩)] w fun e w' => e = .returned (.pointer (some ⟨y, 0, none⟩)) ∧ w = w' := uncle_raw x5 p5 (sibling_left h)
  have F : Fits w (some g) (.node y uc ul uk uv ur) := h.sub.2.2
  have y2 := node_col F.1
  have ly := node_plain F.1
  have C : Calls Try.prog 128 #[.pointer (some ⟨y, 0, none⟩)] w fun e w' => e = .returned (.bool uc) ∧ w = w' := nodeColor_any F
  rw [huc] at C
  have h1 : TreeIn (w.setCell ⟨p, 2, none⟩ (.bool true)) tb n cv (up.plug (.node g gc (.node p true (.node x c l k v r) pk pv s) gk gv (.node y uc ul uk uv ur))) := hp.setCol true
  have h2 : TreeIn ((w.setCell ⟨p, 2, none⟩ (.bool true)).setCell ⟨y, 2, none⟩ (.bool true)) tb n cv (up.plug (.node g gc (.node p true (.node x c l k v r) pk pv s) gk gv (.node y true ul uk uv ur))) := TreeIn.setCol (cx := (Cx.right up g gc (.node p true (.node x c l k v r) pk pv s) gk gv)) h1 true
  have h3 : TreeIn (((w.setCell ⟨p, 2, none⟩ (.bool true)).setCell ⟨y, 2, none⟩ (.bool true)).setCell ⟨g, 2, none⟩ (.bool false)) tb n cv (up.plug (.node g false (.node p true (.node x c l k v r) pk pv s) gk gv (.node y true ul uk uv ur))) := TreeIn.setCol (cx := up) (l := (.node p true (.node x c l k v r) pk pv s)) (r := (.node y true ul uk uv ur)) h2 false
  have G2 := hid (grandparent_some (x := x) (p := p) (g := g) (w := (w.setCell ⟨p, 2, none⟩ (.bool true)).setCell ⟨y, 2, none⟩ (.bool true)) (node_par (TreeIn.node (cx := (Cx.left (Cx.left up g gc gk gv (.node y true ul uk uv ur)) p true pk pv s)) h2)) (node_par (TreeIn.node (cx := (Cx.left up g gc gk gv (.node y true ul uk uv ur))) h2)))
  have G3 := hid (grandparent_some (x := x) (p := p) (g := g) (w := ((w.setCell ⟨p, 2, none⟩ (.bool true)).setCell ⟨y, 2, none⟩ (.bool true)).setCell ⟨g, 2, none⟩ (.bool false)) (node_par (TreeIn.node (cx := (Cx.left (Cx.left up g false gk gv (.node y true ul uk uv ur)) p true pk pv s)) h3)) (node_par (TreeIn.node (cx := (Cx.left up g false gk gv (.node y true ul uk uv ur))) h3)))
  have K0 := hid ((((Keep.refl (Own tb (up.plug (.node g gc (.node p pc (.node x c l k v r) pk pv s) gk gv (.node y uc ul uk uv ur)))) w).setCell ⟨p, 2, none⟩ (fun _ => own_plug (cx := (Cx.left up g gc gk gv (.node y uc ul uk uv ur)))) (.bool true)).setCell ⟨y, 2, none⟩ (fun _ => own_plug (cx := (Cx.right up g gc (.node p pc (.node x c l k v r) pk pv s) gk gv))) (.bool true)).setCell ⟨g, 2, none⟩ (fun _ => own_plug) (.bool false))
  have sp := h.sepR
  have ym := sp.d1 y (by rw [ids_node]; simp)
  have ngp : ¬ g = p := sp.xy
  have npg : ¬ p = g := fun e => sp.xy e.symm
  have nyg : ¬ y = g := ym.2.2.1
  have ngy : ¬ g = y := fun e => ym.2.2.1 e.symm
  have nyp : ¬ y = p := ym.2.2.2
  have npy : ¬ p = y := fun e => ym.2.2.2 e.symm
  have H3 := hid (ih _ h3)
  have U' := hid U
  have C' := hid C
  clear h hp hx F U C h1 h2 h3 huc ih sp ym
  go_enter Try.func133, Try.ntmps133
  go_wp2_with (first | (go_at_call 138; refine U'.out.mono ?_; rintro e w1 ⟨rfl, rfl⟩) | (go_at_call 128; refine C'.out.mono ?_; rintro e w1 ⟨rfl, rfl⟩))
  go_wp2_with (first | (go_at_call 139; ((with_reducible refine G2.out.mono ?_); rintro e w1 ⟨rfl, rfl⟩)) | (go_at_call 139; ((with_reducible refine G3.out.mono ?_); rintro e w1 ⟨rfl, rfl⟩)) | (go_at_call 126; refine H3.out.mono ?_; rintro e w1 ⟨rfl, t', ht, hrb, he, hk⟩))
  go_end0
  exact ⟨rfl, t', ht, hrb, he.trans (by simp [plug_ents, T.ents]), K0.out.own hk (by simp [plug_ents, T.ents])⟩

set_option maxHeartbeats 400000 in
theorem case3_black_LR (h : TreeIn w tb n cv (up.plug (.node g gc (.node p pc s pk pv (.node x c l k v r)) gk gv u))) (hu : u.black = true) :
    Calls Try.prog 133 #[.pointer (some ⟨tb, 0, none⟩), .pointer (some ⟨x, 0, none⟩)] w fun e w' => e = .returned (.tuple #[]) ∧
      TreeIn w' tb n cv (up.plug (.node x true (.node p pc s pk pv l) k v (.node g false r gk gv u))) ∧ Keep (Own tb (up.plug (.node g gc (.node p pc s pk pv (.node x c l k v r)) gk gv u))) w w' := by
  have hp : TreeIn w tb n cv ((Cx.left up g gc gk gv u).plug (.node p pc s pk pv (.node x c l k v r))) := h
  have hx : TreeIn w tb n cv ((Cx.right (Cx.left up g gc gk gv u) p pc s pk pv).plug (.node x c l k v r)) := h
  have x5 : w.cell? ⟨x, 5, none⟩ = some (.pointer (some ⟨p, 0, none⟩)) := node_par hx.node
  have p5 : w.cell? ⟨p, 5, none⟩ = some (.pointer (some ⟨g, 0, none⟩)) := node_par hp.node
  have U := hid (uncle_raw x5 p5 (sibling_left h))
  have F := hid (h.sub.2.2)
  have H := hid h
  have C := hid (nodeColor_any F.out)
  rw [hu] at C
  clear h hp hx hu
  go_enter Try.func133, Try.ntmps133
  go_wp2_with (first | (go_at_call 138; refine U.out.mono ?_; rintro e w1 ⟨rfl, rfl⟩) | (go_at_call 128; refine C.out.mono ?_; rintro e w1 ⟨rfl, rfl⟩) | (go_at_call 140; refine (case4_LR H.out).mono ?_; rintro e w1 ⟨rfl, ht, hk⟩))
  go_end0
  exact ⟨rfl, ht, hk⟩

set_option maxHeartbeats 800000 in
theorem case3_red_LR {y : Nat} {ul ur : T} {uk uv : Int} {uc : Bool} (huc : uc = false) (h : TreeIn w tb n cv (up.plug (.node g gc (.node p pc s pk pv (.node x c l k v r)) gk gv (.node y uc ul uk uv ur))))
    (ih : ∀ w1, TreeIn w1 tb n cv (up.plug (.node g false (.node p true s pk pv (.node x c l k v r)) gk gv (.node y true ul uk uv ur))) → Calls Try.prog 126 #[.pointer (some ⟨tb, 0, none⟩), .pointer (some ⟨g, 0, none⟩)] w1 (InsPost tb n cv (up.plug (.node g false (.node p true s pk pv (.node x c l k v r)) gk gv (.node y true ul uk uv ur))) w1)) :
    Calls Try.prog 133 #[.pointer (some ⟨tb, 0, none⟩), .pointer (some ⟨x, 0, none⟩)] w (InsPost tb n cv (up.plug (.node g gc (.node p pc s pk pv (.node x c l k v r)) gk gv (.node y uc ul uk uv ur))) w) := by
  have hp : TreeIn w tb n cv ((Cx.left up g gc gk gv (.node y uc ul uk uv ur)).plug (.node p pc s pk pv (.node x c l k v r))) := h
  have hx : TreeIn w tb n cv ((Cx.right (Cx.left up g gc gk gv (.node y uc ul uk uv ur)) p pc s pk pv).plug (.node x c l k v r)) := h
  have x5 : w.cell? ⟨x, 5, none⟩ = some (.pointer (some ⟨p, 0, none⟩)) := node_par hx.node
  have p5 : w.cell? ⟨p, 5, none⟩ = some (.pointer (some ⟨g, 0, none⟩)) := node_par hp.node
  have p2 := node_col hp.node
  have g2 := node_col h.node
  have lp := node_plain hp.node
  have lg := node_plain h.node
  have U : Calls Try.prog 138 #[.pointer (some ⟨x, 0, none⟩)] w fun e w' => e = .returned (.pointer (some ⟨y, 0, none⟩)) ∧ w = w' := uncle_raw x5 p5 (sibling_left h)
  have F : Fits w (some g) (.node y uc ul uk uv ur) := h.sub.2.2
  have y2 := node_col F.1
  have ly := node_plain F.1
  have C : Calls Try.prog 128 #[.pointer (some ⟨y, 0, none⟩)] w fun e w' => e = .returned (.bool uc) ∧ w = w' := nodeColor_any F
  rw [huc] at C
  have h1 : TreeIn (w.setCell ⟨p, 2, none⟩ (.bool true)) tb n cv (up.plug (.node g gc (.node p true s pk pv (.node x c l k v r)) gk gv (.node y uc ul uk uv ur))) := hp.setCol true
  have h2 : TreeIn ((w.setCell ⟨p, 2, none⟩ (.bool true)).setCell ⟨y, 2, none⟩ (.bool true)) tb n cv (up.plug (.node g gc (.node p true s pk pv (.node x c l k v r)) gk gv (.node y true ul uk uv ur))) := TreeIn.setCol (cx := (Cx.right up g gc (.node p true s pk pv (.node x c l k v r)) gk gv)) h1 true
  have h3 : TreeIn (((w.setCell ⟨p, 2, none⟩ (.bool true)).setCell ⟨y, 2, none⟩ (.bool true)).setCell ⟨g, 2, none⟩ (.bool false)) tb n cv (up.plug (.node g false (.node p true s pk pv (.node x c l k v r)) gk gv (.node y true ul uk uv ur))) := TreeIn.setCol (cx := up) (l := (.node p true s pk pv (.node x c l k v r))) (r := (.node y true ul uk uv ur)) h2 false
  have G2 := hid (grandparent_some (x := x) (p := p) (g := g) (w := (w.setCell ⟨p, 2, none⟩ (.bool true)).setCell ⟨y, 2, none⟩ (.bool true)) (node_par (TreeIn.node (cx := (Cx.right (Cx.left up g gc gk gv (.node y true ul uk uv ur)) p true s pk pv)) h2)) (node_par (TreeIn.node (cx := (Cx.left up g gc gk gv (.node y true ul uk uv ur))) h2)))
  have G3 := hid (grandparent_some (x := x) (p := p) (g := g) (w := ((w.setCell ⟨p, 2, none⟩ (.bool true)).setCell ⟨y, 2, none⟩ (.bool true)).setCell ⟨g, 2, none⟩ (.bool false)) (node_par (TreeIn.node (cx := (Cx.right (Cx.left up g false gk gv (.node y true ul uk uv ur)) p true s pk pv)) h3)) (node_par (TreeIn.node (cx := (Cx.left up g false gk gv (.node y true ul uk uv ur))) h3)))
  have K0 := hid ((((Keep.refl (Own tb (up.plug (.node g gc (.node p pc s pk pv (.node x c l k v r)) gk gv (.node y uc ul uk uv ur)))) w).setCell ⟨p, 2, none⟩ (fun _ => own_plug (cx := (Cx.left up g gc gk gv (.node y uc ul uk uv ur)))) (.bool true)).setCell ⟨y, 2, none⟩ (fun _ => own_plug (cx := (Cx.right up g gc (.node p pc s pk pv (.node x c l k v r)) gk gv))) (.bool true)).setCell ⟨g, 2, none⟩ (fun _ => own_plug) (.bool false))
  have sp := h.sepR
  have ym := sp.d1 y (by rw [ids_node]; simp)
  have ngp : ¬ g = p := sp.xy
  have npg : ¬ p = g := fun e => sp.xy e.symm
  have nyg : ¬ y = g := ym.2.2.1
  have ngy : ¬ g = y := fun e => ym.2.2.1 e.symm
  have nyp : ¬ y = p := ym.2.2.2
  have npy : ¬ p = y := fun e => ym.2.2.2 e.symm
  have H3 := hid (ih _ h3)
  have U' := hid U
  have C' := hid C
  clear h hp hx F U C h1 h2 h3 huc ih sp ym
  go_enter Try.func133, Try.ntmps133
  go_wp2_with (first | (go_at_call 138; refine U'.out.mono ?_; rintro e w1 ⟨rfl, rfl⟩) | (go_at_call 128; refine C'.out.mono ?_; rintro e w1 ⟨rfl, rfl⟩))
  go_wp2_with (first | (go_at_call 139; ((with_reducible refine G2.out.mono ?_); rintro e w1 ⟨rfl, rfl⟩)) | (go_at_call 139; ((with_reducible refine G3.out.mono ?_); rintro e w1 ⟨rfl, rfl⟩)) | (go_at_call 126; refine H3.out.mono ?_; rintro e w1 ⟨rfl, t', ht, hrb, he, hk⟩))
  go_end0
  exact ⟨rfl, t', ht, hrb, he.trans (by simp [plug_ents, T.ents]), K0.out.own hk (by simp [plug_ents, T.ents])⟩

set_option maxHeartbeats 400000 in
theorem case3_black_RL (h : TreeIn w tb n cv (up.plug (.node g gc u gk gv (.node p pc (.node x c l k v r) pk pv s)))) (hu : u.black = true) :
    Calls Try.prog 133 #[.pointer (some ⟨tb, 0, none⟩), .pointer (some ⟨x, 0, none⟩)] w fun e w' => e = .returned (.tuple #[]) ∧
      TreeIn w' tb n cv (up.plug (.node x true (.node g false u gk gv l) k v (.node p pc r pk pv s))) ∧ Keep (Own tb (up.plug (.node g gc u gk gv (.node p pc (.node x c l k v r) pk pv s)))) w w' := by
  have hp : TreeIn w tb n cv ((Cx.right up g gc u gk gv).plug (.node p pc (.node x c l k v r) pk pv s)) := h
  have hx : TreeIn w tb n cv ((Cx.left (Cx.right up g gc u gk gv) p pc pk pv s).plug (.node x c l k v r)) := h
  have x5 : w.cell? ⟨x, 5, none⟩ = some (.pointer (some ⟨p, 0, none⟩)) := node_par hx.node
  have p5 : w.cell? ⟨p, 5, none⟩ = some (.pointer (some ⟨g, 0, none⟩)) := node_par hp.node
  have U := hid (uncle_raw x5 p5 (sibling_right h))
  have F := hid (h.sub.2.1)
  have H := hid h
  have C := hid (nodeColor_any F.out)
  rw [hu] at C
  clear h hp hx hu
  go_enter Try.func133, Try.ntmps133
  go_wp2_with (first | (go_at_call 138; refine U.out.mono ?_; rintro e w1 ⟨rfl, rfl⟩) | (go_at_call 128; refine C.out.mono ?_; rintro e w1 ⟨rfl, rfl⟩) | (go_at_call 140; refine (case4_RL H.out).mono ?_; rintro e w1 ⟨rfl, ht, hk⟩))
  go_end0
  exact ⟨rfl, ht, hk⟩

set_option maxHeartbeats 800000 in
theorem case3_red_RL {y : Nat} {ul ur : T} {uk uv : Int} {uc : Bool} (huc : uc = false) (h : TreeIn w tb n cv (up.plug (.node g gc (.node y uc ul uk uv ur) gk gv (.node p pc (.node x c l k v r) pk pv s))))
    (ih : ∀ w1, TreeIn w1 tb n cv (up.plug (.node g false (.node y true ul uk uv ur) gk gv (.node p true (.node x c l k v r) pk pv s))) → Calls Try.prog 126 #[.pointer (some ⟨tb, 0, none⟩), .pointer (some ⟨g, 0, none⟩)] w1 (InsPost tb n cv (up.plug (.node g false (.node y true ul uk uv ur) gk gv (.node p true (.node x c l k v r) pk pv s))) w1)) :
    Calls Try.prog 133 #[.pointer (some ⟨tb, 0, none⟩), .pointer (some ⟨x, 0, none⟩)] w (InsPost tb n cv (up.plug (.node g gc (.node y uc ul uk uv ur) gk gv (.node p pc (.node x c l k v r) pk pv s))) w) := by
  have hp : TreeIn w tb n cv ((Cx.right up g gc (.node y uc ul uk uv ur) gk gv).plug (.node p pc (.node x c l k v r) pk pv s)) := h
  have hx : TreeIn w tb n cv ((Cx.left (Cx.right up g gc (.node y uc ul uk uv ur) gk gv) p pc pk pv s).plug (.node x c l k v r)) := h
  have x5 : w.cell? ⟨x, 5, none⟩ = some (.pointer (some ⟨p, 0, none⟩)) := node_par hx.node
  have p5 : w.cell? ⟨p, 5, none⟩ = some (.pointer (some ⟨g, 0, none⟩)) := node_par hp.node
  have p2 := node_col hp.node
  have g2 := node_col h.node
  have lp := node_plain hp.node
  have lg := node_plain h.node
  have U : Calls Try.prog 138 #[.pointer (some ⟨x, 0, none⟩)] w fun e w' => e = .returned (.pointer (some ⟨y, 0, none⟩)) ∧ w = w' := uncle_raw x5 p5 (sibling_right h)
  have F : Fits w (some g) (.node y uc ul uk uv ur) := h.sub.2.1
  have y2 := node_col F.1
  have ly := node_plain F.1
  have C : Calls Try.prog 128 #[.pointer (some ⟨y, 0, none⟩)] w fun e w' => e = .returned (.bool uc) ∧ w = w' := nodeColor_any F
  rw [huc] at C
  have h1 : TreeIn (w.setCell ⟨p, 2, none⟩ (.bool true)) tb n cv (up.plug (.node g gc (.node y uc ul uk uv ur) gk gv (.node p true (.node x c l k v r) pk pv s))) := hp.setCol true
  have h2 : TreeIn ((w.setCell ⟨p, 2, none⟩ (.bool true)).setCell ⟨y, 2, none⟩ (.bool true)) tb n cv (up.plug (.node g gc (.node y true ul uk uv ur) gk gv (.node p true (.node x c l k v r) pk pv s))) := TreeIn.setCol (cx := (Cx.left up g gc gk gv (.node p true (.node x c l k v r) pk pv s))) h1 true
  have h3 : TreeIn (((w.setCell ⟨p, 2, none⟩ (.bool true)).setCell ⟨y, 2, none⟩ (.bool true)).setCell ⟨g, 2, none⟩ (.bool false)) tb n cv (up.plug (.node g false (.node y true ul uk uv ur) gk gv (.node p true (.node x c l k v r) pk pv s))) := TreeIn.setCol (cx := up) (l := (.node y true ul uk uv ur)) (r := (.node p true (.node x c l k v r) pk pv s)) h2 false
  have G2 := hid (grandparent_some (x := x) (p := p) (g := g) (w := (w.setCell ⟨p, 2, none⟩ (.bool true)).setCell ⟨y, 2, none⟩ (.bool true)) (node_par (TreeIn.node (cx := (Cx.left (Cx.right up g gc (.node y true ul uk uv ur) gk gv) p true pk pv s)) h2)) (node_par (TreeIn.node (cx := (Cx.right up g gc (.node y true ul uk uv ur) gk gv)) h2)))
  have G3 := hid (grandparent_some (x := x) (p := p) (g := g) (w := ((w.setCell ⟨p, 2, none⟩ (.bool true)).setCell ⟨y, 2, none⟩ (.bool true)).setCell ⟨g, 2, none⟩ (.bool false)) (node_par (TreeIn.node (cx := (Cx.left (Cx.right up g false (.node y true ul uk uv ur) gk gv) p true pk pv s)) h3)) (node_par (TreeIn.node (cx := (Cx.right up g false (.node y true ul uk uv ur) gk gv)) h3)))
  have K0 := hid ((((Keep.refl (Own tb (up.plug (.node g gc (.node y uc ul uk uv ur) gk gv (.node p pc (.node x c l k v r) pk pv s)))) w).setCell ⟨p, 2, none⟩ (fun _ => own_plug (cx := (Cx.right up g gc (.node y uc ul uk uv ur) gk gv))) (.bool true)).setCell ⟨y, 2, none⟩ (fun _ => own_plug (cx := (Cx.left up g gc gk gv (.node p pc (.node x c l k v r) pk pv s)))) (.bool true)).setCell ⟨g, 2, none⟩ (fun _ => own_plug) (.bool false))
  have sp := h.sepL
  have ym := sp.a1 y (by rw [ids_node]; simp)
  have ngp : ¬ g = p := sp.xy
  have npg : ¬ p = g := fun e => sp.xy e.symm
  have nyg : ¬ y = g := ym.2.2.1
  have ngy : ¬ g = y := fun e => ym.2.2.1 e.symm
  have nyp : ¬ y = p := ym.2.2.2
  have npy : ¬ p = y := fun e => ym.2.2.2 e.symm
  have H3 := hid (ih _ h3)
  have U' := hid U
  have C' := hid C
  clear h hp hx F U C h1 h2 h3 huc ih sp ym
  go_enter Try.func133, Try.ntmps133
  go_wp2_with (first | (go_at_call 138; refine U'.out.mono ?_; rintro e w1 ⟨rfl, rfl⟩) | (go_at_call 128; refine C'.out.mono ?_; rintro e w1 ⟨rfl, rfl⟩))
  go_wp2_with (first | (go_at_call 139; ((with_reducible refine G2.out.mono ?_); rintro e w1 ⟨rfl, rfl⟩)) | (go_at_call 139; ((with_reducible refine G3.out.mono ?_); rintro e w1 ⟨rfl, rfl⟩)) | (go_at_call 126; refine H3.out.mono ?_; rintro e w1 ⟨rfl, t', ht, hrb, he, hk⟩))
  go_end0
  exact ⟨rfl, t', ht, hrb, he.trans (by simp [plug_ents, T.ents]), K0.out.own hk (by simp [plug_ents, T.ents])⟩

set_option maxHeartbeats 400000 in
theorem case3_black_RR (h : TreeIn w tb n cv (up.plug (.node g gc u gk gv (.node p pc s pk pv (.node x c l k v r))))) (hu : u.black = true) :
    Calls Try.prog 133 #[.pointer (some ⟨tb, 0, none⟩), .pointer (some ⟨x, 0, none⟩)] w fun e w' => e = .returned (.tuple #[]) ∧
      TreeIn w' tb n cv (up.plug (.node p true (.node g false u gk gv s) pk pv (.node x c l k v r))) ∧ Keep (Own tb (up.plug (.node g gc u gk gv (.node p pc s pk pv (.node x c l k v r))))) w w' := by
  have hp : TreeIn w tb n cv ((Cx.right up g gc u gk gv).plug (.node p pc s pk pv (.node x c l k v r))) := h
  have hx : TreeIn w tb n cv ((Cx.right (Cx.right up g gc u gk gv) p pc s pk pv).plug (.node x c l k v r)) := h
  have x5 : w.cell? ⟨x, 5, none⟩ = some (.pointer (some ⟨p, 0, none⟩)) := node_par hx.node
  have p5 : w.cell? ⟨p, 5, none⟩ = some (.pointer (some ⟨g, 0, none⟩)) := node_par hp.node
  have U := hid (uncle_raw x5 p5 (sibling_right h))
  have F := hid (h.sub.2.1)
  have H := hid h
  have C := hid (nodeColor_any F.out)
  rw [hu] at C
  clear h hp hx hu
  go_enter Try.func133, Try.ntmps133
  go_wp2_with (first | (go_at_call 138; refine U.out.mono ?_; rintro e w1 ⟨rfl, rfl⟩) | (go_at_call 128; refine C.out.mono ?_; rintro e w1 ⟨rfl, rfl⟩) | (go_at_call 140; refine (case4_RR H.out).mono ?_; rintro e w1 ⟨rfl, ht, hk⟩))
  go_end0
  exact ⟨rfl, ht, hk⟩

set_option maxHeartbeats 800000 in
theorem case3_red_RR {y : Nat} {ul ur : T} {uk uv : Int} {uc : Bool} (huc : uc = false) (h : TreeIn w tb n cv (up.plug (.node g gc (.node y uc ul uk uv ur) gk gv (.node p pc s pk pv (.node x c l k v r)))))
    (ih : ∀ w1, TreeIn w1 tb n cv (up.plug (.node g false (.node y true ul uk uv ur) gk gv (.node p true s pk pv (.node x c l k v r)))) → Calls Try.prog 126 #[.pointer (some ⟨tb, 0, none⟩), .pointer (some ⟨g, 0, none⟩)] w1 (InsPost tb n cv (up.plug (.node g false (.node y true ul uk uv ur) gk gv (.node p true s pk pv (.node x c l k v r)))) w1)) :
    Calls Try.prog 133 #[.pointer (some ⟨tb, 0, none⟩), .pointer (some ⟨x, 0, none⟩)] w (InsPost tb n cv (up.plug (.node g gc (.node y uc ul uk uv ur) gk gv (.node p pc s pk pv (.node x c l k v r)))) w) := by
  have hp : TreeIn w tb n cv ((Cx.right up g gc (.node y uc ul uk uv ur) gk gv).plug (.node p pc s pk pv (.node x c l k v r))) := h
  have hx : TreeIn w tb n cv ((Cx.right (Cx.right up g gc (.node y uc ul uk uv ur) gk gv) p pc s pk pv).plug (.node x c l k v r)) := h
  have x5 : w.cell? ⟨x, 5, none⟩ = some (.pointer (some ⟨p, 0, none⟩)) := node_par hx.node
  have p5 : w.cell? ⟨p, 5, none⟩ = some (.pointer (some ⟨g, 0, none⟩)) := node_par hp.node
  have p2 := node_col hp.node
  have g2 := node_col h.node
  have lp := node_plain hp.node
  have lg := node_plain h.node
  have U : Calls Try.prog 138 #[.pointer (some ⟨x, 0, none⟩)] w fun e w' => e = .returned (.pointer (some ⟨y, 0, none⟩)) ∧ w = w' := uncle_raw x5 p5 (sibling_right h)
  have F : Fits w (some g) (.node y uc ul uk uv ur) := h.sub.2.1
  have y2 := node_col F.1
  have ly := node_plain F.1
  have C : Calls Try.prog 128 #[.pointer (some ⟨y, 0, none⟩)] w fun e w' => e = .returned (.bool uc) ∧ w = w' := nodeColor_any F
  rw [huc] at C
  have h1 : TreeIn (w.setCell ⟨p, 2, none⟩ (.bool true)) tb n cv (up.plug (.node g gc (.node y uc ul uk uv ur) gk gv (.node p true s pk pv (.node x c l k v r)))) := hp.setCol true
  have h2 : TreeIn ((w.setCell ⟨p, 2, none⟩ (.bool true)).setCell ⟨y, 2, none⟩ (.bool true)) tb n cv (up.plug (.node g gc (.node y true ul uk uv ur) gk gv (.node p true s pk pv (.node x c l k v r)))) := TreeIn.setCol (cx := (Cx.left up g gc gk gv (.node p true s pk pv (.node x c l k v r)))) h1 true
  have h3 : TreeIn (((w.setCell ⟨p, 2, none⟩ (.bool true)).setCell ⟨y, 2, none⟩ (.bool true)).setCell ⟨g, 2, none⟩ (.bool false)) tb n cv (up.plug (.node g false (.node y true ul uk uv ur) gk gv (.node p true s pk pv (.node x c l k v r)))) := TreeIn.setCol (cx := up) (l := (.node y true ul uk uv ur)) (r := (.node p true s pk pv (.node x c l k v r))) h2 false
  have G2 := hid (grandparent_some (x := x) (p := p) (g := g) (w := (w.setCell ⟨p, 2, none⟩ (.bool true)).setCell ⟨y, 2, none⟩ (.bool true)) (node_par (TreeIn.node (cx := (Cx.right (Cx.right up g gc (.node y true ul uk uv ur) gk gv) p true s pk pv)) h2)) (node_par (TreeIn.node (cx := (Cx.right up g gc (.node y true ul uk uv ur) gk gv)) h2)))
  have G3 := hid (grandparent_some (x := x) (p := p) (g := g) (w := ((w.setCell ⟨p, 2, none⟩ (.bool true)).setCell ⟨y, 2, none⟩ (.bool true)).setCell ⟨g, 2, none⟩ (.bool false)) (node_par (TreeIn.node (cx := (Cx.right (Cx.right up g false (.node y true ul uk uv ur) gk gv) p true s pk pv)) h3)) (node_par (TreeIn.node (cx := (Cx.right up g false (.node y true ul uk uv ur) gk gv)) h3)))
  have K0 := hid ((((Keep.refl (Own tb (up.plug (.node g gc (.node y uc ul uk uv ur) gk gv (.node p pc s pk pv (.node x c l k v r))))) w).setCell ⟨p, 2, none⟩ (fun _ => own_plug (cx := (Cx.right up g gc (.node y uc ul uk uv ur) gk gv))) (.bool true)).setCell ⟨y, 2, none⟩ (fun _ => own_plug (cx := (Cx.left up g gc gk gv (.node p pc s pk pv (.node x c l k v r))))) (.bool true)).setCell ⟨g, 2, none⟩ (fun _ => own_plug) (.bool false))
  have sp := h.sepL
  have ym := sp.a1 y (by rw [ids_node]; simp)
  have ngp : ¬ g = p := sp.xy
  have npg : ¬ p = g := fun e => sp.xy e.symm
  have nyg : ¬ y = g := ym.2.2.1
  have ngy : ¬ g = y := fun e => ym.2.2.1 e.symm
  have nyp : ¬ y = p := ym.2.2.2
  have npy : ¬ p = y := fun e => ym.2.2.2 e.symm
  have H3 := hid (ih _ h3)
  have U' := hid U
  have C' := hid C
  clear h hp hx F U C h1 h2 h3 huc ih sp ym
  go_enter Try.func133, Try.ntmps133
  go_wp2_with (first | (go_at_call 138; refine U'.out.mono ?_; rintro e w1 ⟨rfl, rfl⟩) | (go_at_call 128; refine C'.out.mono ?_; rintro e w1 ⟨rfl, rfl⟩))
  go_wp2_with (first | (go_at_call 139; ((with_reducible refine G2.out.mono ?_); rintro e w1 ⟨rfl, rfl⟩)) | (go_at_call 139; ((with_reducible refine G3.out.mono ?_); rintro e w1 ⟨rfl, rfl⟩)) | (go_at_call 126; refine H3.out.mono ?_; rintro e w1 ⟨rfl, t', ht, hrb, he, hk⟩))
  go_end0
  exact ⟨rfl, t', ht, hrb, he.trans (by simp [plug_ents, T.ents]), K0.out.own hk (by simp [plug_ents, T.ents])⟩

theorem nodeColor_node {w : World} {x : Nat} {c : Bool} (h2 : w.cell? ⟨x, 2, none⟩ = some (.bool c)) : Calls Try.prog 128 #[.pointer (some ⟨x, 0, none⟩)] w fun e w' => e = .returned (.bool c) ∧ w = w' := by
  go_enter Try.func128, Try.ntmps128
  go_wp2
  go_ret
  exact ⟨rfl, rfl⟩
theorem case2_black {w : World} {tb x p : Nat} (x5 : w.cell? ⟨x, 5, none⟩ = some (.pointer (some ⟨p, 0, none⟩))) (p2 : w.cell? ⟨p, 2, none⟩ = some (.bool true)) :
    Calls Try.prog 131 #[.pointer (some ⟨tb, 0, none⟩), .pointer (some ⟨x, 0, none⟩)] w fun e w' => e = .returned (.tuple #[]) ∧ w = w' := by
  go_enter Try.func131, Try.ntmps131
  go_wp2_with (go_at_call 128; refine (nodeColor_node p2).mono ?_; rintro e w1 ⟨rfl, rfl⟩)
  (try simp only [Exit.inBlock, Exit.then]); refine bodyPost_ret (results_none rfl _ _ _) rfl ?_
  exact ⟨rfl, rfl⟩
theorem case2_pass {w : World} {tb x p : Nat} {R : Ending → World → Prop} (x5 : w.cell? ⟨x, 5, none⟩ = some (.pointer (some ⟨p, 0, none⟩))) (p2 : w.cell? ⟨p, 2, none⟩ = some (.bool false))
    (hR : ∀ e w', R e w' → e = .returned (.tuple #[])) (hC : Calls Try.prog 133 #[.pointer (some ⟨tb, 0, none⟩), .pointer (some ⟨x, 0, none⟩)] w R) :
    Calls Try.prog 131 #[.pointer (some ⟨tb, 0, none⟩), .pointer (some ⟨x, 0, none⟩)] w R := by
  have C := hid hC
  have HR := hid hR
  clear hC hR
  go_enter Try.func131, Try.ntmps131
  go_wp2_with (first | (go_at_call 128; refine (nodeColor_node p2).mono ?_; rintro e w1 ⟨rfl, rfl⟩) | (go_at_call 133; refine C.out.mono ?_; intro e w1 hr; obtain rfl := HR.out e w1 hr))
  go_end0
  exact hr
theorem case1_pass {w : World} {tb x p : Nat} {R : Ending → World → Prop} (x5 : w.cell? ⟨x, 5, none⟩ = some (.pointer (some ⟨p, 0, none⟩)))
    (hR : ∀ e w', R e w' → e = .returned (.tuple #[])) (hC : Calls Try.prog 131 #[.pointer (some ⟨tb, 0, none⟩), .pointer (some ⟨x, 0, none⟩)] w R) :
    Calls Try.prog 126 #[.pointer (some ⟨tb, 0, none⟩), .pointer (some ⟨x, 0, none⟩)] w R := by
  have C := hid hC
  have HR := hid hR
  clear hC hR
  go_enter Try.func126, Try.ntmps126
  go_wp2_with (go_at_call 131; refine C.out.mono ?_; intro e w1 hr; obtain rfl := HR.out e w1 hr)
  go_end0
  exact hr
theorem case1_top {w : World} {tb x : Nat} {c : Bool} (x5 : w.cell? ⟨x, 5, none⟩ = some (.pointer none)) (x2 : w.cell? ⟨x, 2, none⟩ = some (.bool c)) (lx : Plain w x) :
    Calls Try.prog 126 #[.pointer (some ⟨tb, 0, none⟩), .pointer (some ⟨x, 0, none⟩)] w fun e w' => e = .returned (.tuple #[]) ∧ w.setCell ⟨x, 2, none⟩ (.bool true) = w' := by
  go_enter Try.func126, Try.ntmps126
  go_wp2
  go_end0
  exact ⟨rfl, rfl⟩
theorem InsPost.ret {tb : Nat} {n : Int} {cv : Value} {t : T} {w : World} : ∀ e w', InsPost tb n cv t w e w' → e = .returned (.tuple #[]) := fun _ _ h => h.1
end

theorem insertCase1_any (tb : Nat) (n : Int) (cv : Value) : ∀ (m : Nat) (cx : Cx) (x : Nat) (l r : T) (k v : Int) (h : Nat) (w : World), cx.depth ≤ m →
    TreeIn w tb n cv (cx.plug (.node x false l k v r)) → l.black = true → r.black = true → l.RB h → r.RB h → cx.Ok h →
    Calls Try.prog 126 #[.pointer (some ⟨tb, 0, none⟩), .pointer (some ⟨x, 0, none⟩)] w (InsPost tb n cv (cx.plug (.node x false l k v r)) w) := by
  intro m
  induction m using Nat.strongRecOn with
  | _ m ih =>
  intro cx x l r k v h w hm ht hlb hrb hl hr hok
  cases cx with
  | top =>
    refine (case1_top (node_par ht.node) (node_col ht.node) (node_plain ht.node)).mono ?_
    rintro e w' ⟨rfl, rfl⟩
    exact ⟨rfl, _, ht.setCol true, ⟨rfl, h + 1, (RB_black _ _ _ _ _ _).2 ⟨hl, hr⟩⟩, rfl, (Keep.refl _ _).setCell ⟨x, 2, none⟩ (fun _ => own_plug (cx := Cx.top)) _⟩
  | left up p pc pk pv s =>
    have x5 : w.cell? ⟨x, 5, none⟩ = some (.pointer (some ⟨p, 0, none⟩)) := node_par ht.node
    have p2 := node_col (TreeIn.node (cx := up) (x := p) ht)
    cases pc with
    | true =>
      refine case1_pass x5 InsPost.ret ((case2_black x5 p2).mono ?_)
      rintro e w' ⟨rfl, rfl⟩
      exact ⟨rfl, _, ht, plug_RBT _ _ h ((RB_red _ _ _ _ _ _).2 ⟨hlb, hrb, hl, hr⟩) hok (.inr rfl), rfl, Keep.refl _ _⟩
    | false =>
      refine case1_pass x5 InsPost.ret (case2_pass x5 p2 InsPost.ret ?_)
      rw [Ok_left_red] at hok
      obtain ⟨hs, hsb, hup, hupo⟩ := hok
      cases up with
      | top => simp [Cx.redOk] at hup
      | left up g gc gk gv u =>
        obtain rfl : gc = true := by simpa [Cx.redOk] using hup
        rw [Ok_left_black] at hupo
        by_cases hub : u.black = true
        · refine (case3_black_LL ht hub).mono ?_
          rintro e w' ⟨rfl, ht', hk⟩
          exact ⟨rfl, _, ht', plug_RBT up _ (h + 1) ((RB_black _ _ _ _ _ _).2 ⟨(RB_red _ _ _ _ _ _).2 ⟨hlb, hrb, hl, hr⟩, (RB_red _ _ _ _ _ _).2 ⟨hsb, hub, hs, hupo.1⟩⟩) hupo.2 (.inl rfl), by simp [plug_ents, T.ents, Cx.bents, Cx.aents], hk⟩
        · cases u with
          | nil => exact (hub rfl).elim
          | node y uc ul uk uv ur =>
            cases uc with
            | true => exact (hub rfl).elim
            | false =>
              refine case3_red_LL rfl ht fun w1 h1 => ih up.depth (by simp only [Cx.depth] at hm; omega) up g _ _ gk gv (h + 1) w1 (Nat.le_refl _) h1 rfl rfl ((RB_black _ _ _ _ _ _).2 ⟨(RB_red _ _ _ _ _ _).2 ⟨hlb, hrb, hl, hr⟩, hs⟩) ((RB_black _ _ _ _ _ _).2 ⟨((RB_red _ _ _ _ _ _).1 hupo.1).2.2.1, ((RB_red _ _ _ _ _ _).1 hupo.1).2.2.2⟩) hupo.2
      | right up g gc u gk gv =>
        obtain rfl : gc = true := by simpa [Cx.redOk] using hup
        rw [Ok_right_black] at hupo
        by_cases hub : u.black = true
        · refine (case3_black_RL ht hub).mono ?_
          rintro e w' ⟨rfl, ht', hk⟩
          exact ⟨rfl, _, ht', plug_RBT up _ (h + 1) ((RB_black _ _ _ _ _ _).2 ⟨(RB_red _ _ _ _ _ _).2 ⟨hub, hlb, hupo.1, hl⟩, (RB_red _ _ _ _ _ _).2 ⟨hrb, hsb, hr, hs⟩⟩) hupo.2 (.inl rfl), by simp [plug_ents, T.ents, Cx.bents, Cx.aents], hk⟩
        · cases u with
          | nil => exact (hub rfl).elim
          | node y uc ul uk uv ur =>
            cases uc with
            | true => exact (hub rfl).elim
            | false =>
              refine case3_red_RL rfl ht fun w1 h1 => ih up.depth (by simp only [Cx.depth] at hm; omega) up g _ _ gk gv (h + 1) w1 (Nat.le_refl _) h1 rfl rfl ((RB_black _ _ _ _ _ _).2 ⟨((RB_red _ _ _ _ _ _).1 hupo.1).2.2.1, ((RB_red _ _ _ _ _ _).1 hupo.1).2.2.2⟩) ((RB_black _ _ _ _ _ _).2 ⟨(RB_red _ _ _ _ _ _).2 ⟨hlb, hrb, hl, hr⟩, hs⟩) hupo.2
  | right up p pc s pk pv =>
    have x5 : w.cell? ⟨x, 5, none⟩ = some (.pointer (some ⟨p, 0, none⟩)) := node_par ht.node
    have p2 := node_col (TreeIn.node (cx := up) (x := p) ht)
    cases pc with
    | true =>
      refine case1_pass x5 InsPost.ret ((case2_black x5 p2).mono ?_)
      rintro e w' ⟨rfl, rfl⟩
      exact ⟨rfl, _, ht, plug_RBT _ _ h ((RB_red _ _ _ _ _ _).2 ⟨hlb, hrb, hl, hr⟩) hok (.inr rfl), rfl, Keep.refl _ _⟩
    | false =>
      refine case1_pass x5 InsPost.ret (case2_pass x5 p2 InsPost.ret ?_)
      rw [Ok_right_red] at hok
      obtain ⟨hs, hsb, hup, hupo⟩ := hok
      cases up with
      | top => simp [Cx.redOk] at hup
      | left up g gc gk gv u =>
        obtain rfl : gc = true := by simpa [Cx.redOk] using hup
        rw [Ok_left_black] at hupo
        by_cases hub : u.black = true
        · refine (case3_black_LR ht hub).mono ?_
          rintro e w' ⟨rfl, ht', hk⟩
          exact ⟨rfl, _, ht', plug_RBT up _ (h + 1) ((RB_black _ _ _ _ _ _).2 ⟨(RB_red _ _ _ _ _ _).2 ⟨hsb, hlb, hs, hl⟩, (RB_red _ _ _ _ _ _).2 ⟨hrb, hub, hr, hupo.1⟩⟩) hupo.2 (.inl rfl), by simp [plug_ents, T.ents, Cx.bents, Cx.aents], hk⟩
        · cases u with
          | nil => exact (hub rfl).elim
          | node y uc ul uk uv ur =>
            cases uc with
            | true => exact (hub rfl).elim
            | false =>
              refine case3_red_LR rfl ht fun w1 h1 => ih up.depth (by simp only [Cx.depth] at hm; omega) up g _ _ gk gv (h + 1) w1 (Nat.le_refl _) h1 rfl rfl ((RB_black _ _ _ _ _ _).2 ⟨hs, (RB_red _ _ _ _ _ _).2 ⟨hlb, hrb, hl, hr⟩⟩) ((RB_black _ _ _ _ _ _).2 ⟨((RB_red _ _ _ _ _ _).1 hupo.1).2.2.1, ((RB_red _ _ _ _ _ _).1 hupo.1).2.2.2⟩) hupo.2
      | right up g gc u gk gv =>
        obtain rfl : gc = true := by simpa [Cx.redOk] using hup
        rw [Ok_right_black] at hupo
        by_cases hub : u.black = true
        · refine (case3_black_RR ht hub).mono ?_
          rintro e w' ⟨rfl, ht', hk⟩
          exact ⟨rfl, _, ht', plug_RBT up _ (h + 1) ((RB_black _ _ _ _ _ _).2 ⟨(RB_red _ _ _ _ _ _).2 ⟨hub, hsb, hupo.1, hs⟩, (RB_red _ _ _ _ _ _).2 ⟨hlb, hrb, hl, hr⟩⟩) hupo.2 (.inl rfl), by simp [plug_ents, T.ents, Cx.bents, Cx.aents], hk⟩
        · cases u with
          | nil => exact (hub rfl).elim
          | node y uc ul uk uv ur =>
            cases uc with
            | true => exact (hub rfl).elim
            | false =>
              refine case3_red_RR rfl ht fun w1 h1 => ih up.depth (by simp only [Cx.depth] at hm; omega) up g _ _ gk gv (h + 1) w1 (Nat.le_refl _) h1 rfl rfl ((RB_black _ _ _ _ _ _).2 ⟨((RB_red _ _ _ _ _ _).1 hupo.1).2.2.1, ((RB_red _ _ _ _ _ _).1 hupo.1).2.2.2⟩) ((RB_black _ _ _ _ _ _).2 ⟨hs, (RB_red _ _ _ _ _ _).2 ⟨hlb, hrb, hl, hr⟩⟩) hupo.2

end Go.Proofs.Ytdamfannmlncnaa
