/- The six cases ahead of a deletion, walked; what they come to. -/
import Derived.Test.YtdamfannmlncnaaIns
namespace Go.Proofs.Ytdamfannmlncnaa
open Go.RowKit
set_option linter.unusedVariables false
set_option linter.unusedSimpArgs false

theorem nodeColor_c {w : World} {p : Option Nat} {t : T} {c : Bool} (h : Fits w p t) (hc : t.black = c) :
    Calls Try.prog 128 #[.pointer (ad t.ptr)] w fun e w' => e = .returned (.bool c) ∧ w = w' :=
  (nodeColor_any h).mono fun e w' ⟨he, hw⟩ => ⟨by rw [he, hc], hw⟩

section
variable {w : World} {tb : Nat} {n : Int} {cv : Value} {up : Cx} {x p y z : Nat} {l r inn out a b zl zr : T} {k v pk pv sk sv zk zv : Int} {c pc yc zc : Bool}

set_option maxHeartbeats 800000 in
theorem delete6_L (hzc : zc = false) (h : TreeIn w tb n cv (up.plug (.node p pc (.node x c l k v r) pk pv (.node y yc inn sk sv (.node z zc zl zk zv zr))))) :
    Calls Try.prog 144 #[.pointer (some ⟨tb, 0, none⟩), .pointer (some ⟨x, 0, none⟩)] w fun e w' => e = .returned (.tuple #[]) ∧ TreeIn w' tb n cv (up.plug (.node y pc (.node p true (.node x c l k v r) pk pv inn) sk sv (.node z true zl zk zv zr))) ∧ Keep (Own tb (up.plug (.node p pc (.node x c l k v r) pk pv (.node y yc inn sk sv (.node z zc zl zk zv zr))))) w w' := by
  have hx : TreeIn w tb n cv ((Cx.left up p pc pk pv (.node y yc inn sk sv (.node z zc zl zk zv zr))).plug (.node x c l k v r)) := h
  have hs : TreeIn w tb n cv ((Cx.right up p pc (.node x c l k v r) pk pv).plug (.node y yc inn sk sv (.node z zc zl zk zv zr))) := h
  have x5 : w.cell? ⟨x, 5, none⟩ = some (.pointer (some ⟨p, 0, none⟩)) := node_par hx.node
  have p2 := node_col h.node
  have p3 : w.cell? ⟨p, 3, none⟩ = some (.pointer (some ⟨x, 0, none⟩)) := node_left h.node
  have p4 : w.cell? ⟨p, 4, none⟩ = some (.pointer (some ⟨y, 0, none⟩)) := node_right h.node
  have y2 := node_col hs.node
  have lx := node_plain hx.node
  have lp := node_plain h.node
  have ly := node_plain hs.node
  have sp := h.sepL
  have xm := sp.a1 x (by rw [ids_node]; simp)
  have nxp : ¬ x = p := xm.2.2.1
  have npx : ¬ p = x := fun e => xm.2.2.1 e.symm
  have nxy : ¬ x = y := xm.2.2.2
  have nyx : ¬ y = x := fun e => xm.2.2.2 e.symm
  have npy : ¬ p = y := sp.xy
  have nyp : ¬ y = p := fun e => sp.xy e.symm
  have SB : Calls Try.prog 134 #[.pointer (some ⟨x, 0, none⟩)] w fun e w' => e = .returned (.pointer (some ⟨y, 0, none⟩)) ∧ w = w' := sibling_left h
  have SB := hid SB
  have finn : Fits w (some y) inn := hs.sub.2.1
  have fout : Fits w (some y) (.node z zc zl zk zv zr) := hs.sub.2.2
  have y4 : w.cell? ⟨y, 4, none⟩ = some (.pointer (some ⟨z, 0, none⟩)) := node_right hs.node
  have zm := sp.d1 z (by rw [ids_node]; simp)
  have nzp : ¬ z = p := zm.2.2.1
  have nzy : ¬ z = y := zm.2.2.2
  have npz : ¬ p = z := fun e => nzp e.symm
  have nyz : ¬ y = z := fun e => nzy e.symm
  have lz := node_plain fout.1
  have z20 := node_col fout.1
  have h1 : TreeIn (w.setCell ⟨y, 2, none⟩ (.bool pc)) tb n cv (up.plug (.node p pc (.node x c l k v r) pk pv (.node y pc inn sk sv (.node z zc zl zk zv zr)))) := hs.setCol pc
  have h2 : TreeIn ((w.setCell ⟨y, 2, none⟩ (.bool pc)).setCell ⟨p, 2, none⟩ (.bool true)) tb n cv (up.plug (.node p true (.node x c l k v r) pk pv (.node y pc inn sk sv (.node z zc zl zk zv zr)))) := TreeIn.setCol (cx := up) (l := (.node x c l k v r)) (r := (.node y pc inn sk sv (.node z zc zl zk zv zr))) h1 true
  have z2 := node_col (TreeIn.node (cx := (Cx.right (Cx.right up p true (.node x c l k v r) pk pv) y pc inn sk sv)) (x := z) h2)
  rw [hzc] at z2
  have C2 := hid (nodeColor_node z2)
  have H3 := hid (show TreeIn (((w.setCell ⟨y, 2, none⟩ (.bool pc)).setCell ⟨p, 2, none⟩ (.bool true)).setCell ⟨z, 2, none⟩ (.bool true)) tb n cv (up.plug (.node p true (.node x c l k v r) pk pv (.node y pc inn sk sv (.node z true zl zk zv zr)))) from TreeIn.setCol (cx := (Cx.right (Cx.right up p true (.node x c l k v r) pk pv) y pc inn sk sv)) h2 true)
  have K0 := hid ((((Keep.refl (Own tb (up.plug (.node p pc (.node x c l k v r) pk pv (.node y yc inn sk sv (.node z zc zl zk zv zr))))) w).setCell ⟨y, 2, none⟩ (fun _ => own_plug (cx := (Cx.right up p pc (.node x c l k v r) pk pv))) (.bool pc)).setCell ⟨p, 2, none⟩ (fun _ => own_plug) (.bool true)).setCell ⟨z, 2, none⟩ (fun _ => own_plug (cx := (Cx.right (Cx.right up p pc (.node x c l k v r) pk pv) y yc inn sk sv))) (.bool true))
  clear h hx hs sp xm finn fout zm h1 h2 hzc z2
  go_enter Try.func144, Try.ntmps144
  go_wp2_with (first | (go_at_call 134; ((with_reducible refine (SB.out).mono ?_); rintro e w1 ⟨rfl, rfl⟩)) | (go_at_call 128; ((with_reducible refine (nodeColor_node p2).mono ?_); rintro e w1 ⟨rfl, rfl⟩)) | (go_at_call 128; ((with_reducible refine (C2.out).mono ?_); rintro e w1 ⟨rfl, rfl⟩)) | (go_at_call 135; ((with_reducible refine (rotateLeft_any H3.out).mono ?_); rintro e w1 ⟨rfl, ht, hk⟩)))
  go_end0
  exact ⟨rfl, ht, K0.out.own hk (by simp [plug_ents, T.ents])⟩

set_option maxHeartbeats 800000 in
theorem delete6_R (hzc : zc = false) (h : TreeIn w tb n cv (up.plug (.node p pc (.node y yc (.node z zc zl zk zv zr) sk sv inn) pk pv (.node x c l k v r)))) :
    Calls Try.prog 144 #[.pointer (some ⟨tb, 0, none⟩), .pointer (some ⟨x, 0, none⟩)] w fun e w' => e = .returned (.tuple #[]) ∧ TreeIn w' tb n cv (up.plug (.node y pc (.node z true zl zk zv zr) sk sv (.node p true inn pk pv (.node x c l k v r)))) ∧ Keep (Own tb (up.plug (.node p pc (.node y yc (.node z zc zl zk zv zr) sk sv inn) pk pv (.node x c l k v r)))) w w' := by
  have hx : TreeIn w tb n cv ((Cx.right up p pc (.node y yc (.node z zc zl zk zv zr) sk sv inn) pk pv).plug (.node x c l k v r)) := h
  have hs : TreeIn w tb n cv ((Cx.left up p pc pk pv (.node x c l k v r)).plug (.node y yc (.node z zc zl zk zv zr) sk sv inn)) := h
  have x5 : w.cell? ⟨x, 5, none⟩ = some (.pointer (some ⟨p, 0, none⟩)) := node_par hx.node
  have p2 := node_col h.node
  have p4 : w.cell? ⟨p, 4, none⟩ = some (.pointer (some ⟨x, 0, none⟩)) := node_right h.node
  have p3 : w.cell? ⟨p, 3, none⟩ = some (.pointer (some ⟨y, 0, none⟩)) := node_left h.node
  have y2 := node_col hs.node
  have lx := node_plain hx.node
  have lp := node_plain h.node
  have ly := node_plain hs.node
  have sp := h.sepR
  have xm := sp.d1 x (by rw [ids_node]; simp)
  have nxp : ¬ x = p := xm.2.2.1
  have npx : ¬ p = x := fun e => xm.2.2.1 e.symm
  have nxy : ¬ x = y := xm.2.2.2
  have nyx : ¬ y = x := fun e => xm.2.2.2 e.symm
  have npy : ¬ p = y := sp.xy
  have nyp : ¬ y = p := fun e => sp.xy e.symm
  have SB : Calls Try.prog 134 #[.pointer (some ⟨x, 0, none⟩)] w fun e w' => e = .returned (.pointer (some ⟨y, 0, none⟩)) ∧ w = w' := sibling_right h
  have SB := hid SB
  have finn : Fits w (some y) inn := hs.sub.2.2
  have fout : Fits w (some y) (.node z zc zl zk zv zr) := hs.sub.2.1
  have y3 : w.cell? ⟨y, 3, none⟩ = some (.pointer (some ⟨z, 0, none⟩)) := node_left hs.node
  have zm := sp.a1 z (by rw [ids_node]; simp)
  have nzp : ¬ z = p := zm.2.2.1
  have nzy : ¬ z = y := zm.2.2.2
  have npz : ¬ p = z := fun e => nzp e.symm
  have nyz : ¬ y = z := fun e => nzy e.symm
  have lz := node_plain fout.1
  have z20 := node_col fout.1
  have h1 : TreeIn (w.setCell ⟨y, 2, none⟩ (.bool pc)) tb n cv (up.plug (.node p pc (.node y pc (.node z zc zl zk zv zr) sk sv inn) pk pv (.node x c l k v r))) := hs.setCol pc
  have h2 : TreeIn ((w.setCell ⟨y, 2, none⟩ (.bool pc)).setCell ⟨p, 2, none⟩ (.bool true)) tb n cv (up.plug (.node p true (.node y pc (.node z zc zl zk zv zr) sk sv inn) pk pv (.node x c l k v r))) := TreeIn.setCol (cx := up) (l := (.node y pc (.node z zc zl zk zv zr) sk sv inn)) (r := (.node x c l k v r)) h1 true
  have z2 := node_col (TreeIn.node (cx := (Cx.left (Cx.left up p true pk pv (.node x c l k v r)) y pc sk sv inn)) (x := z) h2)
  rw [hzc] at z2
  have C2 := hid (nodeColor_node z2)
  have H3 := hid (show TreeIn (((w.setCell ⟨y, 2, none⟩ (.bool pc)).setCell ⟨p, 2, none⟩ (.bool true)).setCell ⟨z, 2, none⟩ (.bool true)) tb n cv (up.plug (.node p true (.node y pc (.node z true zl zk zv zr) sk sv inn) pk pv (.node x c l k v r))) from TreeIn.setCol (cx := (Cx.left (Cx.left up p true pk pv (.node x c l k v r)) y pc sk sv inn)) h2 true)
  have K0 := hid ((((Keep.refl (Own tb (up.plug (.node p pc (.node y yc (.node z zc zl zk zv zr) sk sv inn) pk pv (.node x c l k v r)))) w).setCell ⟨y, 2, none⟩ (fun _ => own_plug (cx := (Cx.left up p pc pk pv (.node x c l k v r)))) (.bool pc)).setCell ⟨p, 2, none⟩ (fun _ => own_plug) (.bool true)).setCell ⟨z, 2, none⟩ (fun _ => own_plug (cx := (Cx.left (Cx.left up p pc pk pv (.node x c l k v r)) y yc sk sv inn))) (.bool true))
  clear h hx hs sp xm finn fout zm h1 h2 hzc z2
  go_enter Try.func144, Try.ntmps144
  go_wp2_with (first | (go_at_call 134; ((with_reducible refine (SB.out).mono ?_); rintro e w1 ⟨rfl, rfl⟩)) | (go_at_call 128; ((with_reducible refine (nodeColor_node p2).mono ?_); rintro e w1 ⟨rfl, rfl⟩)) | (go_at_call 128; ((with_reducible refine (C2.out).mono ?_); rintro e w1 ⟨rfl, rfl⟩)) | (go_at_call 136; ((with_reducible refine (rotateRight_any H3.out).mono ?_); rintro e w1 ⟨rfl, ht, hk⟩)))
  go_end0
  exact ⟨rfl, ht, K0.out.own hk (by simp [plug_ents, T.ents])⟩

set_option maxHeartbeats 1600000 in
theorem delete5_turn_L {R : Ending → World → Prop} (hR : ∀ e w', R e w' → e = .returned (.tuple #[])) (hob : out.black = true) (h : TreeIn w tb n cv (up.plug (.node p pc (.node x c l k v r) pk pv (.node y true (.node z false zl zk zv zr) sk sv out))))
    (hC : ∀ w3, TreeIn w3 tb n cv (up.plug (.node p pc (.node x c l k v r) pk pv (.node z true zl zk zv (.node y false zr sk sv out)))) → Keep (Own tb (up.plug (.node p pc (.node x c l k v r) pk pv (.node y true (.node z false zl zk zv zr) sk sv out)))) w w3 → Calls Try.prog 144 #[.pointer (some ⟨tb, 0, none⟩), .pointer (some ⟨x, 0, none⟩)] w3 R) :
    Calls Try.prog 143 #[.pointer (some ⟨tb, 0, none⟩), .pointer (some ⟨x, 0, none⟩)] w R := by
  have hx : TreeIn w tb n cv ((Cx.left up p pc pk pv (.node y true (.node z false zl zk zv zr) sk sv out)).plug (.node x c l k v r)) := h
  have hs : TreeIn w tb n cv ((Cx.right up p pc (.node x c l k v r) pk pv).plug (.node y true (.node z false zl zk zv zr) sk sv out)) := h
  have x5 : w.cell? ⟨x, 5, none⟩ = some (.pointer (some ⟨p, 0, none⟩)) := node_par hx.node
  have p2 := node_col h.node
  have p3 : w.cell? ⟨p, 3, none⟩ = some (.pointer (some ⟨x, 0, none⟩)) := node_left h.node
  have p4 : w.cell? ⟨p, 4, none⟩ = some (.pointer (some ⟨y, 0, none⟩)) := node_right h.node
  have y2 := node_col hs.node
  have lx := node_plain hx.node
  have lp := node_plain h.node
  have ly := node_plain hs.node
  have sp := h.sepL
  have xm := sp.a1 x (by rw [ids_node]; simp)
  have nxp : ¬ x = p := xm.2.2.1
  have npx : ¬ p = x := fun e => xm.2.2.1 e.symm
  have nxy : ¬ x = y := xm.2.2.2
  have nyx : ¬ y = x := fun e => xm.2.2.2 e.symm
  have npy : ¬ p = y := sp.xy
  have nyp : ¬ y = p := fun e => sp.xy e.symm
  have SB : Calls Try.prog 134 #[.pointer (some ⟨x, 0, none⟩)] w fun e w' => e = .returned (.pointer (some ⟨y, 0, none⟩)) ∧ w = w' := sibling_left h
  have SB := hid SB
  have finn : Fits w (some y) (.node z false zl zk zv zr) := hs.sub.2.1
  have fout : Fits w (some y) out := hs.sub.2.2
  have y3 : w.cell? ⟨y, 3, none⟩ = some (.pointer (some ⟨z, 0, none⟩)) := node_left hs.node
  have y4 := node_right hs.node
  have zm := sp.b1 z (by rw [ids_node]; simp)
  have nzp : ¬ z = p := zm.2.2.1
  have nzy : ¬ z = y := zm.2.2.2
  have npz : ¬ p = z := fun e => nzp e.symm
  have nyz : ¬ y = z := fun e => nzy e.symm
  have lz := node_plain finn.1
  have z2 := node_col finn.1
  have CO := hid (nodeColor_c fout hob)
  have h1 : TreeIn (w.setCell ⟨y, 2, none⟩ (.bool false)) tb n cv (up.plug (.node p pc (.node x c l k v r) pk pv (.node y false (.node z false zl zk zv zr) sk sv out))) := hs.setCol false
  have h2 : TreeIn ((w.setCell ⟨y, 2, none⟩ (.bool false)).setCell ⟨z, 2, none⟩ (.bool true)) tb n cv (up.plug (.node p pc (.node x c l k v r) pk pv (.node y false (.node z true zl zk zv zr) sk sv out))) := TreeIn.setCol (cx := (Cx.left (Cx.right up p pc (.node x c l k v r) pk pv) y false sk sv out)) h1 true
  have H2 := hid (show TreeIn ((w.setCell ⟨y, 2, none⟩ (.bool false)).setCell ⟨z, 2, none⟩ (.bool true)) tb n cv ((Cx.right up p pc (.node x c l k v r) pk pv).plug (.node y false (.node z true zl zk zv zr) sk sv out)) from h2)
  have K0 := hid (((Keep.refl (Own tb (up.plug (.node p pc (.node x c l k v r) pk pv (.node y true (.node z false zl zk zv zr) sk sv out)))) w).setCell ⟨y, 2, none⟩ (fun _ => own_plug (cx := (Cx.right up p pc (.node x c l k v r) pk pv))) (.bool false)).setCell ⟨z, 2, none⟩ (fun _ => own_plug (cx := (Cx.left (Cx.right up p pc (.node x c l k v r) pk pv) y true sk sv out))) (.bool true))
  have HC := hid hC
  have HR := hid hR
  clear h hx hs sp xm finn fout zm h1 h2 hob hC hR
  go_enter Try.func143, Try.ntmps143
  go_wp2_with (first | (go_at_call 134; ((with_reducible refine (SB.out).mono ?_); rintro e w1 ⟨rfl, rfl⟩)) | (go_at_call 128; ((with_reducible refine (nodeColor_node y2).mono ?_); rintro e w1 ⟨rfl, rfl⟩)) | (go_at_call 128; ((with_reducible refine (nodeColor_node z2).mono ?_); rintro e w1 ⟨rfl, rfl⟩)) | (go_at_call 128; ((with_reducible refine (CO.out).mono ?_); rintro e w1 ⟨rfl, rfl⟩)) | (go_at_call 136; ((with_reducible refine (rotateRight_any H2.out).mono ?_); rintro e w3 ⟨rfl, ht, hk⟩)) | (go_at_call 144; refine (HC.out _ ht (K0.out.own hk (by simp [plug_ents, T.ents, Cx.bents, Cx.aents]))).mono ?_; intro e w4 hr; obtain rfl := HR.out e w4 hr))
  go_end0
  exact hr

set_option maxHeartbeats 1600000 in
theorem delete5_turn_R {R : Ending → World → Prop} (hR : ∀ e w', R e w' → e = .returned (.tuple #[])) (hob : out.black = true) (h : TreeIn w tb n cv (up.plug (.node p pc (.node y true out sk sv (.node z false zl zk zv zr)) pk pv (.node x c l k v r))))
    (hC : ∀ w3, TreeIn w3 tb n cv (up.plug (.node p pc (.node z true (.node y false out sk sv zl) zk zv zr) pk pv (.node x c l k v r))) → Keep (Own tb (up.plug (.node p pc (.node y true out sk sv (.node z false zl zk zv zr)) pk pv (.node x c l k v r)))) w w3 → Calls Try.prog 144 #[.pointer (some ⟨tb, 0, none⟩), .pointer (some ⟨x, 0, none⟩)] w3 R) :
    Calls Try.prog 143 #[.pointer (some ⟨tb, 0, none⟩), .pointer (some ⟨x, 0, none⟩)] w R := by
  have hx : TreeIn w tb n cv ((Cx.right up p pc (.node y true out sk sv (.node z false zl zk zv zr)) pk pv).plug (.node x c l k v r)) := h
  have hs : TreeIn w tb n cv ((Cx.left up p pc pk pv (.node x c l k v r)).plug (.node y true out sk sv (.node z false zl zk zv zr))) := h
  have x5 : w.cell? ⟨x, 5, none⟩ = some (.pointer (some ⟨p, 0, none⟩)) := node_par hx.node
  have p2 := node_col h.node
  have p4 : w.cell? ⟨p, 4, none⟩ = some (.pointer (some ⟨x, 0, none⟩)) := node_right h.node
  have p3 : w.cell? ⟨p, 3, none⟩ = some (.pointer (some ⟨y, 0, none⟩)) := node_left h.node
  have y2 := node_col hs.node
  have lx := node_plain hx.node
  have lp := node_plain h.node
  have ly := node_plain hs.node
  have sp := h.sepR
  have xm := sp.d1 x (by rw [ids_node]; simp)
  have nxp : ¬ x = p := xm.2.2.1
  have npx : ¬ p = x := fun e => xm.2.2.1 e.symm
  have nxy : ¬ x = y := xm.2.2.2
  have nyx : ¬ y = x := fun e => xm.2.2.2 e.symm
  have npy : ¬ p = y := sp.xy
  have nyp : ¬ y = p := fun e => sp.xy e.symm
  have SB : Calls Try.prog 134 #[.pointer (some ⟨x, 0, none⟩)] w fun e w' => e = .returned (.pointer (some ⟨y, 0, none⟩)) ∧ w = w' := sibling_right h
  have SB := hid SB
  have finn : Fits w (some y) (.node z false zl zk zv zr) := hs.sub.2.2
  have fout : Fits w (some y) out := hs.sub.2.1
  have y4 : w.cell? ⟨y, 4, none⟩ = some (.pointer (some ⟨z, 0, none⟩)) := node_right hs.node
  have y3 := node_left hs.node
  have zm := sp.b1 z (by rw [ids_node]; simp)
  have nzp : ¬ z = p := zm.2.2.1
  have nzy : ¬ z = y := zm.2.2.2
  have npz : ¬ p = z := fun e => nzp e.symm
  have nyz : ¬ y = z := fun e => nzy e.symm
  have lz := node_plain finn.1
  have z2 := node_col finn.1
  have CO := hid (nodeColor_c fout hob)
  have h1 : TreeIn (w.setCell ⟨y, 2, none⟩ (.bool false)) tb n cv (up.plug (.node p pc (.node y false out sk sv (.node z false zl zk zv zr)) pk pv (.node x c l k v r))) := hs.setCol false
  have h2 : TreeIn ((w.setCell ⟨y, 2, none⟩ (.bool false)).setCell ⟨z, 2, none⟩ (.bool true)) tb n cv (up.plug (.node p pc (.node y false out sk sv (.node z true zl zk zv zr)) pk pv (.node x c l k v r))) := TreeIn.setCol (cx := (Cx.right (Cx.left up p pc pk pv (.node x c l k v r)) y false out sk sv)) h1 true
  have H2 := hid (show TreeIn ((w.setCell ⟨y, 2, none⟩ (.bool false)).setCell ⟨z, 2, none⟩ (.bool true)) tb n cv ((Cx.left up p pc pk pv (.node x c l k v r)).plug (.node y false out sk sv (.node z true zl zk zv zr))) from h2)
  have K0 := hid (((Keep.refl (Own tb (up.plug (.node p pc (.node y true out sk sv (.node z false zl zk zv zr)) pk pv (.node x c l k v r)))) w).setCell ⟨y, 2, none⟩ (fun _ => own_plug (cx := (Cx.left up p pc pk pv (.node x c l k v r)))) (.bool false)).setCell ⟨z, 2, none⟩ (fun _ => own_plug (cx := (Cx.right (Cx.left up p pc pk pv (.node x c l k v r)) y true out sk sv))) (.bool true))
  have HC := hid hC
  have HR := hid hR
  clear h hx hs sp xm finn fout zm h1 h2 hob hC hR
  go_enter Try.func143, Try.ntmps143
  go_wp2_with (first | (go_at_call 134; ((with_reducible refine (SB.out).mono ?_); rintro e w1 ⟨rfl, rfl⟩)) | (go_at_call 128; ((with_reducible refine (nodeColor_node y2).mono ?_); rintro e w1 ⟨rfl, rfl⟩)) | (go_at_call 128; ((with_reducible refine (nodeColor_node z2).mono ?_); rintro e w1 ⟨rfl, rfl⟩)) | (go_at_call 128; ((with_reducible refine (CO.out).mono ?_); rintro e w1 ⟨rfl, rfl⟩)) | (go_at_call 135; ((with_reducible refine (rotateLeft_any H2.out).mono ?_); rintro e w3 ⟨rfl, ht, hk⟩)) | (go_at_call 144; refine (HC.out _ ht (K0.out.own hk (by simp [plug_ents, T.ents, Cx.bents, Cx.aents]))).mono ?_; intro e w4 hr; obtain rfl := HR.out e w4 hr))
  go_end0
  exact hr

set_option maxHeartbeats 1600000 in
theorem delete5_pass1_L {R : Ending → World → Prop} (hR : ∀ e w', R e w' → e = .returned (.tuple #[])) (hi : inn.black = true) (h : TreeIn w tb n cv (up.plug (.node p pc (.node x c l k v r) pk pv (.node y true inn sk sv out))))
    (hC : Calls Try.prog 144 #[.pointer (some ⟨tb, 0, none⟩), .pointer (some ⟨x, 0, none⟩)] w R) :
    Calls Try.prog 143 #[.pointer (some ⟨tb, 0, none⟩), .pointer (some ⟨x, 0, none⟩)] w R := by
  have hx : TreeIn w tb n cv ((Cx.left up p pc pk pv (.node y true inn sk sv out)).plug (.node x c l k v r)) := h
  have hs : TreeIn w tb n cv ((Cx.right up p pc (.node x c l k v r) pk pv).plug (.node y true inn sk sv out)) := h
  have x5 : w.cell? ⟨x, 5, none⟩ = some (.pointer (some ⟨p, 0, none⟩)) := node_par hx.node
  have p2 := node_col h.node
  have p3 : w.cell? ⟨p, 3, none⟩ = some (.pointer (some ⟨x, 0, none⟩)) := node_left h.node
  have p4 : w.cell? ⟨p, 4, none⟩ = some (.pointer (some ⟨y, 0, none⟩)) := node_right h.node
  have y2 := node_col hs.node
  have lx := node_plain hx.node
  have lp := node_plain h.node
  have ly := node_plain hs.node
  have sp := h.sepL
  have xm := sp.a1 x (by rw [ids_node]; simp)
  have nxp : ¬ x = p := xm.2.2.1
  have npx : ¬ p = x := fun e => xm.2.2.1 e.symm
  have nxy : ¬ x = y := xm.2.2.2
  have nyx : ¬ y = x := fun e => xm.2.2.2 e.symm
  have npy : ¬ p = y := sp.xy
  have nyp : ¬ y = p := fun e => sp.xy e.symm
  have SB : Calls Try.prog 134 #[.pointer (some ⟨x, 0, none⟩)] w fun e w' => e = .returned (.pointer (some ⟨y, 0, none⟩)) ∧ w = w' := sibling_left h
  have SB := hid SB
  have finn : Fits w (some y) inn := hs.sub.2.1
  have fout : Fits w (some y) out := hs.sub.2.2
  have y3 := node_left hs.node
  have y4 := node_right hs.node
  have CI := hid (nodeColor_c finn hi)
  clear hi
  have HC := hid hC
  have HR := hid hR
  clear h hx hs sp xm finn fout hC hR
  go_enter Try.func143, Try.ntmps143
  go_wp2_with (first | (go_at_call 134; ((with_reducible refine (SB.out).mono ?_); rintro e w1 ⟨rfl, rfl⟩)) | (go_at_call 128; ((with_reducible refine (nodeColor_node p2).mono ?_); rintro e w1 ⟨rfl, rfl⟩)) | (go_at_call 128; ((with_reducible refine (nodeColor_node y2).mono ?_); rintro e w1 ⟨rfl, rfl⟩)) | (go_at_call 128; ((with_reducible refine (CI.out).mono ?_); rintro e w1 ⟨rfl, rfl⟩)) | (go_at_call 144; refine HC.out.mono ?_; intro e w4 hr; obtain rfl := HR.out e w4 hr))
  go_end0
  exact hr

set_option maxHeartbeats 1600000 in
theorem delete5_pass2_L {R : Ending → World → Prop} (hR : ∀ e w', R e w' → e = .returned (.tuple #[])) (hi : inn.black = false) (ho : out.black = false) (h : TreeIn w tb n cv (up.plug (.node p pc (.node x c l k v r) pk pv (.node y true inn sk sv out))))
    (hC : Calls Try.prog 144 #[.pointer (some ⟨tb, 0, none⟩), .pointer (some ⟨x, 0, none⟩)] w R) :
    Calls Try.prog 143 #[.pointer (some ⟨tb, 0, none⟩), .pointer (some ⟨x, 0, none⟩)] w R := by
  have hx : TreeIn w tb n cv ((Cx.left up p pc pk pv (.node y true inn sk sv out)).plug (.node x c l k v r)) := h
  have hs : TreeIn w tb n cv ((Cx.right up p pc (.node x c l k v r) pk pv).plug (.node y true inn sk sv out)) := h
  have x5 : w.cell? ⟨x, 5, none⟩ = some (.pointer (some ⟨p, 0, none⟩)) := node_par hx.node
  have p2 := node_col h.node
  have p3 : w.cell? ⟨p, 3, none⟩ = some (.pointer (some ⟨x, 0, none⟩)) := node_left h.node
  have p4 : w.cell? ⟨p, 4, none⟩ = some (.pointer (some ⟨y, 0, none⟩)) := node_right h.node
  have y2 := node_col hs.node
  have lx := node_plain hx.node
  have lp := node_plain h.node
  have ly := node_plain hs.node
  have sp := h.sepL
  have xm := sp.a1 x (by rw [ids_node]; simp)
  have nxp : ¬ x = p := xm.2.2.1
  have npx : ¬ p = x := fun e => xm.2.2.1 e.symm
  have nxy : ¬ x = y := xm.2.2.2
  have nyx : ¬ y = x := fun e => xm.2.2.2 e.symm
  have npy : ¬ p = y := sp.xy
  have nyp : ¬ y = p := fun e => sp.xy e.symm
  have SB : Calls Try.prog 134 #[.pointer (some ⟨x, 0, none⟩)] w fun e w' => e = .returned (.pointer (some ⟨y, 0, none⟩)) ∧ w = w' := sibling_left h
  have SB := hid SB
  have finn : Fits w (some y) inn := hs.sub.2.1
  have fout : Fits w (some y) out := hs.sub.2.2
  have y3 := node_left hs.node
  have y4 := node_right hs.node
  have CI := hid (nodeColor_c finn hi)
  clear hi
  have CO := hid (nodeColor_c fout ho)
  clear ho
  have HC := hid hC
  have HR := hid hR
  clear h hx hs sp xm finn fout hC hR
  go_enter Try.func143, Try.ntmps143
  go_wp2_with (first | (go_at_call 134; ((with_reducible refine (SB.out).mono ?_); rintro e w1 ⟨rfl, rfl⟩)) | (go_at_call 128; ((with_reducible refine (nodeColor_node p2).mono ?_); rintro e w1 ⟨rfl, rfl⟩)) | (go_at_call 128; ((with_reducible refine (nodeColor_node y2).mono ?_); rintro e w1 ⟨rfl, rfl⟩)) | (go_at_call 128; ((with_reducible refine (CI.out).mono ?_); rintro e w1 ⟨rfl, rfl⟩)) | (go_at_call 128; ((with_reducible refine (CO.out).mono ?_); rintro e w1 ⟨rfl, rfl⟩)) | (go_at_call 144; refine HC.out.mono ?_; intro e w4 hr; obtain rfl := HR.out e w4 hr))
  go_end0
  exact hr

set_option maxHeartbeats 1600000 in
theorem delete4_passP_L {R : Ending → World → Prop} (hR : ∀ e w', R e w' → e = .returned (.tuple #[]))  (h : TreeIn w tb n cv (up.plug (.node p true (.node x c l k v r) pk pv (.node y true inn sk sv out))))
    (hC : Calls Try.prog 143 #[.pointer (some ⟨tb, 0, none⟩), .pointer (some ⟨x, 0, none⟩)] w R) :
    Calls Try.prog 141 #[.pointer (some ⟨tb, 0, none⟩), .pointer (some ⟨x, 0, none⟩)] w R := by
  have hx : TreeIn w tb n cv ((Cx.left up p true pk pv (.node y true inn sk sv out)).plug (.node x c l k v r)) := h
  have hs : TreeIn w tb n cv ((Cx.right up p true (.node x c l k v r) pk pv).plug (.node y true inn sk sv out)) := h
  have x5 : w.cell? ⟨x, 5, none⟩ = some (.pointer (some ⟨p, 0, none⟩)) := node_par hx.node
  have p2 := node_col h.node
  have p3 : w.cell? ⟨p, 3, none⟩ = some (.pointer (some ⟨x, 0, none⟩)) := node_left h.node
  have p4 : w.cell? ⟨p, 4, none⟩ = some (.pointer (some ⟨y, 0, none⟩)) := node_right h.node
  have y2 := node_col hs.node
  have lx := node_plain hx.node
  have lp := node_plain h.node
  have ly := node_plain hs.node
  have sp := h.sepL
  have xm := sp.a1 x (by rw [ids_node]; simp)
  have nxp : ¬ x = p := xm.2.2.1
  have npx : ¬ p = x := fun e => xm.2.2.1 e.symm
  have nxy : ¬ x = y := xm.2.2.2
  have nyx : ¬ y = x := fun e => xm.2.2.2 e.symm
  have npy : ¬ p = y := sp.xy
  have nyp : ¬ y = p := fun e => sp.xy e.symm
  have SB : Calls Try.prog 134 #[.pointer (some ⟨x, 0, none⟩)] w fun e w' => e = .returned (.pointer (some ⟨y, 0, none⟩)) ∧ w = w' := sibling_left h
  have SB := hid SB
  have finn : Fits w (some y) inn := hs.sub.2.1
  have fout : Fits w (some y) out := hs.sub.2.2
  have y3 := node_left hs.node
  have y4 := node_right hs.node
  have HC := hid hC
  have HR := hid hR
  clear h hx hs sp xm finn fout hC hR
  go_enter Try.func141, Try.ntmps141
  go_wp2_with (first | (go_at_call 134; ((with_reducible refine (SB.out).mono ?_); rintro e w1 ⟨rfl, rfl⟩)) | (go_at_call 128; ((with_reducible refine (nodeColor_node p2).mono ?_); rintro e w1 ⟨rfl, rfl⟩)) | (go_at_call 128; ((with_reducible refine (nodeColor_node y2).mono ?_); rintro e w1 ⟨rfl, rfl⟩)) | fail | (go_at_call 143; refine HC.out.mono ?_; intro e w4 hr; obtain rfl := HR.out e w4 hr))
  go_end0
  exact hr

set_option maxHeartbeats 1600000 in
theorem delete4_passA_L {R : Ending → World → Prop} (hR : ∀ e w', R e w' → e = .returned (.tuple #[])) (hi : inn.black = false) (h : TreeIn w tb n cv (up.plug (.node p false (.node x c l k v r) pk pv (.node y true inn sk sv out))))
    (hC : Calls Try.prog 143 #[.pointer (some ⟨tb, 0, none⟩), .pointer (some ⟨x, 0, none⟩)] w R) :
    Calls Try.prog 141 #[.pointer (some ⟨tb, 0, none⟩), .pointer (some ⟨x, 0, none⟩)] w R := by
  have hx : TreeIn w tb n cv ((Cx.left up p false pk pv (.node y true inn sk sv out)).plug (.node x c l k v r)) := h
  have hs : TreeIn w tb n cv ((Cx.right up p false (.node x c l k v r) pk pv).plug (.node y true inn sk sv out)) := h
  have x5 : w.cell? ⟨x, 5, none⟩ = some (.pointer (some ⟨p, 0, none⟩)) := node_par hx.node
  have p2 := node_col h.node
  have p3 : w.cell? ⟨p, 3, none⟩ = some (.pointer (some ⟨x, 0, none⟩)) := node_left h.node
  have p4 : w.cell? ⟨p, 4, none⟩ = some (.pointer (some ⟨y, 0, none⟩)) := node_right h.node
  have y2 := node_col hs.node
  have lx := node_plain hx.node
  have lp := node_plain h.node
  have ly := node_plain hs.node
  have sp := h.sepL
  have xm := sp.a1 x (by rw [ids_node]; simp)
  have nxp : ¬ x = p := xm.2.2.1
  have npx : ¬ p = x := fun e => xm.2.2.1 e.symm
  have nxy : ¬ x = y := xm.2.2.2
  have nyx : ¬ y = x := fun e => xm.2.2.2 e.symm
  have npy : ¬ p = y := sp.xy
  have nyp : ¬ y = p := fun e => sp.xy e.symm
  have SB : Calls Try.prog 134 #[.pointer (some ⟨x, 0, none⟩)] w fun e w' => e = .returned (.pointer (some ⟨y, 0, none⟩)) ∧ w = w' := sibling_left h
  have SB := hid SB
  have finn : Fits w (some y) inn := hs.sub.2.1
  have fout : Fits w (some y) out := hs.sub.2.2
  have y3 := node_left hs.node
  have y4 := node_right hs.node
  have CI := hid (nodeColor_c finn hi)
  clear hi
  have HC := hid hC
  have HR := hid hR
  clear h hx hs sp xm finn fout hC hR
  go_enter Try.func141, Try.ntmps141
  go_wp2_with (first | (go_at_call 134; ((with_reducible refine (SB.out).mono ?_); rintro e w1 ⟨rfl, rfl⟩)) | (go_at_call 128; ((with_reducible refine (nodeColor_node p2).mono ?_); rintro e w1 ⟨rfl, rfl⟩)) | (go_at_call 128; ((with_reducible refine (nodeColor_node y2).mono ?_); rintro e w1 ⟨rfl, rfl⟩)) | (go_at_call 128; ((with_reducible refine (CI.out).mono ?_); rintro e w1 ⟨rfl, rfl⟩)) | (go_at_call 143; refine HC.out.mono ?_; intro e w4 hr; obtain rfl := HR.out e w4 hr))
  go_end0
  exact hr

set_option maxHeartbeats 1600000 in
theorem delete4_passB_L {R : Ending → World → Prop} (hR : ∀ e w', R e w' → e = .returned (.tuple #[])) (hi : inn.black = true) (ho : out.black = false) (h : TreeIn w tb n cv (up.plug (.node p false (.node x c l k v r) pk pv (.node y true inn sk sv out))))
    (hC : Calls Try.prog 143 #[.pointer (some ⟨tb, 0, none⟩), .pointer (some ⟨x, 0, none⟩)] w R) :
    Calls Try.prog 141 #[.pointer (some ⟨tb, 0, none⟩), .pointer (some ⟨x, 0, none⟩)] w R := by
  have hx : TreeIn w tb n cv ((Cx.left up p false pk pv (.node y true inn sk sv out)).plug (.node x c l k v r)) := h
  have hs : TreeIn w tb n cv ((Cx.right up p false (.node x c l k v r) pk pv).plug (.node y true inn sk sv out)) := h
  have x5 : w.cell? ⟨x, 5, none⟩ = some (.pointer (some ⟨p, 0, none⟩)) := node_par hx.node
  have p2 := node_col h.node
  have p3 : w.cell? ⟨p, 3, none⟩ = some (.pointer (some ⟨x, 0, none⟩)) := node_left h.node
  have p4 : w.cell? ⟨p, 4, none⟩ = some (.pointer (some ⟨y, 0, none⟩)) := node_right h.node
  have y2 := node_col hs.node
  have lx := node_plain hx.node
  have lp := node_plain h.node
  have ly := node_plain hs.node
  have sp := h.sepL
  have xm := sp.a1 x (by rw [ids_node]; simp)
  have nxp : ¬ x = p := xm.2.2.1
  have npx : ¬ p = x := fun e => xm.2.2.1 e.symm
  have nxy : ¬ x = y := xm.2.2.2
  have nyx : ¬ y = x := fun e => xm.2.2.2 e.symm
  have npy : ¬ p = y := sp.xy
  have nyp : ¬ y = p := fun e => sp.xy e.symm
  have SB : Calls Try.prog 134 #[.pointer (some ⟨x, 0, none⟩)] w fun e w' => e = .returned (.pointer (some ⟨y, 0, none⟩)) ∧ w = w' := sibling_left h
  have SB := hid SB
  have finn : Fits w (some y) inn := hs.sub.2.1
  have fout : Fits w (some y) out := hs.sub.2.2
  have y3 := node_left hs.node
  have y4 := node_right hs.node
  have CI := hid (nodeColor_c finn hi)
  clear hi
  have CO := hid (nodeColor_c fout ho)
  clear ho
  have HC := hid hC
  have HR := hid hR
  clear h hx hs sp xm finn fout hC hR
  go_enter Try.func141, Try.ntmps141
  go_wp2_with (first | (go_at_call 134; ((with_reducible refine (SB.out).mono ?_); rintro e w1 ⟨rfl, rfl⟩)) | (go_at_call 128; ((with_reducible refine (nodeColor_node p2).mono ?_); rintro e w1 ⟨rfl, rfl⟩)) | (go_at_call 128; ((with_reducible refine (nodeColor_node y2).mono ?_); rintro e w1 ⟨rfl, rfl⟩)) | (go_at_call 128; ((with_reducible refine (CI.out).mono ?_); rintro e w1 ⟨rfl, rfl⟩)) | (go_at_call 128; ((with_reducible refine (CO.out).mono ?_); rintro e w1 ⟨rfl, rfl⟩)) | (go_at_call 143; refine HC.out.mono ?_; intro e w4 hr; obtain rfl := HR.out e w4 hr))
  go_end0
  exact hr

set_option maxHeartbeats 1600000 in
theorem delete3_passP_L {R : Ending → World → Prop} (hR : ∀ e w', R e w' → e = .returned (.tuple #[]))  (h : TreeIn w tb n cv (up.plug (.node p false (.node x c l k v r) pk pv (.node y true inn sk sv out))))
    (hC : Calls Try.prog 141 #[.pointer (some ⟨tb, 0, none⟩), .pointer (some ⟨x, 0, none⟩)] w R) :
    Calls Try.prog 137 #[.pointer (some ⟨tb, 0, none⟩), .pointer (some ⟨x, 0, none⟩)] w R := by
  have hx : TreeIn w tb n cv ((Cx.left up p false pk pv (.node y true inn sk sv out)).plug (.node x c l k v r)) := h
  have hs : TreeIn w tb n cv ((Cx.right up p false (.node x c l k v r) pk pv).plug (.node y true inn sk sv out)) := h
  have x5 : w.cell? ⟨x, 5, none⟩ = some (.pointer (some ⟨p, 0, none⟩)) := node_par hx.node
  have p2 := node_col h.node
  have p3 : w.cell? ⟨p, 3, none⟩ = some (.pointer (some ⟨x, 0, none⟩)) := node_left h.node
  have p4 : w.cell? ⟨p, 4, none⟩ = some (.pointer (some ⟨y, 0, none⟩)) := node_right h.node
  have y2 := node_col hs.node
  have lx := node_plain hx.node
  have lp := node_plain h.node
  have ly := node_plain hs.node
  have sp := h.sepL
  have xm := sp.a1 x (by rw [ids_node]; simp)
  have nxp : ¬ x = p := xm.2.2.1
  have npx : ¬ p = x := fun e => xm.2.2.1 e.symm
  have nxy : ¬ x = y := xm.2.2.2
  have nyx : ¬ y = x := fun e => xm.2.2.2 e.symm
  have npy : ¬ p = y := sp.xy
  have nyp : ¬ y = p := fun e => sp.xy e.symm
  have SB : Calls Try.prog 134 #[.pointer (some ⟨x, 0, none⟩)] w fun e w' => e = .returned (.pointer (some ⟨y, 0, none⟩)) ∧ w = w' := sibling_left h
  have SB := hid SB
  have finn : Fits w (some y) inn := hs.sub.2.1
  have fout : Fits w (some y) out := hs.sub.2.2
  have y3 := node_left hs.node
  have y4 := node_right hs.node
  have HC := hid hC
  have HR := hid hR
  clear h hx hs sp xm finn fout hC hR
  go_enter Try.func137, Try.ntmps137
  go_wp2_with (first | (go_at_call 134; ((with_reducible refine (SB.out).mono ?_); rintro e w1 ⟨rfl, rfl⟩)) | (go_at_call 128; ((with_reducible refine (nodeColor_node p2).mono ?_); rintro e w1 ⟨rfl, rfl⟩)) | (go_at_call 128; ((with_reducible refine (nodeColor_node y2).mono ?_); rintro e w1 ⟨rfl, rfl⟩)) | fail | (go_at_call 141; refine HC.out.mono ?_; intro e w4 hr; obtain rfl := HR.out e w4 hr))
  go_end0
  exact hr

set_option maxHeartbeats 1600000 in
theorem delete3_passA_L {R : Ending → World → Prop} (hR : ∀ e w', R e w' → e = .returned (.tuple #[])) (hi : inn.black = false) (h : TreeIn w tb n cv (up.plug (.node p true (.node x c l k v r) pk pv (.node y true inn sk sv out))))
    (hC : Calls Try.prog 141 #[.pointer (some ⟨tb, 0, none⟩), .pointer (some ⟨x, 0, none⟩)] w R) :
    Calls Try.prog 137 #[.pointer (some ⟨tb, 0, none⟩), .pointer (some ⟨x, 0, none⟩)] w R := by
  have hx : TreeIn w tb n cv ((Cx.left up p true pk pv (.node y true inn sk sv out)).plug (.node x c l k v r)) := h
  have hs : TreeIn w tb n cv ((Cx.right up p true (.node x c l k v r) pk pv).plug (.node y true inn sk sv out)) := h
  have x5 : w.cell? ⟨x, 5, none⟩ = some (.pointer (some ⟨p, 0, none⟩)) := node_par hx.node
  have p2 := node_col h.node
  have p3 : w.cell? ⟨p, 3, none⟩ = some (.pointer (some ⟨x, 0, none⟩)) := node_left h.node
  have p4 : w.cell? ⟨p, 4, none⟩ = some (.pointer (some ⟨y, 0, none⟩)) := node_right h.node
  have y2 := node_col hs.node
  have lx := node_plain hx.node
  have lp := node_plain h.node
  have ly := node_plain hs.node
  have sp := h.sepL
  have xm := sp.a1 x (by rw [ids_node]; simp)
  have nxp : ¬ x = p := xm.2.2.1
  have npx : ¬ p = x := fun e => xm.2.2.1 e.symm
  have nxy : ¬ x = y := xm.2.2.2
  have nyx : ¬ y = x := fun e => xm.2.2.2 e.symm
  have npy : ¬ p = y := sp.xy
  have nyp : ¬ y = p := fun e => sp.xy e.symm
  have SB : Calls Try.prog 134 #[.pointer (some ⟨x, 0, none⟩)] w fun e w' => e = .returned (.pointer (some ⟨y, 0, none⟩)) ∧ w = w' := sibling_left h
  have SB := hid SB
  have finn : Fits w (some y) inn := hs.sub.2.1
  have fout : Fits w (some y) out := hs.sub.2.2
  have y3 := node_left hs.node
  have y4 := node_right hs.node
  have CI := hid (nodeColor_c finn hi)
  clear hi
  have HC := hid hC
  have HR := hid hR
  clear h hx hs sp xm finn fout hC hR
  go_enter Try.func137, Try.ntmps137
  go_wp2_with (first | (go_at_call 134; ((with_reducible refine (SB.out).mono ?_); rintro e w1 ⟨rfl, rfl⟩)) | (go_at_call 128; ((with_reducible refine (nodeColor_node p2).mono ?_); rintro e w1 ⟨rfl, rfl⟩)) | (go_at_call 128; ((with_reducible refine (nodeColor_node y2).mono ?_); rintro e w1 ⟨rfl, rfl⟩)) | (go_at_call 128; ((with_reducible refine (CI.out).mono ?_); rintro e w1 ⟨rfl, rfl⟩)) | (go_at_call 141; refine HC.out.mono ?_; intro e w4 hr; obtain rfl := HR.out e w4 hr))
  go_end0
  exact hr

set_option maxHeartbeats 1600000 in
theorem delete3_passB_L {R : Ending → World → Prop} (hR : ∀ e w', R e w' → e = .returned (.tuple #[])) (hi : inn.black = true) (ho : out.black = false) (h : TreeIn w tb n cv (up.plug (.node p true (.node x c l k v r) pk pv (.node y true inn sk sv out))))
    (hC : Calls Try.prog 141 #[.pointer (some ⟨tb, 0, none⟩), .pointer (some ⟨x, 0, none⟩)] w R) :
    Calls Try.prog 137 #[.pointer (some ⟨tb, 0, none⟩), .pointer (some ⟨x, 0, none⟩)] w R := by
  have hx : TreeIn w tb n cv ((Cx.left up p true pk pv (.node y true inn sk sv out)).plug (.node x c l k v r)) := h
  have hs : TreeIn w tb n cv ((Cx.right up p true (.node x c l k v r) pk pv).plug (.node y true inn sk sv out)) := h
  have x5 : w.cell? ⟨x, 5, none⟩ = some (.pointer (some ⟨p, 0, none⟩)) := node_par hx.node
  have p2 := node_col h.node
  have p3 : w.cell? ⟨p, 3, none⟩ = some (.pointer (some ⟨x, 0, none⟩)) := node_left h.node
  have p4 : w.cell? ⟨p, 4, none⟩ = some (.pointer (some ⟨y, 0, none⟩)) := node_right h.node
  have y2 := node_col hs.node
  have lx := node_plain hx.node
  have lp := node_plain h.node
  have ly := node_plain hs.node
  have sp := h.sepL
  have xm := sp.a1 x (by rw [ids_node]; simp)
  have nxp : ¬ x = p := xm.2.2.1
  have npx : ¬ p = x := fun e => xm.2.2.1 e.symm
  have nxy : ¬ x = y := xm.2.2.2
  have nyx : ¬ y = x := fun e => xm.2.2.2 e.symm
  have npy : ¬ p = y := sp.xy
  have nyp : ¬ y = p := fun e => sp.xy e.symm
  have SB : Calls Try.prog 134 #[.pointer (some ⟨x, 0, none⟩)] w fun e w' => e = .returned (.pointer (some ⟨y, 0, none⟩)) ∧ w = w' := sibling_left h
  have SB := hid SB
  have finn : Fits w (some y) inn := hs.sub.2.1
  have fout : Fits w (some y) out := hs.sub.2.2
  have y3 := node_left hs.node
  have y4 := node_right hs.node
  have CI := hid (nodeColor_c finn hi)
  clear hi
  have CO := hid (nodeColor_c fout ho)
  clear ho
  have HC := hid hC
  have HR := hid hR
  clear h hx hs sp xm finn fout hC hR
  go_enter Try.func137, Try.ntmps137
  go_wp2_with (first | (go_at_call 134; ((with_reducible refine (SB.out).mono ?_); rintro e w1 ⟨rfl, rfl⟩)) | (go_at_call 128; ((with_reducible refine (nodeColor_node p2).mono ?_); rintro e w1 ⟨rfl, rfl⟩)) | (go_at_call 128; ((with_reducible refine (nodeColor_node y2).mono ?_); rintro e w1 ⟨rfl, rfl⟩)) | (go_at_call 128; ((with_reducible refine (CI.out).mono ?_); rintro e w1 ⟨rfl, rfl⟩)) | (go_at_call 128; ((with_reducible refine (CO.out).mono ?_); rintro e w1 ⟨rfl, rfl⟩)) | (go_at_call 141; refine HC.out.mono ?_; intro e w4 hr; obtain rfl := HR.out e w4 hr))
  go_end0
  exact hr

set_option maxHeartbeats 1600000 in
theorem delete5_pass1_R {R : Ending → World → Prop} (hR : ∀ e w', R e w' → e = .returned (.tuple #[])) (hi : inn.black = true) (h : TreeIn w tb n cv (up.plug (.node p pc (.node y true out sk sv inn) pk pv (.node x c l k v r))))
    (hC : Calls Try.prog 144 #[.pointer (some ⟨tb, 0, none⟩), .pointer (some ⟨x, 0, none⟩)] w R) :
    Calls Try.prog 143 #[.pointer (some ⟨tb, 0, none⟩), .pointer (some ⟨x, 0, none⟩)] w R := by
  have hx : TreeIn w tb n cv ((Cx.right up p pc (.node y true out sk sv inn) pk pv).plug (.node x c l k v r)) := h
  have hs : TreeIn w tb n cv ((Cx.left up p pc pk pv (.node x c l k v r)).plug (.node y true out sk sv inn)) := h
  have x5 : w.cell? ⟨x, 5, none⟩ = some (.pointer (some ⟨p, 0, none⟩)) := node_par hx.node
  have p2 := node_col h.node
  have p4 : w.cell? ⟨p, 4, none⟩ = some (.pointer (some ⟨x, 0, none⟩)) := node_right h.node
  have p3 : w.cell? ⟨p, 3, none⟩ = some (.pointer (some ⟨y, 0, none⟩)) := node_left h.node
  have y2 := node_col hs.node
  have lx := node_plain hx.node
  have lp := node_plain h.node
  have ly := node_plain hs.node
  have sp := h.sepR
  have xm := sp.d1 x (by rw [ids_node]; simp)
  have nxp : ¬ x = p := xm.2.2.1
  have npx : ¬ p = x := fun e => xm.2.2.1 e.symm
  have nxy : ¬ x = y := xm.2.2.2
  have nyx : ¬ y = x := fun e => xm.2.2.2 e.symm
  have npy : ¬ p = y := sp.xy
  have nyp : ¬ y = p := fun e => sp.xy e.symm
  have SB : Calls Try.prog 134 #[.pointer (some ⟨x, 0, none⟩)] w fun e w' => e = .returned (.pointer (some ⟨y, 0, none⟩)) ∧ w = w' := sibling_right h
  have SB := hid SB
  have finn : Fits w (some y) inn := hs.sub.2.2
  have fout : Fits w (some y) out := hs.sub.2.1
  have y4 := node_right hs.node
  have y3 := node_left hs.node
  have CI := hid (nodeColor_c finn hi)
  clear hi
  have HC := hid hC
  have HR := hid hR
  clear h hx hs sp xm finn fout hC hR
  go_enter Try.func143, Try.ntmps143
  go_wp2_with (first | (go_at_call 134; ((with_reducible refine (SB.out).mono ?_); rintro e w1 ⟨rfl, rfl⟩)) | (go_at_call 128; ((with_reducible refine (nodeColor_node p2).mono ?_); rintro e w1 ⟨rfl, rfl⟩)) | (go_at_call 128; ((with_reducible refine (nodeColor_node y2).mono ?_); rintro e w1 ⟨rfl, rfl⟩)) | (go_at_call 128; ((with_reducible refine (CI.out).mono ?_); rintro e w1 ⟨rfl, rfl⟩)) | (go_at_call 144; refine HC.out.mono ?_; intro e w4 hr; obtain rfl := HR.out e w4 hr))
  go_end0
  exact hr

set_option maxHeartbeats 1600000 in
theorem delete5_pass2_R {R : Ending → World → Prop} (hR : ∀ e w', R e w' → e = .returned (.tuple #[])) (hi : inn.black = false) (ho : out.black = false) (h : TreeIn w tb n cv (up.plug (.node p pc (.node y true out sk sv inn) pk pv (.node x c l k v r))))
    (hC : Calls Try.prog 144 #[.pointer (some ⟨tb, 0, none⟩), .pointer (some ⟨x, 0, none⟩)] w R) :
    Calls Try.prog 143 #[.pointer (some ⟨tb, 0, none⟩), .pointer (some ⟨x, 0, none⟩)] w R := by
  have hx : TreeIn w tb n cv ((Cx.right up p pc (.node y true out sk sv inn) pk pv).plug (.node x c l k v r)) := h
  have hs : TreeIn w tb n cv ((Cx.left up p pc pk pv (.node x c l k v r)).plug (.node y true out sk sv inn)) := h
  have x5 : w.cell? ⟨x, 5, none⟩ = some (.pointer (some ⟨p, 0, none⟩)) := node_par hx.node
  have p2 := node_col h.node
  have p4 : w.cell? ⟨p, 4, none⟩ = some (.pointer (some ⟨x, 0, none⟩)) := node_right h.node
  have p3 : w.cell? ⟨p, 3, none⟩ = some (.pointer (some ⟨y, 0, none⟩)) := node_left h.node
  have y2 := node_col hs.node
  have lx := node_plain hx.node
  have lp := node_plain h.node
  have ly := node_plain hs.node
  have sp := h.sepR
  have xm := sp.d1 x (by rw [ids_node]; simp)
  have nxp : ¬ x = p := xm.2.2.1
  have npx : ¬ p = x := fun e => xm.2.2.1 e.symm
  have nxy : ¬ x = y := xm.2.2.2
  have nyx : ¬ y = x := fun e => xm.2.2.2 e.symm
  have npy : ¬ p = y := sp.xy
  have nyp : ¬ y = p := fun e => sp.xy e.symm
  have SB : Calls Try.prog 134 #[.pointer (some ⟨x, 0, none⟩)] w fun e w' => e = .returned (.pointer (some ⟨y, 0, none⟩)) ∧ w = w' := sibling_right h
  have SB := hid SB
  have finn : Fits w (some y) inn := hs.sub.2.2
  have fout : Fits w (some y) out := hs.sub.2.1
  have y4 := node_right hs.node
  have y3 := node_left hs.node
  have CI := hid (nodeColor_c finn hi)
  clear hi
  have CO := hid (nodeColor_c fout ho)
  clear ho
  have HC := hid hC
  have HR := hid hR
  clear h hx hs sp xm finn fout hC hR
  go_enter Try.func143, Try.ntmps143
  go_wp2_with (first | (go_at_call 134; ((with_reducible refine (SB.out).mono ?_); rintro e w1 ⟨rfl, rfl⟩)) | (go_at_call 128; ((with_reducible refine (nodeColor_node p2).mono ?_); rintro e w1 ⟨rfl, rfl⟩)) | (go_at_call 128; ((with_reducible refine (nodeColor_node y2).mono ?_); rintro e w1 ⟨rfl, rfl⟩)) | (go_at_call 128; ((with_reducible refine (CI.out).mono ?_); rintro e w1 ⟨rfl, rfl⟩)) | (go_at_call 128; ((with_reducible refine (CO.out).mono ?_); rintro e w1 ⟨rfl, rfl⟩)) | (go_at_call 144; refine HC.out.mono ?_; intro e w4 hr; obtain rfl := HR.out e w4 hr))
  go_end0
  exact hr

set_option maxHeartbeats 1600000 in
theorem delete4_passP_R {R : Ending → World → Prop} (hR : ∀ e w', R e w' → e = .returned (.tuple #[]))  (h : TreeIn w tb n cv (up.plug (.node p true (.node y true out sk sv inn) pk pv (.node x c l k v r))))
    (hC : Calls Try.prog 143 #[.pointer (some ⟨tb, 0, none⟩), .pointer (some ⟨x, 0, none⟩)] w R) :
    Calls Try.prog 141 #[.pointer (some ⟨tb, 0, none⟩), .pointer (some ⟨x, 0, none⟩)] w R := by
  have hx : TreeIn w tb n cv ((Cx.right up p true (.node y true out sk sv inn) pk pv).plug (.node x c l k v r)) := h
  have hs : TreeIn w tb n cv ((Cx.left up p true pk pv (.node x c l k v r)).plug (.node y true out sk sv inn)) := h
  have x5 : w.cell? ⟨x, 5, none⟩ = some (.pointer (some ⟨p, 0, none⟩)) := node_par hx.node
  have p2 := node_col h.node
  have p4 : w.cell? ⟨p, 4, none⟩ = some (.pointer (some ⟨x, 0, none⟩)) := node_right h.node
  have p3 : w.cell? ⟨p, 3, none⟩ = some (.pointer (some ⟨y, 0, none⟩)) := node_left h.node
  have y2 := node_col hs.node
  have lx := node_plain hx.node
  have lp := node_plain h.node
  have ly := node_plain hs.node
  have sp := h.sepR
  have xm := sp.d1 x (by rw [ids_node]; simp)
  have nxp : ¬ x = p := xm.2.2.1
  have npx : ¬ p = x := fun e => xm.2.2.1 e.symm
  have nxy : ¬ x = y := xm.2.2.2
  have nyx : ¬ y = x := fun e => xm.2.2.2 e.symm
  have npy : ¬ p = y := sp.xy
  have nyp : ¬ y = p := fun e => sp.xy e.symm
  have SB : Calls Try.prog 134 #[.pointer (some ⟨x, 0, none⟩)] w fun e w' => e = .returned (.pointer (some ⟨y, 0, none⟩)) ∧ w = w' := sibling_right h
  have SB := hid SB
  have finn : Fits w (some y) inn := hs.sub.2.2
  have fout : Fits w (some y) out := hs.sub.2.1
  have y4 := node_right hs.node
  have y3 := node_left hs.node
  have HC := hid hC
  have HR := hid hR
  clear h hx hs sp xm finn fout hC hR
  go_enter Try.func141, Try.ntmps141
  go_wp2_with (first | (go_at_call 134; ((with_reducible refine (SB.out).mono ?_); rintro e w1 ⟨rfl, rfl⟩)) | (go_at_call 128; ((with_reducible refine (nodeColor_node p2).mono ?_); rintro e w1 ⟨rfl, rfl⟩)) | (go_at_call 128; ((with_reducible refine (nodeColor_node y2).mono ?_); rintro e w1 ⟨rfl, rfl⟩)) | fail | (go_at_call 143; refine HC.out.mono ?_; intro e w4 hr; obtain rfl := HR.out e w4 hr))
  go_end0
  exact hr

set_option maxHeartbeats 1600000 in
theorem delete4_passA_R {R : Ending → World → Prop} (hR : ∀ e w', R e w' → e = .returned (.tuple #[])) (ho : out.black = false) (h : TreeIn w tb n cv (up.plug (.node p false (.node y true out sk sv inn) pk pv (.node x c l k v r))))
    (hC : Calls Try.prog 143 #[.pointer (some ⟨tb, 0, none⟩), .pointer (some ⟨x, 0, none⟩)] w R) :
    Calls Try.prog 141 #[.pointer (some ⟨tb, 0, none⟩), .pointer (some ⟨x, 0, none⟩)] w R := by
  have hx : TreeIn w tb n cv ((Cx.right up p false (.node y true out sk sv inn) pk pv).plug (.node x c l k v r)) := h
  have hs : TreeIn w tb n cv ((Cx.left up p false pk pv (.node x c l k v r)).plug (.node y true out sk sv inn)) := h
  have x5 : w.cell? ⟨x, 5, none⟩ = some (.pointer (some ⟨p, 0, none⟩)) := node_par hx.node
  have p2 := node_col h.node
  have p4 : w.cell? ⟨p, 4, none⟩ = some (.pointer (some ⟨x, 0, none⟩)) := node_right h.node
  have p3 : w.cell? ⟨p, 3, none⟩ = some (.pointer (some ⟨y, 0, none⟩)) := node_left h.node
  have y2 := node_col hs.node
  have lx := node_plain hx.node
  have lp := node_plain h.node
  have ly := node_plain hs.node
  have sp := h.sepR
  have xm := sp.d1 x (by rw [ids_node]; simp)
  have nxp : ¬ x = p := xm.2.2.1
  have npx : ¬ p = x := fun e => xm.2.2.1 e.symm
  have nxy : ¬ x = y := xm.2.2.2
  have nyx : ¬ y = x := fun e => xm.2.2.2 e.symm
  have npy : ¬ p = y := sp.xy
  have nyp : ¬ y = p := fun e => sp.xy e.symm
  have SB : Calls Try.prog 134 #[.pointer (some ⟨x, 0, none⟩)] w fun e w' => e = .returned (.pointer (some ⟨y, 0, none⟩)) ∧ w = w' := sibling_right h
  have SB := hid SB
  have finn : Fits w (some y) inn := hs.sub.2.2
  have fout : Fits w (some y) out := hs.sub.2.1
  have y4 := node_right hs.node
  have y3 := node_left hs.node
  have CO := hid (nodeColor_c fout ho)
  clear ho
  have HC := hid hC
  have HR := hid hR
  clear h hx hs sp xm finn fout hC hR
  go_enter Try.func141, Try.ntmps141
  go_wp2_with (first | (go_at_call 134; ((with_reducible refine (SB.out).mono ?_); rintro e w1 ⟨rfl, rfl⟩)) | (go_at_call 128; ((with_reducible refine (nodeColor_node p2).mono ?_); rintro e w1 ⟨rfl, rfl⟩)) | (go_at_call 128; ((with_reducible refine (nodeColor_node y2).mono ?_); rintro e w1 ⟨rfl, rfl⟩)) | (go_at_call 128; ((with_reducible refine (CO.out).mono ?_); rintro e w1 ⟨rfl, rfl⟩)) | (go_at_call 143; refine HC.out.mono ?_; intro e w4 hr; obtain rfl := HR.out e w4 hr))
  go_end0
  exact hr

set_option maxHeartbeats 1600000 in
theorem delete4_passB_R {R : Ending → World → Prop} (hR : ∀ e w', R e w' → e = .returned (.tuple #[])) (ho : out.black = true) (hi : inn.black = false) (h : TreeIn w tb n cv (up.plug (.node p false (.node y true out sk sv inn) pk pv (.node x c l k v r))))
    (hC : Calls Try.prog 143 #[.pointer (some ⟨tb, 0, none⟩), .pointer (some ⟨x, 0, none⟩)] w R) :
    Calls Try.prog 141 #[.pointer (some ⟨tb, 0, none⟩), .pointer (some ⟨x, 0, none⟩)] w R := by
  have hx : TreeIn w tb n cv ((Cx.right up p false (.node y true out sk sv inn) pk pv).plug (.node x c l k v r)) := h
  have hs : TreeIn w tb n cv ((Cx.left up p false pk pv (.node x c l k v r)).plug (.node y true out sk sv inn)) := h
  have x5 : w.cell? ⟨x, 5, none⟩ = some (.pointer (some ⟨p, 0, none⟩)) := node_par hx.node
  have p2 := node_col h.node
  have p4 : w.cell? ⟨p, 4, none⟩ = some (.pointer (some ⟨x, 0, none⟩)) := node_right h.node
  have p3 : w.cell? ⟨p, 3, none⟩ = some (.pointer (some ⟨y, 0, none⟩)) := node_left h.node
  have y2 := node_col hs.node
  have lx := node_plain hx.node
  have lp := node_plain h.node
  have ly := node_plain hs.node
  have sp := h.sepR
  have xm := sp.d1 x (by rw [ids_node]; simp)
  have nxp : ¬ x = p := xm.2.2.1
  have npx : ¬ p = x := fun e => xm.2.2.1 e.symm
  have nxy : ¬ x = y := xm.2.2.2
  have nyx : ¬ y = x := fun e => xm.2.2.2 e.symm
  have npy : ¬ p = y := sp.xy
  have nyp : ¬ y = p := fun e => sp.xy e.symm
  have SB : Calls Try.prog 134 #[.pointer (some ⟨x, 0, none⟩)] w fun e w' => e = .returned (.pointer (some ⟨y, 0, none⟩)) ∧ w = w' := sibling_right h
  have SB := hid SB
  have finn : Fits w (some y) inn := hs.sub.2.2
  have fout : Fits w (some y) out := hs.sub.2.1
  have y4 := node_right hs.node
  have y3 := node_left hs.node
  have CO := hid (nodeColor_c fout ho)
  clear ho
  have CI := hid (nodeColor_c finn hi)
  clear hi
  have HC := hid hC
  have HR := hid hR
  clear h hx hs sp xm finn fout hC hR
  go_enter Try.func141, Try.ntmps141
  go_wp2_with (first | (go_at_call 134; ((with_reducible refine (SB.out).mono ?_); rintro e w1 ⟨rfl, rfl⟩)) | (go_at_call 128; ((with_reducible refine (nodeColor_node p2).mono ?_); rintro e w1 ⟨rfl, rfl⟩)) | (go_at_call 128; ((with_reducible refine (nodeColor_node y2).mono ?_); rintro e w1 ⟨rfl, rfl⟩)) | (go_at_call 128; ((with_reducible refine (CO.out).mono ?_); rintro e w1 ⟨rfl, rfl⟩)) | (go_at_call 128; ((with_reducible refine (CI.out).mono ?_); rintro e w1 ⟨rfl, rfl⟩)) | (go_at_call 143; refine HC.out.mono ?_; intro e w4 hr; obtain rfl := HR.out e w4 hr))
  go_end0
  exact hr

set_option maxHeartbeats 1600000 in
theorem delete3_passP_R {R : Ending → World → Prop} (hR : ∀ e w', R e w' → e = .returned (.tuple #[]))  (h : TreeIn w tb n cv (up.plug (.node p false (.node y true out sk sv inn) pk pv (.node x c l k v r))))
    (hC : Calls Try.prog 141 #[.pointer (some ⟨tb, 0, none⟩), .pointer (some ⟨x, 0, none⟩)] w R) :
    Calls Try.prog 137 #[.pointer (some ⟨tb, 0, none⟩), .pointer (some ⟨x, 0, none⟩)] w R := by
  have hx : TreeIn w tb n cv ((Cx.right up p false (.node y true out sk sv inn) pk pv).plug (.node x c l k v r)) := h
  have hs : TreeIn w tb n cv ((Cx.left up p false pk pv (.node x c l k v r)).plug (.node y true out sk sv inn)) := h
  have x5 : w.cell? ⟨x, 5, none⟩ = some (.pointer (some ⟨p, 0, none⟩)) := node_par hx.node
  have p2 := node_col h.node
  have p4 : w.cell? ⟨p, 4, none⟩ = some (.pointer (some ⟨x, 0, none⟩)) := node_right h.node
  have p3 : w.cell? ⟨p, 3, none⟩ = some (.pointer (some ⟨y, 0, none⟩)) := node_left h.node
  have y2 := node_col hs.node
  have lx := node_plain hx.node
  have lp := node_plain h.node
  have ly := node_plain hs.node
  have sp := h.sepR
  have xm := sp.d1 x (by rw [ids_node]; simp)
  have nxp : ¬ x = p := xm.2.2.1
  have npx : ¬ p = x := fun e => xm.2.2.1 e.symm
  have nxy : ¬ x = y := xm.2.2.2
  have nyx : ¬ y = x := fun e => xm.2.2.2 e.symm
  have npy : ¬ p = y := sp.xy
  have nyp : ¬ y = p := fun e => sp.xy e.symm
  have SB : Calls Try.prog 134 #[.pointer (some ⟨x, 0, none⟩)] w fun e w' => e = .returned (.pointer (some ⟨y, 0, none⟩)) ∧ w = w' := sibling_right h
  have SB := hid SB
  have finn : Fits w (some y) inn := hs.sub.2.2
  have fout : Fits w (some y) out := hs.sub.2.1
  have y4 := node_right hs.node
  have y3 := node_left hs.node
  have HC := hid hC
  have HR := hid hR
  clear h hx hs sp xm finn fout hC hR
  go_enter Try.func137, Try.ntmps137
  go_wp2_with (first | (go_at_call 134; ((with_reducible refine (SB.out).mono ?_); rintro e w1 ⟨rfl, rfl⟩)) | (go_at_call 128; ((with_reducible refine (nodeColor_node p2).mono ?_); rintro e w1 ⟨rfl, rfl⟩)) | (go_at_call 128; ((with_reducible refine (nodeColor_node y2).mono ?_); rintro e w1 ⟨rfl, rfl⟩)) | fail | (go_at_call 141; refine HC.out.mono ?_; intro e w4 hr; obtain rfl := HR.out e w4 hr))
  go_end0
  exact hr

set_option maxHeartbeats 1600000 in
theorem delete3_passA_R {R : Ending → World → Prop} (hR : ∀ e w', R e w' → e = .returned (.tuple #[])) (ho : out.black = false) (h : TreeIn w tb n cv (up.plug (.node p true (.node y true out sk sv inn) pk pv (.node x c l k v r))))
    (hC : Calls Try.prog 141 #[.pointer (some ⟨tb, 0, none⟩), .pointer (some ⟨x, 0, none⟩)] w R) :
    Calls Try.prog 137 #[.pointer (some ⟨tb, 0, none⟩), .pointer (some ⟨x, 0, none⟩)] w R := by
  have hx : TreeIn w tb n cv ((Cx.right up p true (.node y true out sk sv inn) pk pv).plug (.node x c l k v r)) := h
  have hs : TreeIn w tb n cv ((Cx.left up p true pk pv (.node x c l k v r)).plug (.node y true out sk sv inn)) := h
  have x5 : w.cell? ⟨x, 5, none⟩ = some (.pointer (some ⟨p, 0, none⟩)) := node_par hx.node
  have p2 := node_col h.node
  have p4 : w.cell? ⟨p, 4, none⟩ = some (.pointer (some ⟨x, 0, none⟩)) := node_right h.node
  have p3 : w.cell? ⟨p, 3, none⟩ = some (.pointer (some ⟨y, 0, none⟩)) := node_left h.node
  have y2 := node_col hs.node
  have lx := node_plain hx.node
  have lp := node_plain h.node
  have ly := node_plain hs.node
  have sp := h.sepR
  have xm := sp.d1 x (by rw [ids_node]; simp)
  have nxp : ¬ x = p := xm.2.2.1
  have npx : ¬ p = x := fun e => xm.2.2.1 e.symm
  have nxy : ¬ x = y := xm.2.2.2
  have nyx : ¬ y = x := fun e => xm.2.2.2 e.symm
  have npy : ¬ p = y := sp.xy
  have nyp : ¬ y = p := fun e => sp.xy e.symm
  have SB : Calls Try.prog 134 #[.pointer (some ⟨x, 0, none⟩)] w fun e w' => e = .returned (.pointer (some ⟨y, 0, none⟩)) ∧ w = w' := sibling_right h
  have SB := hid SB
  have finn : Fits w (some y) inn := hs.sub.2.2
  have fout : Fits w (some y) out := hs.sub.2.1
  have y4 := node_right hs.node
  have y3 := node_left hs.node
  have CO := hid (nodeColor_c fout ho)
  clear ho
  have HC := hid hC
  have HR := hid hR
  clear h hx hs sp xm finn fout hC hR
  go_enter Try.func137, Try.ntmps137
  go_wp2_with (first | (go_at_call 134; ((with_reducible refine (SB.out).mono ?_); rintro e w1 ⟨rfl, rfl⟩)) | (go_at_call 128; ((with_reducible refine (nodeColor_node p2).mono ?_); rintro e w1 ⟨rfl, rfl⟩)) | (go_at_call 128; ((with_reducible refine (nodeColor_node y2).mono ?_); rintro e w1 ⟨rfl, rfl⟩)) | (go_at_call 128; ((with_reducible refine (CO.out).mono ?_); rintro e w1 ⟨rfl, rfl⟩)) | (go_at_call 141; refine HC.out.mono ?_; intro e w4 hr; obtain rfl := HR.out e w4 hr))
  go_end0
  exact hr

set_option maxHeartbeats 1600000 in
theorem delete3_passB_R {R : Ending → World → Prop} (hR : ∀ e w', R e w' → e = .returned (.tuple #[])) (ho : out.black = true) (hi : inn.black = false) (h : TreeIn w tb n cv (up.plug (.node p true (.node y true out sk sv inn) pk pv (.node x c l k v r))))
    (hC : Calls Try.prog 141 #[.pointer (some ⟨tb, 0, none⟩), .pointer (some ⟨x, 0, none⟩)] w R) :
    Calls Try.prog 137 #[.pointer (some ⟨tb, 0, none⟩), .pointer (some ⟨x, 0, none⟩)] w R := by
  have hx : TreeIn w tb n cv ((Cx.right up p true (.node y true out sk sv inn) pk pv).plug (.node x c l k v r)) := h
  have hs : TreeIn w tb n cv ((Cx.left up p true pk pv (.node x c l k v r)).plug (.node y true out sk sv inn)) := h
  have x5 : w.cell? ⟨x, 5, none⟩ = some (.pointer (some ⟨p, 0, none⟩)) := node_par hx.node
  have p2 := node_col h.node
  have p4 : w.cell? ⟨p, 4, none⟩ = some (.pointer (some ⟨x, 0, none⟩)) := node_right h.node
  have p3 : w.cell? ⟨p, 3, none⟩ = some (.pointer (some ⟨y, 0, none⟩)) := node_left h.node
  have y2 := node_col hs.node
  have lx := node_plain hx.node
  have lp := node_plain h.node
  have ly := node_plain hs.node
  have sp := h.sepR
  have xm := sp.d1 x (by rw [ids_node]; simp)
  have nxp : ¬ x = p := xm.2.2.1
  have npx : ¬ p = x := fun e => xm.2.2.1 e.symm
  have nxy : ¬ x = y := xm.2.2.2
  have nyx : ¬ y = x := fun e => xm.2.2.2 e.symm
  have npy : ¬ p = y := sp.xy
  have nyp : ¬ y = p := fun e => sp.xy e.symm
  have SB : Calls Try.prog 134 #[.pointer (some ⟨x, 0, none⟩)] w fun e w' => e = .returned (.pointer (some ⟨y, 0, none⟩)) ∧ w = w' := sibling_right h
  have SB := hid SB
  have finn : Fits w (some y) inn := hs.sub.2.2
  have fout : Fits w (some y) out := hs.sub.2.1
  have y4 := node_right hs.node
  have y3 := node_left hs.node
  have CO := hid (nodeColor_c fout ho)
  clear ho
  have CI := hid (nodeColor_c finn hi)
  clear hi
  have HC := hid hC
  have HR := hid hR
  clear h hx hs sp xm finn fout hC hR
  go_enter Try.func137, Try.ntmps137
  go_wp2_with (first | (go_at_call 134; ((with_reducible refine (SB.out).mono ?_); rintro e w1 ⟨rfl, rfl⟩)) | (go_at_call 128; ((with_reducible refine (nodeColor_node p2).mono ?_); rintro e w1 ⟨rfl, rfl⟩)) | (go_at_call 128; ((with_reducible refine (nodeColor_node y2).mono ?_); rintro e w1 ⟨rfl, rfl⟩)) | (go_at_call 128; ((with_reducible refine (CO.out).mono ?_); rintro e w1 ⟨rfl, rfl⟩)) | (go_at_call 128; ((with_reducible refine (CI.out).mono ?_); rintro e w1 ⟨rfl, rfl⟩)) | (go_at_call 141; refine HC.out.mono ?_; intro e w4 hr; obtain rfl := HR.out e w4 hr))
  go_end0
  exact hr

set_option maxHeartbeats 1600000 in
theorem delete4_here_L (hi : inn.black = true) (ho : out.black = true) (h : TreeIn w tb n cv (up.plug (.node p false (.node x c l k v r) pk pv (.node y true inn sk sv out)))) :
    Calls Try.prog 141 #[.pointer (some ⟨tb, 0, none⟩), .pointer (some ⟨x, 0, none⟩)] w fun e w' => e = .returned (.tuple #[]) ∧ TreeIn w' tb n cv (up.plug (.node p true (.node x c l k v r) pk pv (.node y false inn sk sv out))) ∧ Keep (Own tb (up.plug (.node p false (.node x c l k v r) pk pv (.node y true inn sk sv out)))) w w' := by
  have hx : TreeIn w tb n cv ((Cx.left up p false pk pv (.node y true inn sk sv out)).plug (.node x c l k v r)) := h
  have hs : TreeIn w tb n cv ((Cx.right up p false (.node x c l k v r) pk pv).plug (.node y true inn sk sv out)) := h
  have x5 : w.cell? ⟨x, 5, none⟩ = some (.pointer (some ⟨p, 0, none⟩)) := node_par hx.node
  have p2 := node_col h.node
  have p3 : w.cell? ⟨p, 3, none⟩ = some (.pointer (some ⟨x, 0, none⟩)) := node_left h.node
  have p4 : w.cell? ⟨p, 4, none⟩ = some (.pointer (some ⟨y, 0, none⟩)) := node_right h.node
  have y2 := node_col hs.node
  have lx := node_plain hx.node
  have lp := node_plain h.node
  have ly := node_plain hs.node
  have sp := h.sepL
  have xm := sp.a1 x (by rw [ids_node]; simp)
  have nxp : ¬ x = p := xm.2.2.1
  have npx : ¬ p = x := fun e => xm.2.2.1 e.symm
  have nxy : ¬ x = y := xm.2.2.2
  have nyx : ¬ y = x := fun e => xm.2.2.2 e.symm
  have npy : ¬ p = y := sp.xy
  have nyp : ¬ y = p := fun e => sp.xy e.symm
  have SB : Calls Try.prog 134 #[.pointer (some ⟨x, 0, none⟩)] w fun e w' => e = .returned (.pointer (some ⟨y, 0, none⟩)) ∧ w = w' := sibling_left h
  have SB := hid SB
  have finn : Fits w (some y) inn := hs.sub.2.1
  have fout : Fits w (some y) out := hs.sub.2.2
  have y3 := node_left hs.node
  have y4 := node_right hs.node
  have CI := hid (nodeColor_c finn hi)
  clear hi
  have CO := hid (nodeColor_c fout ho)
  clear ho
  have h1 : TreeIn (w.setCell ⟨y, 2, none⟩ (.bool false)) tb n cv (up.plug (.node p false (.node x c l k v r) pk pv (.node y false inn sk sv out))) := hs.setCol false
  have H2 := hid (show TreeIn ((w.setCell ⟨y, 2, none⟩ (.bool false)).setCell ⟨p, 2, none⟩ (.bool true)) tb n cv (up.plug (.node p true (.node x c l k v r) pk pv (.node y false inn sk sv out))) from TreeIn.setCol (cx := up) (l := (.node x c l k v r)) (r := (.node y false inn sk sv out)) h1 true)
  have K0 := hid (((Keep.refl (Own tb (up.plug (.node p false (.node x c l k v r) pk pv (.node y true inn sk sv out)))) w).setCell ⟨y, 2, none⟩ (fun _ => own_plug (cx := (Cx.right up p false (.node x c l k v r) pk pv))) (.bool false)).setCell ⟨p, 2, none⟩ (fun _ => own_plug) (.bool true))
  clear h hx hs sp xm finn fout h1
  go_enter Try.func141, Try.ntmps141
  go_wp2_with (first | (go_at_call 134; ((with_reducible refine (SB.out).mono ?_); rintro e w1 ⟨rfl, rfl⟩)) | (go_at_call 128; ((with_reducible refine (nodeColor_node p2).mono ?_); rintro e w1 ⟨rfl, rfl⟩)) | (go_at_call 128; ((with_reducible refine (nodeColor_node y2).mono ?_); rintro e w1 ⟨rfl, rfl⟩)) | (go_at_call 128; ((with_reducible refine (CI.out).mono ?_); rintro e w1 ⟨rfl, rfl⟩)) | (go_at_call 128; ((with_reducible refine (CO.out).mono ?_); rintro e w1 ⟨rfl, rfl⟩)))
  go_end0
  exact ⟨rfl, H2.out, K0.out⟩

set_option maxHeartbeats 1600000 in
theorem delete3_up_L {R : Ending → World → Prop} (hR : ∀ e w', R e w' → e = .returned (.tuple #[])) (hi : inn.black = true) (ho : out.black = true) (h : TreeIn w tb n cv (up.plug (.node p true (.node x c l k v r) pk pv (.node y true inn sk sv out))))
    (hC : ∀ w1, TreeIn w1 tb n cv (up.plug (.node p true (.node x c l k v r) pk pv (.node y false inn sk sv out))) → Keep (Own tb (up.plug (.node p true (.node x c l k v r) pk pv (.node y true inn sk sv out)))) w w1 → Calls Try.prog 129 #[.pointer (some ⟨tb, 0, none⟩), .pointer (some ⟨p, 0, none⟩)] w1 R) :
    Calls Try.prog 137 #[.pointer (some ⟨tb, 0, none⟩), .pointer (some ⟨x, 0, none⟩)] w R := by
  have hx : TreeIn w tb n cv ((Cx.left up p true pk pv (.node y true inn sk sv out)).plug (.node x c l k v r)) := h
  have hs : TreeIn w tb n cv ((Cx.right up p true (.node x c l k v r) pk pv).plug (.node y true inn sk sv out)) := h
  have x5 : w.cell? ⟨x, 5, none⟩ = some (.pointer (some ⟨p, 0, none⟩)) := node_par hx.node
  have p2 := node_col h.node
  have p3 : w.cell? ⟨p, 3, none⟩ = some (.pointer (some ⟨x, 0, none⟩)) := node_left h.node
  have p4 : w.cell? ⟨p, 4, none⟩ = some (.pointer (some ⟨y, 0, none⟩)) := node_right h.node
  have y2 := node_col hs.node
  have lx := node_plain hx.node
  have lp := node_plain h.node
  have ly := node_plain hs.node
  have sp := h.sepL
  have xm := sp.a1 x (by rw [ids_node]; simp)
  have nxp : ¬ x = p := xm.2.2.1
  have npx : ¬ p = x := fun e => xm.2.2.1 e.symm
  have nxy : ¬ x = y := xm.2.2.2
  have nyx : ¬ y = x := fun e => xm.2.2.2 e.symm
  have npy : ¬ p = y := sp.xy
  have nyp : ¬ y = p := fun e => sp.xy e.symm
  have SB : Calls Try.prog 134 #[.pointer (some ⟨x, 0, none⟩)] w fun e w' => e = .returned (.pointer (some ⟨y, 0, none⟩)) ∧ w = w' := sibling_left h
  have SB := hid SB
  have finn : Fits w (some y) inn := hs.sub.2.1
  have fout : Fits w (some y) out := hs.sub.2.2
  have y3 := node_left hs.node
  have y4 := node_right hs.node
  have CI := hid (nodeColor_c finn hi)
  clear hi
  have CO := hid (nodeColor_c fout ho)
  clear ho
  have H1 := hid (show TreeIn (w.setCell ⟨y, 2, none⟩ (.bool false)) tb n cv (up.plug (.node p true (.node x c l k v r) pk pv (.node y false inn sk sv out))) from hs.setCol false)
  have K0 := hid ((Keep.refl (Own tb (up.plug (.node p true (.node x c l k v r) pk pv (.node y true inn sk sv out)))) w).setCell ⟨y, 2, none⟩ (fun _ => own_plug (cx := (Cx.right up p true (.node x c l k v r) pk pv))) (.bool false))
  have HC := hid hC
  have HR := hid hR
  clear h hx hs sp xm finn fout hC hR
  go_enter Try.func137, Try.ntmps137
  go_wp2_with (first | (go_at_call 134; ((with_reducible refine (SB.out).mono ?_); rintro e w1 ⟨rfl, rfl⟩)) | (go_at_call 128; ((with_reducible refine (nodeColor_node p2).mono ?_); rintro e w1 ⟨rfl, rfl⟩)) | (go_at_call 128; ((with_reducible refine (nodeColor_node y2).mono ?_); rintro e w1 ⟨rfl, rfl⟩)) | (go_at_call 128; ((with_reducible refine (CI.out).mono ?_); rintro e w1 ⟨rfl, rfl⟩)) | (go_at_call 128; ((with_reducible refine (CO.out).mono ?_); rintro e w1 ⟨rfl, rfl⟩)) | (go_at_call 129; refine (HC.out _ H1.out K0.out).mono ?_; intro e w4 hr; obtain rfl := HR.out e w4 hr))
  go_end0
  exact hr

set_option maxHeartbeats 1600000 in
theorem delete2_pass_L {R : Ending → World → Prop} (hR : ∀ e w', R e w' → e = .returned (.tuple #[]))  (h : TreeIn w tb n cv (up.plug (.node p pc (.node x c l k v r) pk pv (.node y true inn sk sv out))))
    (hC : Calls Try.prog 137 #[.pointer (some ⟨tb, 0, none⟩), .pointer (some ⟨x, 0, none⟩)] w R) :
    Calls Try.prog 132 #[.pointer (some ⟨tb, 0, none⟩), .pointer (some ⟨x, 0, none⟩)] w R := by
  have hx : TreeIn w tb n cv ((Cx.left up p pc pk pv (.node y true inn sk sv out)).plug (.node x c l k v r)) := h
  have hs : TreeIn w tb n cv ((Cx.right up p pc (.node x c l k v r) pk pv).plug (.node y true inn sk sv out)) := h
  have x5 : w.cell? ⟨x, 5, none⟩ = some (.pointer (some ⟨p, 0, none⟩)) := node_par hx.node
  have p2 := node_col h.node
  have p3 : w.cell? ⟨p, 3, none⟩ = some (.pointer (some ⟨x, 0, none⟩)) := node_left h.node
  have p4 : w.cell? ⟨p, 4, none⟩ = some (.pointer (some ⟨y, 0, none⟩)) := node_right h.node
  have y2 := node_col hs.node
  have lx := node_plain hx.node
  have lp := node_plain h.node
  have ly := node_plain hs.node
  have sp := h.sepL
  have xm := sp.a1 x (by rw [ids_node]; simp)
  have nxp : ¬ x = p := xm.2.2.1
  have npx : ¬ p = x := fun e => xm.2.2.1 e.symm
  have nxy : ¬ x = y := xm.2.2.2
  have nyx : ¬ y = x := fun e => xm.2.2.2 e.symm
  have npy : ¬ p = y := sp.xy
  have nyp : ¬ y = p := fun e => sp.xy e.symm
  have SB : Calls Try.prog 134 #[.pointer (some ⟨x, 0, none⟩)] w fun e w' => e = .returned (.pointer (some ⟨y, 0, none⟩)) ∧ w = w' := sibling_left h
  have SB := hid SB
  have finn : Fits w (some y) inn := hs.sub.2.1
  have fout : Fits w (some y) out := hs.sub.2.2
  have y3 := node_left hs.node
  have y4 := node_right hs.node
  have HC := hid hC
  have HR := hid hR
  clear h hx hs sp xm finn fout hC hR
  go_enter Try.func132, Try.ntmps132
  go_wp2_with (first | (go_at_call 134; ((with_reducible refine (SB.out).mono ?_); rintro e w1 ⟨rfl, rfl⟩)) | (go_at_call 128; ((with_reducible refine (nodeColor_node p2).mono ?_); rintro e w1 ⟨rfl, rfl⟩)) | (go_at_call 128; ((with_reducible refine (nodeColor_node y2).mono ?_); rintro e w1 ⟨rfl, rfl⟩)) | fail | (go_at_call 137; refine HC.out.mono ?_; intro e w4 hr; obtain rfl := HR.out e w4 hr))
  go_end0
  exact hr

set_option maxHeartbeats 1600000 in
theorem delete2_turn_L {R : Ending → World → Prop} (hR : ∀ e w', R e w' → e = .returned (.tuple #[])) (h : TreeIn w tb n cv (up.plug (.node p pc (.node x c l k v r) pk pv (.node y false inn sk sv out))))
    (hC : ∀ w3, TreeIn w3 tb n cv (up.plug (.node y true (.node p false (.node x c l k v r) pk pv inn) sk sv out)) → Keep (Own tb (up.plug (.node p pc (.node x c l k v r) pk pv (.node y false inn sk sv out)))) w w3 → Calls Try.prog 137 #[.pointer (some ⟨tb, 0, none⟩), .pointer (some ⟨x, 0, none⟩)] w3 R) :
    Calls Try.prog 132 #[.pointer (some ⟨tb, 0, none⟩), .pointer (some ⟨x, 0, none⟩)] w R := by
  have hx : TreeIn w tb n cv ((Cx.left up p pc pk pv (.node y false inn sk sv out)).plug (.node x c l k v r)) := h
  have hs : TreeIn w tb n cv ((Cx.right up p pc (.node x c l k v r) pk pv).plug (.node y false inn sk sv out)) := h
  have x5 : w.cell? ⟨x, 5, none⟩ = some (.pointer (some ⟨p, 0, none⟩)) := node_par hx.node
  have p2 := node_col h.node
  have p3 : w.cell? ⟨p, 3, none⟩ = some (.pointer (some ⟨x, 0, none⟩)) := node_left h.node
  have p4 : w.cell? ⟨p, 4, none⟩ = some (.pointer (some ⟨y, 0, none⟩)) := node_right h.node
  have y2 := node_col hs.node
  have lx := node_plain hx.node
  have lp := node_plain h.node
  have ly := node_plain hs.node
  have sp := h.sepL
  have xm := sp.a1 x (by rw [ids_node]; simp)
  have nxp : ¬ x = p := xm.2.2.1
  have npx : ¬ p = x := fun e => xm.2.2.1 e.symm
  have nxy : ¬ x = y := xm.2.2.2
  have nyx : ¬ y = x := fun e => xm.2.2.2 e.symm
  have npy : ¬ p = y := sp.xy
  have nyp : ¬ y = p := fun e => sp.xy e.symm
  have SB : Calls Try.prog 134 #[.pointer (some ⟨x, 0, none⟩)] w fun e w' => e = .returned (.pointer (some ⟨y, 0, none⟩)) ∧ w = w' := sibling_left h
  have SB := hid SB
  have finn : Fits w (some y) inn := hs.sub.2.1
  have fout : Fits w (some y) out := hs.sub.2.2
  have h1 : TreeIn (w.setCell ⟨p, 2, none⟩ (.bool false)) tb n cv (up.plug (.node p false (.node x c l k v r) pk pv (.node y false inn sk sv out))) := h.setCol false
  have H2 := hid (show TreeIn ((w.setCell ⟨p, 2, none⟩ (.bool false)).setCell ⟨y, 2, none⟩ (.bool true)) tb n cv (up.plug (.node p false (.node x c l k v r) pk pv (.node y true inn sk sv out))) from TreeIn.setCol (cx := (Cx.right up p false (.node x c l k v r) pk pv)) h1 true)
  have K0 := hid (((Keep.refl (Own tb (up.plug (.node p pc (.node x c l k v r) pk pv (.node y false inn sk sv out)))) w).setCell ⟨p, 2, none⟩ (fun _ => own_plug) (.bool false)).setCell ⟨y, 2, none⟩ (fun _ => own_plug (cx := (Cx.right up p pc (.node x c l k v r) pk pv))) (.bool true))
  have HC := hid hC
  have HR := hid hR
  clear h hx hs sp xm finn fout hC hR h1
  go_enter Try.func132, Try.ntmps132
  go_wp2_with (first | (go_at_call 134; ((with_reducible refine (SB.out).mono ?_); rintro e w1 ⟨rfl, rfl⟩)) | (go_at_call 128; ((with_reducible refine (nodeColor_node y2).mono ?_); rintro e w1 ⟨rfl, rfl⟩)) | (go_at_call 135; ((with_reducible refine (rotateLeft_any H2.out).mono ?_); rintro e w3 ⟨rfl, ht, hk⟩)) | (go_at_call 137; refine (HC.out _ ht (K0.out.own hk (by simp [plug_ents, T.ents]))).mono ?_; intro e w4 hr; obtain rfl := HR.out e w4 hr))
  go_end0
  exact hr

set_option maxHeartbeats 1600000 in
theorem delete4_here_R (hi : inn.black = true) (ho : out.black = true) (h : TreeIn w tb n cv (up.plug (.node p false (.node y true out sk sv inn) pk pv (.node x c l k v r)))) :
    Calls Try.prog 141 #[.pointer (some ⟨tb, 0, none⟩), .pointer (some ⟨x, 0, none⟩)] w fun e w' => e = .returned (.tuple #[]) ∧ TreeIn w' tb n cv (up.plug (.node p true (.node y false out sk sv inn) pk pv (.node x c l k v r))) ∧ Keep (Own tb (up.plug (.node p false (.node y true out sk sv inn) pk pv (.node x c l k v r)))) w w' := by
  have hx : TreeIn w tb n cv ((Cx.right up p false (.node y true out sk sv inn) pk pv).plug (.node x c l k v r)) := h
  have hs : TreeIn w tb n cv ((Cx.left up p false pk pv (.node x c l k v r)).plug (.node y true out sk sv inn)) := h
  have x5 : w.cell? ⟨x, 5, none⟩ = some (.pointer (some ⟨p, 0, none⟩)) := node_par hx.node
  have p2 := node_col h.node
  have p4 : w.cell? ⟨p, 4, none⟩ = some (.pointer (some ⟨x, 0, none⟩)) := node_right h.node
  have p3 : w.cell? ⟨p, 3, none⟩ = some (.pointer (some ⟨y, 0, none⟩)) := node_left h.node
  have y2 := node_col hs.node
  have lx := node_plain hx.node
  have lp := node_plain h.node
  have ly := node_plain hs.node
  have sp := h.sepR
  have xm := sp.d1 x (by rw [ids_node]; simp)
  have nxp : ¬ x = p := xm.2.2.1
  have npx : ¬ p = x := fun e => xm.2.2.1 e.symm
  have nxy : ¬ x = y := xm.2.2.2
  have nyx : ¬ y = x := fun e => xm.2.2.2 e.symm
  have npy : ¬ p = y := sp.xy
  have nyp : ¬ y = p := fun e => sp.xy e.symm
  have SB : Calls Try.prog 134 #[.pointer (some ⟨x, 0, none⟩)] w fun e w' => e = .returned (.pointer (some ⟨y, 0, none⟩)) ∧ w = w' := sibling_right h
  have SB := hid SB
  have finn : Fits w (some y) inn := hs.sub.2.2
  have fout : Fits w (some y) out := hs.sub.2.1
  have y4 := node_right hs.node
  have y3 := node_left hs.node
  have CI := hid (nodeColor_c finn hi)
  clear hi
  have CO := hid (nodeColor_c fout ho)
  clear ho
  have h1 : TreeIn (w.setCell ⟨y, 2, none⟩ (.bool false)) tb n cv (up.plug (.node p false (.node y false out sk sv inn) pk pv (.node x c l k v r))) := hs.setCol false
  have H2 := hid (show TreeIn ((w.setCell ⟨y, 2, none⟩ (.bool false)).setCell ⟨p, 2, none⟩ (.bool true)) tb n cv (up.plug (.node p true (.node y false out sk sv inn) pk pv (.node x c l k v r))) from TreeIn.setCol (cx := up) (l := (.node y false out sk sv inn)) (r := (.node x c l k v r)) h1 true)
  have K0 := hid (((Keep.refl (Own tb (up.plug (.node p false (.node y true out sk sv inn) pk pv (.node x c l k v r)))) w).setCell ⟨y, 2, none⟩ (fun _ => own_plug (cx := (Cx.left up p false pk pv (.node x c l k v r)))) (.bool false)).setCell ⟨p, 2, none⟩ (fun _ => own_plug) (.bool true))
  clear h hx hs sp xm finn fout h1
  go_enter Try.func141, Try.ntmps141
  go_wp2_with (first | (go_at_call 134; ((with_reducible refine (SB.out).mono ?_); rintro e w1 ⟨rfl, rfl⟩)) | (go_at_call 128; ((with_reducible refine (nodeColor_node p2).mono ?_); rintro e w1 ⟨rfl, rfl⟩)) | (go_at_call 128; ((with_reducible refine (nodeColor_node y2).mono ?_); rintro e w1 ⟨rfl, rfl⟩)) | (go_at_call 128; ((with_reducible refine (CI.out).mono ?_); rintro e w1 ⟨rfl, rfl⟩)) | (go_at_call 128; ((with_reducible refine (CO.out).mono ?_); rintro e w1 ⟨rfl, rfl⟩)))
  go_end0
  exact ⟨rfl, H2.out, K0.out⟩

set_option maxHeartbeats 1600000 in
theorem delete3_up_R {R : Ending → World → Prop} (hR : ∀ e w', R e w' → e = .returned (.tuple #[])) (hi : inn.black = true) (ho : out.black = true) (h : TreeIn w tb n cv (up.plug (.node p true (.node y true out sk sv inn) pk pv (.node x c l k v r))))
    (hC : ∀ w1, TreeIn w1 tb n cv (up.plug (.node p true (.node y false out sk sv inn) pk pv (.node x c l k v r))) → Keep (Own tb (up.plug (.node p true (.node y true out sk sv inn) pk pv (.node x c l k v r)))) w w1 → Calls Try.prog 129 #[.pointer (some ⟨tb, 0, none⟩), .pointer (some ⟨p, 0, none⟩)] w1 R) :
    Calls Try.prog 137 #[.pointer (some ⟨tb, 0, none⟩), .pointer (some ⟨x, 0, none⟩)] w R := by
  have hx : TreeIn w tb n cv ((Cx.right up p true (.node y true out sk sv inn) pk pv).plug (.node x c l k v r)) := h
  have hs : TreeIn w tb n cv ((Cx.left up p true pk pv (.node x c l k v r)).plug (.node y true out sk sv inn)) := h
  have x5 : w.cell? ⟨x, 5, none⟩ = some (.pointer (some ⟨p, 0, none⟩)) := node_par hx.node
  have p2 := node_col h.node
  have p4 : w.cell? ⟨p, 4, none⟩ = some (.pointer (some ⟨x, 0, none⟩)) := node_right h.node
  have p3 : w.cell? ⟨p, 3, none⟩ = some (.pointer (some ⟨y, 0, none⟩)) := node_left h.node
  have y2 := node_col hs.node
  have lx := node_plain hx.node
  have lp := node_plain h.node
  have ly := node_plain hs.node
  have sp := h.sepR
  have xm := sp.d1 x (by rw [ids_node]; simp)
  have nxp : ¬ x = p := xm.2.2.1
  have npx : ¬ p = x := fun e => xm.2.2.1 e.symm
  have nxy : ¬ x = y := xm.2.2.2
  have nyx : ¬ y = x := fun e => xm.2.2.2 e.symm
  have npy : ¬ p = y := sp.xy
  have nyp : ¬ y = p := fun e => sp.xy e.symm
  have SB : Calls Try.prog 134 #[.pointer (some ⟨x, 0, none⟩)] w fun e w' => e = .returned (.pointer (some ⟨y, 0, none⟩)) ∧ w = w' := sibling_right h
  have SB := hid SB
  have finn : Fits w (some y) inn := hs.sub.2.2
  have fout : Fits w (some y) out := hs.sub.2.1
  have y4 := node_right hs.node
  have y3 := node_left hs.node
  have CI := hid (nodeColor_c finn hi)
  clear hi
  have CO := hid (nodeColor_c fout ho)
  clear ho
  have H1 := hid (show TreeIn (w.setCell ⟨y, 2, none⟩ (.bool false)) tb n cv (up.plug (.node p true (.node y false out sk sv inn) pk pv (.node x c l k v r))) from hs.setCol false)
  have K0 := hid ((Keep.refl (Own tb (up.plug (.node p true (.node y true out sk sv inn) pk pv (.node x c l k v r)))) w).setCell ⟨y, 2, none⟩ (fun _ => own_plug (cx := (Cx.left up p true pk pv (.node x c l k v r)))) (.bool false))
  have HC := hid hC
  have HR := hid hR
  clear h hx hs sp xm finn fout hC hR
  go_enter Try.func137, Try.ntmps137
  go_wp2_with (first | (go_at_call 134; ((with_reducible refine (SB.out).mono ?_); rintro e w1 ⟨rfl, rfl⟩)) | (go_at_call 128; ((with_reducible refine (nodeColor_node p2).mono ?_); rintro e w1 ⟨rfl, rfl⟩)) | (go_at_call 128; ((with_reducible refine (nodeColor_node y2).mono ?_); rintro e w1 ⟨rfl, rfl⟩)) | (go_at_call 128; ((with_reducible refine (CI.out).mono ?_); rintro e w1 ⟨rfl, rfl⟩)) | (go_at_call 128; ((with_reducible refine (CO.out).mono ?_); rintro e w1 ⟨rfl, rfl⟩)) | (go_at_call 129; refine (HC.out _ H1.out K0.out).mono ?_; intro e w4 hr; obtain rfl := HR.out e w4 hr))
  go_end0
  exact hr

set_option maxHeartbeats 1600000 in
theorem delete2_pass_R {R : Ending → World → Prop} (hR : ∀ e w', R e w' → e = .returned (.tuple #[]))  (h : TreeIn w tb n cv (up.plug (.node p pc (.node y true out sk sv inn) pk pv (.node x c l k v r))))
    (hC : Calls Try.prog 137 #[.pointer (some ⟨tb, 0, none⟩), .pointer (some ⟨x, 0, none⟩)] w R) :
    Calls Try.prog 132 #[.pointer (some ⟨tb, 0, none⟩), .pointer (some ⟨x, 0, none⟩)] w R := by
  have hx : TreeIn w tb n cv ((Cx.right up p pc (.node y true out sk sv inn) pk pv).plug (.node x c l k v r)) := h
  have hs : TreeIn w tb n cv ((Cx.left up p pc pk pv (.node x c l k v r)).plug (.node y true out sk sv inn)) := h
  have x5 : w.cell? ⟨x, 5, none⟩ = some (.pointer (some ⟨p, 0, none⟩)) := node_par hx.node
  have p2 := node_col h.node
  have p4 : w.cell? ⟨p, 4, none⟩ = some (.pointer (some ⟨x, 0, none⟩)) := node_right h.node
  have p3 : w.cell? ⟨p, 3, none⟩ = some (.pointer (some ⟨y, 0, none⟩)) := node_left h.node
  have y2 := node_col hs.node
  have lx := node_plain hx.node
  have lp := node_plain h.node
  have ly := node_plain hs.node
  have sp := h.sepR
  have xm := sp.d1 x (by rw [ids_node]; simp)
  have nxp : ¬ x = p := xm.2.2.1
  have npx : ¬ p = x := fun e => xm.2.2.1 e.symm
  have nxy : ¬ x = y := xm.2.2.2
  have nyx : ¬ y = x := fun e => xm.2.2.2 e.symm
  have npy : ¬ p = y := sp.xy
  have nyp : ¬ y = p := fun e => sp.xy e.symm
  have SB : Calls Try.prog 134 #[.pointer (some ⟨x, 0, none⟩)] w fun e w' => e = .returned (.pointer (some ⟨y, 0, none⟩)) ∧ w = w' := sibling_right h
  have SB := hid SB
  have finn : Fits w (some y) inn := hs.sub.2.2
  have fout : Fits w (some y) out := hs.sub.2.1
  have y4 := node_right hs.node
  have y3 := node_left hs.node
  have HC := hid hC
  have HR := hid hR
  clear h hx hs sp xm finn fout hC hR
  go_enter Try.func132, Try.ntmps132
  go_wp2_with (first | (go_at_call 134; ((with_reducible refine (SB.out).mono ?_); rintro e w1 ⟨rfl, rfl⟩)) | (go_at_call 128; ((with_reducible refine (nodeColor_node p2).mono ?_); rintro e w1 ⟨rfl, rfl⟩)) | (go_at_call 128; ((with_reducible refine (nodeColor_node y2).mono ?_); rintro e w1 ⟨rfl, rfl⟩)) | fail | (go_at_call 137; refine HC.out.mono ?_; intro e w4 hr; obtain rfl := HR.out e w4 hr))
  go_end0
  exact hr

set_option maxHeartbeats 1600000 in
theorem delete2_turn_R {R : Ending → World → Prop} (hR : ∀ e w', R e w' → e = .returned (.tuple #[])) (h : TreeIn w tb n cv (up.plug (.node p pc (.node y false out sk sv inn) pk pv (.node x c l k v r))))
    (hC : ∀ w3, TreeIn w3 tb n cv (up.plug (.node y true out sk sv (.node p false inn pk pv (.node x c l k v r)))) → Keep (Own tb (up.plug (.node p pc (.node y false out sk sv inn) pk pv (.node x c l k v r)))) w w3 → Calls Try.prog 137 #[.pointer (some ⟨tb, 0, none⟩), .pointer (some ⟨x, 0, none⟩)] w3 R) :
    Calls Try.prog 132 #[.pointer (some ⟨tb, 0, none⟩), .pointer (some ⟨x, 0, none⟩)] w R := by
  have hx : TreeIn w tb n cv ((Cx.right up p pc (.node y false out sk sv inn) pk pv).plug (.node x c l k v r)) := h
  have hs : TreeIn w tb n cv ((Cx.left up p pc pk pv (.node x c l k v r)).plug (.node y false out sk sv inn)) := h
  have x5 : w.cell? ⟨x, 5, none⟩ = some (.pointer (some ⟨p, 0, none⟩)) := node_par hx.node
  have p2 := node_col h.node
  have p4 : w.cell? ⟨p, 4, none⟩ = some (.pointer (some ⟨x, 0, none⟩)) := node_right h.node
  have p3 : w.cell? ⟨p, 3, none⟩ = some (.pointer (some ⟨y, 0, none⟩)) := node_left h.node
  have y2 := node_col hs.node
  have lx := node_plain hx.node
  have lp := node_plain h.node
  have ly := node_plain hs.node
  have sp := h.sepR
  have xm := sp.d1 x (by rw [ids_node]; simp)
  have nxp : ¬ x = p := xm.2.2.1
  have npx : ¬ p = x := fun e => xm.2.2.1 e.symm
  have nxy : ¬ x = y := xm.2.2.2
  have nyx : ¬ y = x := fun e => xm.2.2.2 e.symm
  have npy : ¬ p = y := sp.xy
  have nyp : ¬ y = p := fun e => sp.xy e.symm
  have SB : Calls Try.prog 134 #[.pointer (some ⟨x, 0, none⟩)] w fun e w' => e = .returned (.pointer (some ⟨y, 0, none⟩)) ∧ w = w' := sibling_right h
  have SB := hid SB
  have finn : Fits w (some y) inn := hs.sub.2.2
  have fout : Fits w (some y) out := hs.sub.2.1
  have h1 : TreeIn (w.setCell ⟨p, 2, none⟩ (.bool false)) tb n cv (up.plug (.node p false (.node y false out sk sv inn) pk pv (.node x c l k v r))) := h.setCol false
  have H2 := hid (show TreeIn ((w.setCell ⟨p, 2, none⟩ (.bool false)).setCell ⟨y, 2, none⟩ (.bool true)) tb n cv (up.plug (.node p false (.node y true out sk sv inn) pk pv (.node x c l k v r))) from TreeIn.setCol (cx := (Cx.left up p false pk pv (.node x c l k v r))) h1 true)
  have K0 := hid (((Keep.refl (Own tb (up.plug (.node p pc (.node y false out sk sv inn) pk pv (.node x c l k v r)))) w).setCell ⟨p, 2, none⟩ (fun _ => own_plug) (.bool false)).setCell ⟨y, 2, none⟩ (fun _ => own_plug (cx := (Cx.left up p pc pk pv (.node x c l k v r)))) (.bool true))
  have HC := hid hC
  have HR := hid hR
  clear h hx hs sp xm finn fout hC hR h1
  go_enter Try.func132, Try.ntmps132
  go_wp2_with (first | (go_at_call 134; ((with_reducible refine (SB.out).mono ?_); rintro e w1 ⟨rfl, rfl⟩)) | (go_at_call 128; ((with_reducible refine (nodeColor_node y2).mono ?_); rintro e w1 ⟨rfl, rfl⟩)) | (go_at_call 136; ((with_reducible refine (rotateRight_any H2.out).mono ?_); rintro e w3 ⟨rfl, ht, hk⟩)) | (go_at_call 137; refine (HC.out _ ht (K0.out.own hk (by simp [plug_ents, T.ents]))).mono ?_; intro e w4 hr; obtain rfl := HR.out e w4 hr))
  go_end0
  exact hr

theorem delete1_top {w : World} {tb x : Nat} (x5 : w.cell? ⟨x, 5, none⟩ = some (.pointer none)) :
    Calls Try.prog 129 #[.pointer (some ⟨tb, 0, none⟩), .pointer (some ⟨x, 0, none⟩)] w fun e w' => e = .returned (.tuple #[]) ∧ w = w' := by
  go_enter Try.func129, Try.ntmps129
  go_wp2
  first | go_end0 | ((try simp only [Exit.inBlock, Exit.then]); refine bodyPost_ret (results_none rfl _ _ _) rfl ?_)
  exact ⟨rfl, rfl⟩
theorem delete1_pass {w : World} {tb x p : Nat} {R : Ending → World → Prop} (hR : ∀ e w', R e w' → e = .returned (.tuple #[])) (x5 : w.cell? ⟨x, 5, none⟩ = some (.pointer (some ⟨p, 0, none⟩)))
    (hC : Calls Try.prog 132 #[.pointer (some ⟨tb, 0, none⟩), .pointer (some ⟨x, 0, none⟩)] w R) : Calls Try.prog 129 #[.pointer (some ⟨tb, 0, none⟩), .pointer (some ⟨x, 0, none⟩)] w R := by
  have HC := hid hC
  have HR := hid hR
  clear hC hR
  go_enter Try.func129, Try.ntmps129
  go_wp2_with (go_at_call 132; refine HC.out.mono ?_; intro e w4 hr; obtain rfl := HR.out e w4 hr)
  go_end0
  exact hr

end
end Go.Proofs.Ytdamfannmlncnaa
