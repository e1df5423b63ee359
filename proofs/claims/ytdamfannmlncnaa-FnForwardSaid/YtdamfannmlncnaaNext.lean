/- The moves of the iterator: Next. -/
import Derived.Test.YtdamfannmlncnaaIter
namespace Go.Proofs.Ytdamfannmlncnaa
open Go.RowKit
set_option linter.unusedVariables false
set_option linter.unusedSimpArgs false
set_option maxHeartbeats 1600000

theorem next_end {w : World} {ib ty tb : Nat} {nd : Option Nat} (h : w.heap[ib]? = some (iterObj ty tb nd 2)) :
    Calls Try.prog 118 #[.pointer (some ⟨ib, 0, none⟩)] w (ItPost w ib ty tb false none 2) := by
  have i2 := it_pos h
  have i1 := it_node h
  have pl := it_plain h
  have H := hid h
  clear h
  go_enter Try.func118, Try.ntmps118
  go_wp2_with (fail)
  refine wp_scope_two rfl rfl ?_
  intro J0 J1 k0 k1
  have hJ0 := hid k0
  have hJ1 := hid k1
  clear k0 k1
  go_wp2_with (fail)
  go_step3
  go_wp2_with (fail)
  refine hJ0.out _ _ ?_
  go_wp2_with (fail)
  go_ret
  exact ⟨rfl, it_setPos (it_setNode H.out none) 2, ((Keep.refl _ _).one 1 _).one 2 _⟩

theorem next_begin_nil {w : World} {ib ty tb : Nat} {nd : Option Nat} {n : Int} {cv : Value} {t : T} (h : w.heap[ib]? = some (iterObj ty tb nd 0)) (ht : TreeIn w tb n cv t) (hE : t.ents = []) :
    Calls Try.prog 118 #[.pointer (some ⟨ib, 0, none⟩)] w (ItPost w ib ty tb false none 2) := by
  have C : Calls Try.prog 102 #[.pointer (some ⟨tb, 0, none⟩)] w fun e w' => e = .returned (.pointer none) ∧ w = w' := by
    have := treeLeft_any ht
    rw [hE] at this
    exact this
  have C := hid C
  have i2 := it_pos h
  have i1 := it_node h
  have i0 := it_tree h
  have pl := it_plain h
  have H := hid h
  clear h ht hE
  go_enter Try.func118, Try.ntmps118
  go_wp2_with (fail)
  refine wp_scope_two rfl rfl ?_
  intro J0 J1 k0 k1
  have hJ0 := hid k0
  have hJ1 := hid k1
  clear k0 k1
  go_wp2_with (fail)
  refine C.out.mono ?_
  rintro e w' ⟨rfl, rfl⟩
  go_wp2_with (fail)
  go_step3
  go_wp2_with (fail)
  refine hJ0.out _ _ ?_
  go_wp2_with (fail)
  go_ret
  exact ⟨rfl, it_setPos (it_setNode H.out none) 2, ((Keep.refl _ _).one 1 _).one 2 _⟩

theorem next_begin_cons {w : World} {ib ty tb : Nat} {nd : Option Nat} {n : Int} {cv : Value} {t : T} {x : Nat} (h : w.heap[ib]? = some (iterObj ty tb nd 0)) (ht : TreeIn w tb n cv t) (hE : t.ents.head?.map (·.1) = some x) :
    Calls Try.prog 118 #[.pointer (some ⟨ib, 0, none⟩)] w (ItPost w ib ty tb true (some x) 1) := by
  have C : Calls Try.prog 102 #[.pointer (some ⟨tb, 0, none⟩)] w fun e w' => e = .returned (.pointer (some ⟨x, 0, none⟩)) ∧ w = w' := by
    have := treeLeft_any ht
    rw [hE] at this
    exact this
  have C := hid C
  have i2 := it_pos h
  have i1 := it_node h
  have i0 := it_tree h
  have pl := it_plain h
  have H := hid h
  clear h ht hE
  go_enter Try.func118, Try.ntmps118
  go_wp2_with (fail)
  refine wp_scope_two rfl rfl ?_
  intro J0 J1 k0 k1
  have hJ0 := hid k0
  have hJ1 := hid k1
  clear k0 k1
  go_wp2_with (fail)
  refine C.out.mono ?_
  rintro e w' ⟨rfl, rfl⟩
  go_wp2_with (fail)
  go_step3
  go_wp2_with (fail)
  refine hJ1.out _ _ ?_
  go_wp2_with (fail)
  go_ret
  exact ⟨rfl, it_setPos (it_setNode H.out (some x)) 1, ((Keep.refl _ _).one 1 _).one 2 _⟩

theorem next_down {w : World} {ib ty tb : Nat} {n : Int} {cv : Value} {cx : Cx} {x : Nat} {c : Bool} {l : T} {k v : Int} {y : Nat} {yc : Bool} {yl yr : T} {yk yv : Int} {S : List Ent} (h : w.heap[ib]? = some (iterObj ty tb (some x) 1))
    (ht : TreeIn w tb n cv (cx.plug (.node x c l k v (.node y yc yl yk yv yr)))) (hd : ib ≠ tb) (hm : ib ∉ (cx.plug (.node x c l k v (.node y yc yl yk yv yr))).ids) (hS : (T.node y yc yl yk yv yr).ents ++ cx.aents = S) :
    Calls Try.prog 118 #[.pointer (some ⟨ib, 0, none⟩)] w fun e w' => ∃ z, S.head?.map (·.1) = some z ∧ ItPost w ib ty tb true (some z) 1 e w' := by
  have i2 := it_pos h
  have i1 : w.cell? ⟨ib, 1, none⟩ = some (.pointer (some ⟨x, 0, none⟩)) := it_node h
  have i0 := it_tree h
  have pl := it_plain h
  have xI : w.cell? ⟨x, 4, none⟩ = some (.pointer (some ⟨y, 0, none⟩)) := node_right ht.node
  have xne : ¬ x = ib := fun e => hm (by rw [← e, ids_plug, ids_node]; simp)
  have xne' : ¬ ib = x := fun e => xne e.symm
  have H := hid h
  have HT := hid ht
  have HM := hid (And.intro hd (And.intro hm hS))
  obtain ⟨t, hteq⟩ : ∃ t, t = cx.plug (.node x c l k v (.node y yc yl yk yv yr)) := ⟨_, rfl⟩
  have HQ := hid hteq
  clear h ht hd hm hS hteq
  go_enter Try.func118, Try.ntmps118
  go_wp2_with (fail)
  refine wp_scope_two rfl rfl ?_
  intro J0 J1 k0 k1
  have hJ0 := hid k0
  have hJ1 := hid k1
  clear k0 k1
  go_wp2_with (fail)
  go_loopg [] (yl.height) (fun g wr => ∃ (cz : Cx) (z : Nat) (zc : Bool) (zl : T) (zk zv : Int) (zr : T), t = cz.plug (.node z zc zl zk zv zr) ∧ g = zl.height ∧ zl.ents ++ (z, zk, zv) :: (zr.ents ++ cz.aents) = S ∧ wr.heap[ib]? = some (iterObj ty tb (some z) 1) ∧ Keep (fun i => i = ib) w wr)
  case atStart =>
    exact ⟨Cx.right cx x c l k v, y, yc, yl, yk, yv, yr, HQ.out, rfl, by rw [← HM.out.2.2]; simp [Cx.aents, Cx.bents, T.ents], it_setNode H.out (some y), (Keep.refl _ _).one _ _⟩
  case round =>
    obtain ⟨cz, z, zc, zl, zk, zv, zr, he, hg, hs, hi, hk⟩ := hrel
    have HA := hid (And.intro he (And.intro hg (And.intro hs (And.intro hi hk))))
    have TI : TreeIn wr tb n cv (cz.plug (.node z zc zl zk zv zr)) := by
      rw [← he, HQ.out]
      exact HT.out.keep hk (fun e => HM.out.1 e.symm) (fun i hx e => HM.out.2.1 (e ▸ hx))
    have zne : ¬ z = ib := fun e => HM.out.2.1 (by rw [← HQ.out, he, ← e, ids_plug, ids_node]; simp)
    have zne' : ¬ ib = z := fun e => zne e.symm
    have i2 := it_pos hi
    have i1 : wr.cell? ⟨ib, 1, none⟩ = some (.pointer (some ⟨z, 0, none⟩)) := it_node hi
    have pl := it_plain hi
    cases zl with
    | nil =>
      have zf : wr.cell? ⟨z, 3, none⟩ = some (.pointer none) := node_left TI.node
      clear he hg hs hi hk TI
      go_wp2_with (fail)
      go_step3
      go_wp2_with (fail)
      refine hJ1.out _ _ ?_
      go_wp2_with (fail)
      (first | rw [Exit.noGoto_ret] | rw [Exit.two_ret])
      go_ret
      exact ⟨z, by rw [← HA.out.2.2.1]; simp [T.ents], rfl, it_setPos HA.out.2.2.2.1 1, HA.out.2.2.2.2.one _ _⟩
    | node q qc ql qk qv qr =>
      have zf : wr.cell? ⟨z, 3, none⟩ = some (.pointer (some ⟨q, 0, none⟩)) := node_left TI.node
      clear he hg hs hi hk TI
      go_wp2_with (fail)
      go_roundg (ql.height)
      case measure => rw [HA.out.2.1]; simp only [T.height]; omega
      case rel => exact ⟨.left cz z zc zk zv zr, q, qc, ql, qk, qv, qr, HA.out.1, rfl, by rw [← HA.out.2.2.1]; simp [Cx.aents, Cx.bents, T.ents], it_setNode HA.out.2.2.2.1 (some q), HA.out.2.2.2.2.one _ _⟩

/-- No way down: up, until it comes from the other side. -/
theorem next_up {w : World} {ib ty tb : Nat} {n : Int} {cv : Value} {cx : Cx} {x : Nat} {c : Bool} {l : T} {k v : Int} (h : w.heap[ib]? = some (iterObj ty tb (some x) 1))
    (ht : TreeIn w tb n cv (cx.plug (.node x c l k v .nil))) (hd : ib ≠ tb) (hm : ib ∉ (cx.plug (.node x c l k v .nil)).ids) :
    Calls Try.prog 118 #[.pointer (some ⟨ib, 0, none⟩)] w fun e w' => (cx.aents = [] ∧ ItPost w ib ty tb false none 2 e w') ∨ ∃ z, cx.aents.head?.map (·.1) = some z ∧ ItPost w ib ty tb true (some z) 1 e w' := by
  have i2 := it_pos h
  have i1 : w.cell? ⟨ib, 1, none⟩ = some (.pointer (some ⟨x, 0, none⟩)) := it_node h
  have i0 := it_tree h
  have pl := it_plain h
  have xI : w.cell? ⟨x, 4, none⟩ = some (.pointer none) := node_right ht.node
  have xne : ¬ x = ib := fun e => hm (by rw [← e, ids_plug, ids_node]; simp)
  have xne' : ¬ ib = x := fun e => xne e.symm
  have H := hid h
  have HT := hid ht
  have HM := hid (And.intro hd hm)
  obtain ⟨t, hteq⟩ : ∃ t, t = cx.plug (.node x c l k v .nil) := ⟨_, rfl⟩
  have HQ := hid hteq
  clear h ht hd hm hteq
  go_enter Try.func118, Try.ntmps118
  go_wp2_with (fail)
  refine wp_scope_two rfl rfl ?_
  intro J0 J1 k0 k1
  have hJ0 := hid k0
  have hJ1 := hid k1
  clear k0 k1
  go_wp2_with (fail)
  go_loopg [4] (cx.depth) (fun g s wr => ∃ (cz : Cx) (z : Nat) (zc : Bool) (zl : T) (zk zv : Int) (zr : T), t = cz.plug (.node z zc zl zk zv zr) ∧ g = cz.depth ∧ cz.aents = cx.aents ∧ wr.heap[ib]? = some (iterObj ty tb (some z) 1) ∧ Keep (fun i => i = ib) w wr)
  case atStart => exact ⟨cx, x, c, l, k, v, .nil, HQ.out, rfl, rfl, H.out, Keep.refl _ _⟩
  case round =>
    obtain ⟨cz, z, zc, zl, zk, zv, zr, he, hg, hs, hi, hk⟩ := hrel
    have HA := hid (And.intro he (And.intro hg (And.intro hs (And.intro hi hk))))
    have TI : TreeIn wr tb n cv (cz.plug (.node z zc zl zk zv zr)) := by
      rw [← he, HQ.out]
      exact HT.out.keep hk (fun e => HM.out.1 e.symm) (fun i hx e => HM.out.2 (e ▸ hx))
    have zne : ¬ z = ib := fun e => HM.out.2 (by rw [← HQ.out, he, ← e, ids_plug, ids_node]; simp)
    have zne' : ¬ ib = z := fun e => zne e.symm
    have i2 := it_pos hi
    have i1 : wr.cell? ⟨ib, 1, none⟩ = some (.pointer (some ⟨z, 0, none⟩)) := it_node hi
    have pl := it_plain hi
    have z5 := node_par TI.node
    have zP := node_plain TI.node
    cases cz with
    | top =>
      replace z5 : wr.cell? ⟨z, 5, none⟩ = some (.pointer none) := z5
      clear he hg hs hi hk TI
      go_wp2_with (fail)
      repeat (go_step3; go_wp2_with (fail))
      (first | rw [Exit.noGoto_ret] | rw [Exit.two_ret])
      go_ret
      exact .inl ⟨HA.out.2.2.1.symm, rfl, it_setPos (it_setNode HA.out.2.2.2.1 none) 2, (HA.out.2.2.2.2.one 1 _).one 2 _⟩
    | left up p pc pk pv pr =>
      replace z5 : wr.cell? ⟨z, 5, none⟩ = some (.pointer (some ⟨p, 0, none⟩)) := z5
      have TP : TreeIn wr tb n cv (up.plug (.node p pc (.node z zc zl zk zv zr) pk pv pr)) := TI
      have p3 : wr.cell? ⟨p, 3, none⟩ = some (.pointer (some ⟨z, 0, none⟩)) := node_left TP.node
      have pne : ¬ p = ib := fun e => HM.out.2 (by rw [← HQ.out, he, ← e, mem_ids_plug, cx_left_ids]; simp)
      have pne' : ¬ ib = p := fun e => pne e.symm
      clear he hg hs hi hk TI TP
      go_wp2_with (fail)
      repeat (go_step3; go_wp2_with (fail))
      refine hJ1.out _ _ ?_
      go_wp2_with (fail)
      (first | rw [Exit.noGoto_ret] | rw [Exit.two_ret])
      go_ret
      exact .inr ⟨p, by rw [← HA.out.2.2.1]; rfl, rfl, it_setPos (it_setNode HA.out.2.2.2.1 (some p)) 1, (HA.out.2.2.2.2.one 1 _).one 2 _⟩
    | right up p pc pl pk pv =>
      replace z5 : wr.cell? ⟨z, 5, none⟩ = some (.pointer (some ⟨p, 0, none⟩)) := z5
      have TP : TreeIn wr tb n cv (up.plug (.node p pc pl pk pv (.node z zc zl zk zv zr))) := TI
      have p3 := node_left TP.node
      have pO : PlainO wr pl.ptr := by
        intro b hb
        refine TP.fits.mem_some b ?_
        rw [mem_ids_plug, ids_node]
        exact .inr (by cases pl with
          | nil => cases hb
          | node b' _ _ _ _ _ => obtain rfl : b' = b := Option.some.inj hb; simp [ids_node])
      have pd : decide (pl.ptr = some z) = false := by
        refine decide_eq_false fun e => ?_
        have hn := TP.nodup
        rw [nodup_plug, ids_node, ids_node] at hn
        have hn := hn.2.1
        cases pl with
        | nil => cases e
        | node b' _ _ _ _ _ =>
          obtain rfl : b' = z := Option.some.inj e
          simp [ids_node, List.nodup_append] at hn
      have pne : ¬ p = ib := fun e => HM.out.2 (by rw [← HQ.out, he, ← e, mem_ids_plug, cx_right_ids]; simp)
      have pne' : ¬ ib = p := fun e => pne e.symm
      clear he hg hs hi hk TI TP
      go_wp2_with (fail)
      go_roundg (up.depth)
      case measure => rw [HA.out.2.1]; simp only [Cx.depth]; omega
      case rel => exact ⟨up, p, pc, pl, pk, pv, .node z zc zl zk zv zr, HA.out.1, rfl, HA.out.2.2.1, it_setNode HA.out.2.2.2.1 (some p), HA.out.2.2.2.2.one _ _⟩

end Go.Proofs.Ytdamfannmlncnaa
