/- Appends inside a region that draws its order. -/
import Derived.Test.YtdamfannmlncnaaCleared
import Derived.Deep.DeepCutAuto
namespace Go.Proofs.Ytdamfannmlncnaa
open Go.RowKit
set_option linter.unusedVariables false
set_option linter.unusedSimpArgs false

/-- An append inside a region that draws its order. -/
theorem step_app {P : Program} {ops : Array Oper} {o : Oper} {a : Act} {w : World} {K : Act → World → Prop} {Q : Exit → Act → World → Prop} {E : Prop} (hgd : o.guard = none) (s x : Operand) (t : TypeId)
    (ho : o.op = .call { callee := .builtin .append, args := #[s, x], argTypes := #[t, t] })
    (base : Nat) (e : TypeId) (i : TypeInfo) (z : Value) (size bytes : Nat) (ht : P.underlying t = some (.slice e)) (hi : P.info? e = some i) (hz : i.zero = some z)
    (hsize : i.size = size) (hby : i.bytes = bytes) (hzs : z.cells.size = size) (hsz : 0 < size)
    (v : Value) (n : Nat) (xs : List Value) (hs : a.eval s = v) (hown : w.ownsRow base e size v n xs)
    (sv : Value) (m : Nat) (news : List Value) (hx : a.eval x = sv) (hsrc : SrcRow w size sv m news) (h63 : n + m ≤ maxLen) (hbytes : (n + m) * bytes ≤ 140737488355328) (hbase : base ≤ w.heap.size)
    (h : ∀ v' w', w'.ownsRow base e size v' (n + m) (xs ++ news) → w.grownBy w' v.ownBlock → K (a.put o.dst v') w') :
    if Region.wanted o (yielded ops a.tmps) = true then Oper.wp P o a w K Q else E := by
  have hw : Region.wanted o (yielded ops a.tmps) = true := by simp [Region.wanted, hgd]
  rw [if_pos hw]
  obtain ⟨v', w', hr, h2, h3⟩ := run_append_src (P := P) w base t o.type e i z size bytes ht hi hz hsize hby hzs hsz v n xs hown sv m news hsrc h63 hbytes hbase
  unfold Oper.wp execOp
  simp only [ho, resolve, invoke, builtin, Sem.run_bind, Sem.run_pure, Result.andThen_ok, List.map_toArray, List.map_cons, List.map_nil, hs, hx, hr]
  exact h v' w' h2 h3

/-- It looks which operation stands next, and does nothing. -/
theorem slot_guard {P : Program} {ops : Array Oper} (o : Oper) {a : Act} {w : World} {K : Act → World → Prop} {Q : Exit → Act → World → Prop} {E : Prop}
    (h : if Region.wanted o (yielded ops a.tmps) = true then Oper.wp P o a w K Q else E) : if Region.wanted o (yielded ops a.tmps) = true then Oper.wp P o a w K Q else E := h

/-- The same, onto a row of the call's own: all that was there at W0 stays. -/
theorem step_appk {P : Program} {ops : Array Oper} {o : Oper} {a : Act} {w : World} {K : Act → World → Prop} {Q : Exit → Act → World → Prop} {E : Prop} (W0 : World) (hk : Keep (fun _ => False) W0 w) (hgd : o.guard = none) (s x : Operand) (t : TypeId)
    (ho : o.op = .call { callee := .builtin .append, args := #[s, x], argTypes := #[t, t] })
    (e : TypeId) (i : TypeInfo) (z : Value) (size bytes : Nat) (ht : P.underlying t = some (.slice e)) (hi : P.info? e = some i) (hz : i.zero = some z)
    (hsize : i.size = size) (hby : i.bytes = bytes) (hzs : z.cells.size = size) (hsz : 0 < size)
    (v : Value) (n : Nat) (xs : List Value) (hs : a.eval s = v) (hown : w.ownsRow W0.heap.size e size v n xs)
    (sv : Value) (m : Nat) (news : List Value) (hx : a.eval x = sv) (hsrc : SrcRow w size sv m news) (h63 : n + m ≤ maxLen) (hbytes : (n + m) * bytes ≤ 140737488355328)
    (h : ∀ v' w', w'.ownsRow W0.heap.size e size v' (n + m) (xs ++ news) → Keep (fun _ => False) W0 w' → (∀ g, (v.ownBlock = some g → False) → g < w.heap.size → w'.heap[g]? = w.heap[g]?) → K (a.put o.dst v') w') :
    if Region.wanted o (yielded ops a.tmps) = true then Oper.wp P o a w K Q else E :=
  step_app hgd s x t ho W0.heap.size e i z size bytes ht hi hz hsize hby hzs hsz v n xs hs hown sv m news hx hsrc h63 hbytes hk.size
    fun v' w' h1 h2 => h v' w' h1 (keep_app hk hown h2) fun g hg hlt => h2.block g hlt (fun e => hg e.symm)

/-- A whole block as the source of an append. -/
theorem src_blk {w : World} {g : Nat} {cs : Array Value} {e : TypeId} {fr : Nat × Nat} (hb : w.heap[g]? = some (.cells cs e fr)) {size m : Nat} (c : Nat) (hl : cs.toList.length = m * size) (h1 : ∀ u ∈ cs.toList, u.oneCell' = true) :
    SrcRow w size (.slice (some ⟨g, 0, none⟩) m c) m cs.toList :=
  .inr ⟨_, c, rfl, hl, fun j u hu => by rw [add_off, Nat.zero_add, World.cell?, hb]; simpa using hu, h1⟩

theorem owns_drew {w : World} {base : Nat} {e : TypeId} {sz : Nat} {v : Value} {n : Nat} {xs : List Value} (h : w.ownsRow base e sz v n xs) : w.drew.ownsRow base e sz v n xs := h
/-- An empty row, just made. -/
theorem owns_empty (w : World) (e : TypeId) (sz : Nat) (g : Nat) (hg : w.heap.size = g) (base : Nat) (hb : base ≤ g) : (w.alloc (.cells #[] e)).ownsRow base e sz (.slice (some ⟨g, 0, none⟩) 0 0) 0 [] := by
  subst hg
  exact World.ownsRow_made w #[] 0 hb (by decide) (by simp)

/-- Two blocks made one behind the other. -/
theorem blk_second (w : World) (cs ds : Array Value) (e : TypeId) : ((w.alloc (.cells cs e)).alloc (.cells ds e)).heap[w.heap.size + 1]? = some (.cells ds e (0, 0)) := by
  simpa using heap_alloc_new (w.alloc (.cells cs e)) (.cells ds e)
theorem blk_first (w : World) (cs ds : Array Value) (e : TypeId) : ((w.alloc (.cells cs e)).alloc (.cells ds e)).heap[w.heap.size]? = some (.cells cs e (0, 0)) := by
  rw [Below.heap_alloc _ _ _ (by simp)]; exact heap_alloc_new _ _

end Go.Proofs.Ytdamfannmlncnaa
