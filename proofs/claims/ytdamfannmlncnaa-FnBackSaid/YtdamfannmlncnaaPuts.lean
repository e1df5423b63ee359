/- Acts laid one behind the other by append, apart from what stays. -/
import Derived.Test.YtdamfannmlncnaaExactState
namespace Go.Proofs.Ytdamfannmlncnaa
open Go.RowKit
set_option linter.unusedVariables false
set_option linter.unusedSimpArgs false

/-- An append inside a region that draws its order; where the new row lies. -/
theorem step_app_at {P : Program} {ops : Array Oper} {o : Oper} {a : Act} {w : World} {K : Act → World → Prop} {Q : Exit → Act → World → Prop} {E : Prop} (hgd : o.guard = none) (s x : Operand) (t : TypeId)
    (ho : o.op = .call { callee := .builtin .append, args := #[s, x], argTypes := #[t, t] })
    (base : Nat) (e : TypeId) (i : TypeInfo) (z : Value) (size bytes : Nat) (ht : P.underlying t = some (.slice e)) (hi : P.info? e = some i) (hz : i.zero = some z)
    (hsize : i.size = size) (hby : i.bytes = bytes) (hzs : z.cells.size = size) (hsz : 0 < size)
    (v : Value) (n : Nat) (xs : List Value) (hs : a.eval s = v) (hown : w.ownsRow base e size v n xs)
    (ad : Addr) (m c : Nat) (news : List Value) (hx : a.eval x = .slice (some ad) m c) (hl : news.length = m * size) (hnews : ∀ j u, news[j]? = some u → w.cell? (ad.add j) = some u) (h1 : ∀ u ∈ news, u.oneCell' = true)
    (h63 : n + m ≤ maxLen) (hbytes : (n + m) * bytes ≤ 140737488355328) (hbase : base ≤ w.heap.size)
    (h : ∀ v' w', w'.ownsRow base e size v' (n + m) (xs ++ news) → w.grownBy w' v.ownBlock → (v'.ownBlock = v.ownBlock ∨ v'.ownBlock = some w.heap.size) → K (a.put o.dst v') w') :
    if Region.wanted o (yielded ops a.tmps) = true then Oper.wp P o a w K Q else E := by
  have hw : Region.wanted o (yielded ops a.tmps) = true := by simp [Region.wanted, hgd]
  rw [if_pos hw]
  obtain ⟨v', w', hr, h2, h3, _, h5⟩ := run_append_own_at (P := P) w base t o.type e i z size bytes ht hi hz hsize hby hzs hsz v n xs hown ad m c news hl hnews h1 h63 hbytes hbase
  unfold Oper.wp execOp
  simp only [ho, resolve, invoke, builtin, Sem.run_bind, Sem.run_pure, Result.andThen_ok, List.map_toArray, List.map_cons, List.map_nil, hs, hx, hr]
  exact h v' w' h2 h3 h5

theorem act_src (W : World) (o k v : Int) {g : Nat} (hg : W.heap.size = g) : ∀ j u, (encA (o, k, v))[j]? = some u → (W.alloc (.cells #[.int .i64 o, .int .i64 k, .int .i64 v] 27)).cell? ((⟨g, 0, none⟩ : Addr).add j) = some u := fun j u hu => by
  subst hg
  rw [add_off, Nat.zero_add, World.cell?_alloc_new]; simpa [encA] using hu

theorem blk_src {W : World} {g : Nat} {o k v : Int} (h : W.heap[g]? = some (.cells #[.int .i64 o, .int .i64 k, .int .i64 v] 27 (0, 0))) : ∀ j u, (encA (o, k, v))[j]? = some u → W.cell? ((⟨g, 0, none⟩ : Addr).add j) = some u := fun j u hu => by
  rw [add_off, Nat.zero_add, World.cell?, h]; simpa [encA] using hu

/-- Acts in the making, in a row of their own: all that was there at W2 stays, but for the block g0 in which the row began. -/
structure PutsRel (W2 : World) (b g0 : Nat) (A : List Act3) (s : Value) (wr : World) : Prop where
  row : wr.ownsRow b 27 3 s A.length (A.flatMap encA)
  own : ∀ g, s.ownBlock = some g → g = g0 ∨ W2.heap.size ≤ g
  keep : Keep (fun i => i = g0) W2 wr
section
variable {W2 wr w' W : World} {b g0 : Nat} {A : List Act3} {s s' : Value}
theorem PutsRel.on (h : PutsRel W2 b g0 A s wr) (hk : Keep (fun _ => False) wr w') : PutsRel W2 b g0 A s w' :=
  ⟨ownsRow.on h.row hk, h.own, h.keep.trans (hk.mono fun _ _ => False.elim)⟩
theorem PutsRel.app (h : PutsRel W2 b g0 A s W) {o k v : Int} (hown : w'.ownsRow b 27 3 s' (A.length + 1) (A.flatMap encA ++ encA (o, k, v))) (hgr : W.grownBy w' s.ownBlock) (hat : s'.ownBlock = s.ownBlock ∨ s'.ownBlock = some W.heap.size) : PutsRel W2 b g0 (A ++ [(o, k, v)]) s' w' := by
  refine ⟨by simpa [List.flatMap_append] using hown, fun g hg => ?_, h.keep.then (Keep.grown (S := fun i => s.ownBlock = some i) hgr fun k hk _ => hk) fun i hi hs => ?_⟩
  · rcases hat with e | e
    · exact h.own g (e ▸ hg)
    · rw [e] at hg; have := Option.some.inj hg; have := h.keep.size; omega
  · rcases h.own i hs with e | e
    · exact e
    · omega
theorem PutsRel.acts (h : PutsRel W2 b g0 A s wr) : ActsIn wr wr.heap.size s A := RowIn.of_owns h.row
theorem PutsRel.keepB {w1 : World} (h : PutsRel W2 b g0 A s wr) (hk : Keep (fun _ => False) w1 W2) (hg : w1.heap.size ≤ g0) : Keep (fun _ => False) w1 wr := hk.then h.keep fun i hi e => by omega
theorem PutsRel.len (h : PutsRel W2 b g0 A s wr) : ∃ a c, s = .slice a A.length c := owns_len h.row
end
end Go.Proofs.Ytdamfannmlncnaa
