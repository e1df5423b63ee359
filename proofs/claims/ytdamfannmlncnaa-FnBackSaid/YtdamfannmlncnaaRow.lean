/- Slices whose elements are plain structs: how they lie in memory; what append makes of them. -/
import Derived.Test.YtdamfannmlncnaaHeap
namespace Go.Proofs.Ytdamfannmlncnaa
open Go.RowKit
set_option linter.unusedVariables false
set_option linter.unusedSimpArgs false

theorem Keep.cell {S : Nat → Prop} {w w' : World} (h : Keep S w w') {b o : Nat} {v : Value} (hc : w.cell? ⟨b, o, none⟩ = some v) (hs : ¬ S b) : w'.cell? ⟨b, o, none⟩ = some v := by
  have hlt := World.block_lt_of_cell? _ _ hc
  rw [World.cell?_of_block (w := w) (w' := w') (h.block b hlt hs)]; exact hc
theorem Keep.grown {S : Nat → Prop} {w w' : World} {row : Option Nat} (hg : w.grownBy w' row) (hr : ∀ k, row = some k → k < w.heap.size → S k) : Keep S w w' :=
  ⟨hg.os, hg.tape, hg.output, hg.size, fun i hi hn => hg.block i hi (fun e => hn (hr i e.symm hi))⟩

/-! ### Elements laid one behind the other -/
section
variable {α : Type} {enc : α → List Value} {sz : Nat}
theorem flat_get (he : ∀ a, (enc a).length = sz) : ∀ (l : List α) (i : Nat) (h : i < l.length) (j : Nat), j < sz → (l.flatMap enc)[i * sz + j]? = (enc l[i])[j]? := by
  intro l
  induction l with
  | nil => intro i h; simp at h
  | cons a l ih =>
    intro i h j hj
    rw [List.flatMap_cons]
    cases i with
    | zero => rw [Nat.zero_mul, Nat.zero_add, List.getElem?_append_left (by rw [he]; exact hj)]; rfl
    | succ i =>
      have h' : i < l.length := by simpa using h
      rw [List.getElem?_append_right (by rw [he, Nat.succ_mul]; omega), he, show (i + 1) * sz + j - sz = i * sz + j from by rw [Nat.succ_mul]; omega, ih i h' j hj]
      rfl
theorem flat_length (he : ∀ a, (enc a).length = sz) (l : List α) : (l.flatMap enc).length = l.length * sz := by
  induction l with
  | nil => simp
  | cons a l ih => rw [List.flatMap_cons, List.length_append, he, ih, List.length_cons, Nat.succ_mul]; omega

/-- A slice of such elements lies in memory, in a block below B. -/
def RowIn (w : World) (B : Nat) (enc : α → List Value) (v : Value) (l : List α) : Prop :=
  (l = [] ∧ (v = .slice none 0 0 ∨ ∃ ad cap, v = .slice (some ad) 0 cap)) ∨
  ∃ b off cap, v = .slice (some ⟨b, off, none⟩) l.length cap ∧ b < B ∧ ∀ j u, (l.flatMap enc)[j]? = some u → w.cell? ⟨b, off + j, none⟩ = some u
theorem RowIn.keep {S : Nat → Prop} {w w' : World} {B : Nat} {v : Value} {l : List α} (h : RowIn w B enc v l) (hk : Keep S w w') (hs : ∀ i, i < B → ¬ S i) : RowIn w' B enc v l := by
  rcases h with h | ⟨b, off, cap, hv, hb, hc⟩
  · exact .inl h
  · exact .inr ⟨b, off, cap, hv, hb, fun j u hu => hk.cell (hc j u hu) (hs b hb)⟩
theorem RowIn.mono {w : World} {B B' : Nat} {v : Value} {l : List α} (h : RowIn w B enc v l) (hB : B ≤ B') : RowIn w B' enc v l := by
  rcases h with h | ⟨b, off, cap, hv, hb, hc⟩
  · exact .inl h
  · exact .inr ⟨b, off, cap, hv, by omega, hc⟩
theorem RowIn.len {w : World} {B : Nat} {v : Value} {l : List α} (h : RowIn w B enc v l) : ∃ a cap, v = .slice a l.length cap := by
  rcases h with ⟨rfl, rfl | ⟨ad, cap, rfl⟩⟩ | ⟨b, off, cap, rfl, _⟩
  · exact ⟨_, _, rfl⟩
  · exact ⟨_, _, rfl⟩
  · exact ⟨_, _, rfl⟩
/-- A row of the call's own. -/
theorem RowIn.of_owns {w : World} {base : Nat} {e : TypeId} {v : Value} {l : List α} (h : w.ownsRow base e sz v l.length (l.flatMap enc)) : RowIn w w.heap.size enc v l := by
  rcases h.2 with ⟨rfl, hn⟩ | ⟨g, cap, cur, rfl, hb, hg, h1, h2, h3, h4⟩
  · exact .inl ⟨List.eq_nil_of_length_eq_zero hn, .inl rfl⟩
  · refine .inr ⟨g, 0, cap, rfl, lt_of_heap hg, fun j u hu => ?_⟩
    rw [← h4, List.getElem?_take] at hu
    split at hu
    · rw [Nat.zero_add, World.cell?, hg]
      simpa using hu
    · cases hu
theorem ownsRow_congr {w w' : World} {base : Nat} {e : TypeId} {size : Nat} {v : Value} {n : Nat} {xs : List Value} (h : w.ownsRow base e size v n xs) (hk : ∀ g, v.ownBlock = some g → w'.heap[g]? = w.heap[g]?) : w'.ownsRow base e size v n xs := by
  refine ⟨h.1, ?_⟩
  rcases h.2 with hn | ⟨g, cap, cur, rfl, hb, hg, r⟩
  · exact .inl hn
  · exact .inr ⟨g, cap, cur, rfl, hb, (hk g rfl).trans hg, r⟩

/-- What append may be handed as its second argument. -/
def SrcRow (w : World) (size : Nat) (v : Value) (m : Nat) (news : List Value) : Prop :=
  (v = .slice none 0 0 ∧ m = 0 ∧ news = []) ∨
  ∃ ad c, v = .slice (some ad) m c ∧ news.length = m * size ∧ (∀ j u, news[j]? = some u → w.cell? (ad.add j) = some u) ∧ ∀ u ∈ news, u.oneCell' = true
theorem add_off (b off j : Nat) : (⟨b, off, none⟩ : Addr).add j = ⟨b, off + j, none⟩ := by
  unfold Addr.add; split
  · rename_i h; subst h; rfl
  · rfl
theorem RowIn.src {w : World} {B : Nat} {v : Value} {l : List α} (h : RowIn w B enc v l) (he : ∀ a, (enc a).length = sz) (h1 : ∀ a, ∀ u ∈ enc a, u.oneCell' = true) : SrcRow w sz v l.length (l.flatMap enc) := by
  rcases h with ⟨rfl, rfl | ⟨ad, cap, rfl⟩⟩ | ⟨b, off, cap, rfl, hb, hc⟩
  · exact .inl ⟨rfl, rfl, rfl⟩
  · exact .inr ⟨ad, cap, rfl, by simp, by simp, by simp⟩
  · refine .inr ⟨_, cap, rfl, flat_length he l, fun j u hu => by rw [add_off]; exact hc j u hu, fun u hu => ?_⟩
    obtain ⟨a, _, hu⟩ := List.mem_flatMap.1 hu
    exact h1 a u hu
theorem SrcRow.one {w : World} {ad : Addr} {c : Nat} {news : List Value} {size : Nat} (hl : news.length = size) (hc : ∀ j u, news[j]? = some u → w.cell? (ad.add j) = some u) (h1 : ∀ u ∈ news, u.oneCell' = true) :
    SrcRow w size (.slice (some ad) 1 c) 1 news := .inr ⟨ad, c, rfl, by simpa using hl, hc, h1⟩
end

theorem run_append_src {P : Program} (w : World) (base : Nat) (t ty e : TypeId) (i : TypeInfo) (z : Value) (size bytes : Nat) (ht : P.underlying t = some (.slice e)) (hi : P.info? e = some i) (hz : i.zero = some z)
    (hsize : i.size = size) (hby : i.bytes = bytes) (hzs : z.cells.size = size) (hsz : 0 < size) (v : Value) (n : Nat) (xs : List Value) (hown : w.ownsRow base e size v n xs)
    (sv : Value) (m : Nat) (news : List Value) (hsrc : SrcRow w size sv m news) (h63 : n + m ≤ maxLen) (hbytes : (n + m) * bytes ≤ 140737488355328) (hbase : base ≤ w.heap.size) :
    ∃ v' w', (Builtin.append_ #[t, t] ty #[v, sv]).run P w = .ok v' w' ∧ w'.ownsRow base e size v' (n + m) (xs ++ news) ∧ w.grownBy w' v.ownBlock := by
  rcases hsrc with ⟨rfl, rfl, rfl⟩ | ⟨ad, c, rfl, hl, hc, h1⟩
  · have hrun := run_append_owned_none (P := P) (w := w) base t ty e i size ht hi v n xs hown
    exact ⟨v, w, hrun, by simpa using hown, ⟨rfl, rfl, rfl, Nat.le_refl _, fun _ _ _ => rfl⟩⟩
  · obtain ⟨v', w', h1, h2, h3, _⟩ := run_append_own (P := P) w base t ty e i z size bytes ht hi hz hsize hby hzs hsz v n xs hown ad m c news hl hc h1 h63 hbytes hbase
    exact ⟨v', w', h1, h2, h3⟩

theorem wpList_app {P : Program} {w : World} {ops : Array Oper} {rest : List Oper} {o : Oper} {a : Act} {Q : Exit → Act → World → Prop} (hgd : o.guard = none) (s x : Operand) (t : TypeId)
    (ho : o.op = .call { callee := .builtin .append, args := #[s, x], argTypes := #[t, t] })
    (base : Nat) (e : TypeId) (i : TypeInfo) (z : Value) (size bytes : Nat) (ht : P.underlying t = some (.slice e)) (hi : P.info? e = some i) (hz : i.zero = some z)
    (hsize : i.size = size) (hby : i.bytes = bytes) (hzs : z.cells.size = size) (hsz : 0 < size)
    (v : Value) (n : Nat) (xs : List Value) (hs : a.eval s = v) (hown : w.ownsRow base e size v n xs)
    (sv : Value) (m : Nat) (news : List Value) (hx : a.eval x = sv) (hsrc : SrcRow w size sv m news) (h63 : n + m ≤ maxLen) (hbytes : (n + m) * bytes ≤ 140737488355328) (hbase : base ≤ w.heap.size)
    (h : ∀ v' w', w'.ownsRow base e size v' (n + m) (xs ++ news) → w.grownBy w' v.ownBlock → wpList P ops Q rest (a.put o.dst v') w') : wpList P ops Q (o :: rest) a w := by
  refine wpList_plain hgd fun K hK => ?_
  obtain ⟨v', w', hr, h2, h3⟩ := run_append_src (P := P) w base t o.type e i z size bytes ht hi hz hsize hby hzs hsz v n xs hown sv m news hsrc h63 hbytes hbase
  unfold Oper.wp execOp
  simp only [ho, resolve, invoke, builtin, Sem.run_bind, Sem.run_pure, Result.andThen_ok, List.map_toArray, List.map_cons, List.map_nil, hs, hx, hr]
  exact hK _ _ (h v' w' h2 h3)

end Go.Proofs.Ytdamfannmlncnaa
