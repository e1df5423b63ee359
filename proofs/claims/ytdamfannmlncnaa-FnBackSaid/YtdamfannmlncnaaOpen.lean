/- How the laws' arguments read: an order, an act, a test by value; slices of acts, of moves. -/
import Derived.Test.YtdamfannmlncnaaBuilt
import Derived.ProofKit
import Derived.OpenShut
import Derived.ShutString
import Derived.ChangeOld
import Derived.Deep.Slices
import Derived.Lib.SmallJoins
import Derived.Deep.Strs
namespace Go.Proofs.Ytdamfannmlncnaa
open Go.ChangeShapes Go.WideShapes Go.ChangeAt Go.RowKit
set_option linter.unusedVariables false
set_option linter.unusedSimpArgs false
set_option maxRecDepth 100000

theorem cells3 : Try.prog.cellsOf 3 = 1 := by kernel_rfl
theorem cells4 : Try.prog.cellsOf 4 = 1 := by kernel_rfl
theorem cells23 : Try.prog.cellsOf 23 = 2 := by kernel_rfl
theorem cells27 : Try.prog.cellsOf 27 = 3 := by kernel_rfl
theorem cells42 : Try.prog.cellsOf 42 = 3 := by kernel_rfl
theorem cells70 : Try.prog.cellsOf 70 = 3 := by kernel_rfl

section
variable {H : Type} {enc : TypeId × Value → H} {W : World} {base : Nat} {b0 : Nat} {r : Reach} {spare : Nat → Bool} {held : Bool} {v : Value} {d : DataW H} {p : List MemPlace}

theorem open_order (hv : Value.okWide Try.prog W r b0 23 v) (h : DataW.Trod enc Try.prog W base spare held 23 v d p) : ∃ kind m, v = .agg #[.int .i64 kind, .int .i64 m] := by
  obtain ⟨v0, v1, y0, y1, n, rfl, _, _, h0, h1⟩ := Joins.open_agg2 Try.underlying23 (by kernel_rfl) cells23 hv h
  obtain ⟨a, e0, _, _⟩ := DataW.trod_int Try.underlying3 h0
  obtain ⟨b, e1, _, _⟩ := DataW.trod_int Try.underlying3 h1
  simp only [List.cons.injEq, and_true] at e0 e1
  exact ⟨a, b, by rw [e0, e1]⟩
theorem open_act (hv : Value.okWide Try.prog W r b0 27 v) (h : DataW.Trod enc Try.prog W base spare held 27 v d p) : ∃ a : Act3, v = .agg #[.int .i64 a.1, .int .i64 a.2.1, .int .i64 a.2.2] := by
  obtain ⟨v0, v1, v2, y0, y1, y2, n, rfl, _, _, h0, h1, h2⟩ := Joins.open_agg3 Try.underlying27 (by kernel_rfl) cells27 hv h
  obtain ⟨a, e0, _, _⟩ := DataW.trod_int Try.underlying3 h0
  obtain ⟨b, e1, _, _⟩ := DataW.trod_int Try.underlying3 h1
  obtain ⟨c, e2, _, _⟩ := DataW.trod_int Try.underlying3 h2
  simp only [List.cons.injEq, and_true] at e0 e1 e2
  exact ⟨(a, b, c), by rw [e0, e1, e2]⟩
theorem bool_of_trod {t : TypeId} {fuel : Nat} {c : Value} {x : DataW H × List MemPlace} (ht : Try.prog.underlying t = some .bool) (h : DataW.trod enc Try.prog W base spare held fuel t [c] = some x) : ∃ b, c = .bool b := by
  cases fuel with
  | zero => simp [DataW.trod] at h
  | succ n =>
    unfold DataW.trod at h
    simp only [ht] at h
    cases c <;> first | exact ⟨_, rfl⟩ | simp at h
theorem open_test (hv : Value.okWide Try.prog W r b0 70 v) (h : DataW.Trod enc Try.prog W base spare held 70 v d p) : ∃ (b : Bool) (m q : Int), v = .agg #[.bool b, .int .i64 m, .int .i64 q] := by
  obtain ⟨v0, v1, v2, y0, y1, y2, n, rfl, _, _, h0, h1, h2⟩ := Joins.open_agg3 Try.underlying70 (by kernel_rfl) cells70 hv h
  obtain ⟨a, e0⟩ := bool_of_trod Try.underlying4 h0
  obtain ⟨b, e1, _, _⟩ := DataW.trod_int Try.underlying3 h1
  obtain ⟨c, e2, _, _⟩ := DataW.trod_int Try.underlying3 h2
  simp only [List.cons.injEq, and_true] at e1 e2
  exact ⟨a, b, c, by rw [e0, e1, e2]⟩

/-- Three integers, one behind the other. -/
theorem three_ints {t : TypeId} {n0 n1 n2 g0 g1 g2 : String} {s0 s1 s2 : Nat} {e0 e1 e2 : Bool} {p0 p1 p2 : String} {fuel : Nat} {cs : List Value} {x : DataW H × List MemPlace}
    (ht : Try.prog.underlying t = some (.struct #[⟨n0, 3, 0, e0, g0, p0, s0⟩, ⟨n1, 3, 1, e1, g1, p1, s1⟩, ⟨n2, 3, 2, e2, g2, p2, s2⟩])) (hC : Try.prog.cellsOf t = 3) (h : DataW.trod enc Try.prog W base spare held fuel t cs = some x) :
    ∃ a : Act3, cs = encA a := by
  obtain ⟨y0, y1, y2, n, _, hl, h0, h1, h2⟩ := Deep.trod_struct3 ht h
  rw [hC] at hl
  match cs, hl with
  | [c0, c1, c2], _ =>
    simp only [cells3, List.drop_zero, List.take_succ_cons, List.take_zero, List.drop_succ_cons] at h0 h1 h2
    obtain ⟨a, e0, _, _⟩ := DataW.trod_int Try.underlying3 h0
    obtain ⟨b, e1, _, _⟩ := DataW.trod_int Try.underlying3 h1
    obtain ⟨c, e2, _, _⟩ := DataW.trod_int Try.underlying3 h2
    simp only [List.cons.injEq, and_true] at e0 e1 e2
    exact ⟨(a, b, c), by simp [encA, e0, e1, e2]⟩

instance : Inhabited Act3 := ⟨(0, 0, 0)⟩

theorem flat_of {w : World} {b off len : Nat} {A : Nat → Act3} (h : ∀ i, i < len → ∀ j, j < 3 → w.cell? ⟨b, off + i * 3 + j, none⟩ = (encA (A i))[j]?) :
    ∀ j u, (((List.range len).map A).flatMap encA)[j]? = some u → w.cell? ⟨b, off + j, none⟩ = some u := by
  intro j u hu
  have hlt : j < (((List.range len).map A).flatMap encA).length := (List.getElem?_eq_some_iff.1 hu).1
  rw [flat_length encA_len] at hlt
  simp only [List.length_map, List.length_range] at hlt
  have hi : j / 3 < len := by omega
  have hr := h (j / 3) hi (j % 3) (by omega)
  have e := flat_get encA_len ((List.range len).map A) (j / 3) (by simpa using hi) (j % 3) (by omega)
  rw [show j / 3 * 3 + j % 3 = j from by omega, hu] at e
  rw [show off + j / 3 * 3 + j % 3 = off + j from by omega] at hr
  rw [hr]
  simp only [List.getElem_map, List.getElem_range] at e
  exact e.symm

theorem open_rows {t e : TypeId} {n0 n1 n2 g0 g1 g2 : String} {s0 s1 s2 : Nat} {e0 e1 e2 : Bool} {p0 p1 p2 : String} (ht : Try.prog.underlying t = some (.slice e))
    (he : Try.prog.underlying e = some (.struct #[⟨n0, 3, 0, e0, g0, p0, s0⟩, ⟨n1, 3, 1, e1, g1, p1, s1⟩, ⟨n2, 3, 2, e2, g2, p2, s2⟩])) (hC : Try.prog.cellsOf e = 3)
    (hv : Value.okWide Try.prog W r b0 t v) (h : DataW.Trod enc Try.prog W base (fun _ => true) true t v d p) : ∃ acts : List Act3, RowIn W W.heap.size encA v acts ∧ acts.length ≤ maxLen := by
  obtain ⟨ao, len, cap, rfl⟩ := okWide_slice ht hv
  obtain ⟨fuel, hf⟩ := h
  rcases Deep.open_slice ht hf with ⟨hcs, _⟩ | ⟨a, len', cap', m, n, D, Pl, hcs, _, hl, hm, hmm, _, hx⟩
  · simp only [Value.cells, List.cons.injEq, and_true, Value.slice.injEq] at hcs
    obtain ⟨rfl, rfl, rfl⟩ := hcs
    exact ⟨[], .inl ⟨rfl, .inl rfl⟩, Nat.zero_le _⟩
  · simp only [Value.cells, List.cons.injEq, and_true, Value.slice.injEq] at hcs
    obtain ⟨rfl, rfl, rfl⟩ := hcs
    by_cases h0 : len = 0
    · subst h0
      exact ⟨[], .inl ⟨rfl, .inr ⟨_, _, rfl⟩⟩, Nat.zero_le _⟩
    · simp only [if_true] at hmm
      subst hmm
      rw [hC] at hx
      obtain ⟨b, off, spot⟩ := a
      obtain ⟨A, hA⟩ := Deep.choose_lt (α := Act3) (n := len) (p := fun i a => ∀ j, j < 3 → W.cell? ((⟨b, off, spot⟩ : Addr).add (i * 3) |>.add j) = (encA a)[j]?) (fun i hi => by
        obtain ⟨cs, h1, h2⟩ := hx i (by omega)
        obtain ⟨a, rfl⟩ := three_ints he hC h2
        obtain ⟨_, _, h3⟩ := World.cells?_some h1
        exact ⟨a, h3⟩)
      have hspot : spot = none := by
        have hc := hA 0 (by omega) 0 (by omega)
        have : W.cell? ⟨b, off, spot⟩ = some (.int .i64 (A 0).1) := by simpa [Addr.add, encA] using hc
        exact World.cell?_spot this
      subst hspot
      have hlt : b < W.heap.size := by
        have hc := hA 0 (by omega) 0 (by omega)
        have : W.cell? ⟨b, off, none⟩ = some (.int .i64 (A 0).1) := by simpa [Addr.add, encA] using hc
        exact World.block_lt_of_cell? _ _ this
      refine ⟨(List.range len).map A, .inr ⟨b, off, m, by simp, hlt, flat_of fun i hi j hj => ?_⟩, by simp; omega⟩
      have := hA i hi j hj
      rw [add_off, add_off] at this
      exact this
theorem open_acts (hv : Value.okWide Try.prog W r b0 24 v) (h : DataW.Trod enc Try.prog W base (fun _ => true) true 24 v d p) : ∃ acts : List Act3, RowIn W W.heap.size encA v acts ∧ acts.length ≤ maxLen :=
  open_rows Try.underlying24 Try.underlying27 cells27 hv h
theorem open_moves (hv : Value.okWide Try.prog W r b0 40 v) (h : DataW.Trod enc Try.prog W base (fun _ => true) true 40 v d p) : ∃ ms : List Act3, RowIn W W.heap.size encA v ms ∧ ms.length ≤ maxLen :=
  open_rows Try.underlying40 Try.underlying42 cells42 hv h
end

end Go.Proofs.Ytdamfannmlncnaa
