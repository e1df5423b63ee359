/- The tree's keys and its values, in order, as slices; its size; whether it is empty. -/
import Derived.Test.YtdamfannmlncnaaMoves
import Derived.Test.YtdamfannmlncnaaRow
import Derived.OwnWalk
namespace Go.Proofs.Ytdamfannmlncnaa
open Go.RowKit
set_option linter.unusedVariables false
set_option linter.unusedSimpArgs false
set_option maxHeartbeats 1600000

theorem info20 : (Try.prog.info? 20).map (fun i => (i.zero, i.size, i.bytes)) = some (some .nilIface, 1, 16) := by kernel_rfl
def encF (x : Int) : List Value := [.iface 3 (.int .i64 x)]
def encN (x : Int) : List Value := [.int .i64 x]
theorem encF_len (x : Int) : (encF x).length = 1 := rfl
theorem encN_len (x : Int) : (encN x).length = 1 := rfl
theorem encF_one (x : Int) : ∀ u ∈ encF x, u.oneCell' = true := by simp [encF, Value.oneCell']
theorem encN_one (x : Int) : ∀ u ∈ encN x, u.oneCell' = true := by simp [encN, Value.oneCell']

theorem parts20 : ∃ i, Try.prog.info? 20 = some i ∧ i.zero = some .nilIface ∧ i.size = 1 ∧ i.bytes = 16 := by
  have h := info20
  cases hi : Try.prog.info? 20 with
  | none => rw [hi] at h; cases h
  | some i => rw [hi] at h; simp only [Option.map_some, Option.some.injEq, Prod.mk.injEq] at h; exact ⟨i, rfl, h.1, h.2.1, h.2.2⟩

theorem Keep.freshSet {w w' : World} (h : Keep (fun _ => False) w w') {g : Nat} (hg : w.heap.size ≤ g) (o : Nat) (v : Value) : Keep (fun _ => False) w (w'.setCell ⟨g, o, none⟩ v) :=
  h.setCell ⟨g, o, none⟩ (fun hlt => absurd hlt (Nat.not_lt.2 hg)) v
theorem Keep.freshKeep {w w1 w2 : World} (h : Keep (fun _ => False) w w1) {g : Nat} (hg : w.heap.size ≤ g) (k : Keep (fun i => i = g) w1 w2) : Keep (fun _ => False) w w2 :=
  h.then k fun i hi hs => by omega

/-- The row that is filled: the first k elements, then zeros. -/
def filled (l : List Int) (k : Nat) : List Value := (l.take k).flatMap encF ++ List.replicate (l.length - k) .nilIface
theorem filled_zero (l : List Int) : filled l 0 = List.replicate l.length .nilIface := by simp [filled]
theorem filled_all (l : List Int) : filled l l.length = l.flatMap encF := by simp [filled]
theorem filled_len (l : List Int) (k : Nat) (hk : k ≤ l.length) : (filled l k).length = l.length := by
  unfold filled
  rw [List.length_append, flat_length encF_len]; simp; omega
theorem take_len_of_lt {l : List Int} {k : Nat} (hk : k ≤ l.length) : (l.take k).length = k := by rw [List.length_take]; omega
theorem filled_at (l : List Int) (k : Nat) (hk : k < l.length) : (filled l k)[k]? = some .nilIface := by
  unfold filled
  have hl : ((l.take k).flatMap encF).length = k := by rw [flat_length encF_len, take_len_of_lt (by omega)]; omega
  rw [List.getElem?_append_right (by omega), hl, Nat.sub_self, List.getElem?_replicate, if_pos (by omega)]
theorem filled_set (l : List Int) (k : Nat) (hk : k < l.length) : (filled l k).set k (.iface 3 (.int .i64 l[k])) = filled l (k + 1) := by
  unfold filled
  have hl : ((l.take k).flatMap encF).length = k := by rw [flat_length encF_len]; simp; omega
  rw [List.set_append_right _ _ (by omega), hl, Nat.sub_self]
  rw [show l.length - k = (l.length - (k + 1)) + 1 from by omega, List.replicate_succ, List.set_cons_zero]
  rw [List.take_add_one, List.getElem?_eq_getElem hk, List.flatMap_append]
  simp [encF]

structure FillRel (w : World) (tb : Nat) (cv : Value) (t : T) (f : Ent → Int) (ib g k p : Nat) (wr : World) : Prop where
  it : ItIn wr ib 94 tb t p
  row : wr.ownsRow w.heap.size 20 1 (.slice (some ⟨g, 0, none⟩) t.ents.length t.ents.length) t.ents.length (filled (t.ents.map f) k)
  keep : Keep (fun _ => False) w wr

section
variable {w : World} {tb : Nat} {cv : Value} {t : T}
theorem FillRel.move {f : Ent → Int} {ib g k p p' : Nat} {wr w' : World} (h : FillRel w tb cv t f ib g k p wr) (hib : w.heap.size ≤ ib) (hne : g ≠ ib) (hi : ItIn w' ib 94 tb t p') (hk : Keep (fun i => i = ib) wr w') : FillRel w tb cv t f ib g k p' w' :=
  ⟨hi, ownsRow_congr h.row (fun g' hg => by obtain rfl : g = g' := Option.some.inj hg; exact hk.block g ((h.row.lt g rfl).2) hne), h.keep.freshKeep hib hk⟩
theorem FillRel.store {f : Ent → Int} {ib g k p : Nat} {wr : World} {e : Ent} (h : FillRel w tb cv t f ib g k p wr) (hne : g ≠ ib) (he : t.ents[k]? = some e) :
    FillRel w tb cv t f ib g (k + 1) p (wr.setCell ⟨g, k, none⟩ (.iface 3 (.int .i64 (f e)))) := by
  have hk : k < t.ents.length := by
    rcases Nat.lt_or_ge k t.ents.length with h' | h'
    · exact h'
    · rw [List.getElem?_eq_none h'] at he; cases he
  have hg := (h.row.lt g rfl).1
  refine ⟨?_, ?_, h.keep.freshSet hg _ _⟩
  · show (wr.setCell _ _).heap[ib]? = _
    rw [set_other (a := ⟨g, k, none⟩) (fun e => hne e.symm)]
    exact h.it
  · have := (h.row.stored k (.iface 3 (.int .i64 (f e)))).1
    have e2 : (t.ents.map f)[k]'(by simpa using hk) = f e := by
      rw [List.getElem_map]
      rw [List.getElem?_eq_getElem hk] at he
      rw [Option.some.inj he]
    rw [← e2, filled_set (t.ents.map f) k (by simpa using hk)] at this
    rw [← e2]
    exact this
theorem FillRel.cell {f : Ent → Int} {ib g k p : Nat} {wr : World} (h : FillRel w tb cv t f ib g k p wr) (hk : k < t.ents.length) : wr.cell? ⟨g, k, none⟩ = some .nilIface := by
  rw [h.row.cellAt k (by omega)]
  exact filled_at _ _ (by simpa using hk)

theorem treeKeys_any (ht : TreeIn w tb t.ents.length cv t) (hlen : t.ents.length ≤ 1000000) :
    Calls Try.prog 114 #[.pointer (some ⟨tb, 0, none⟩)] w fun e w' => ∃ v, e = .returned v ∧ RowIn w' w'.heap.size encF v (t.ents.map (fun e => e.2.1)) ∧ Keep (fun _ => False) w w' := by
  obtain ⟨i0, hi, hz0, hz1, hz2⟩ := parts20
  have HI := hid (And.intro hi (And.intro hz0 (And.intro hz1 hz2)))
  have t1 := tree_size ht.head
  have HT := hid ht
  have HL := hid hlen
  obtain ⟨n, hn⟩ : ∃ n, n = t.ents.length := ⟨_, rfl⟩
  have HN := hid hn
  rw [← hn] at t1
  clear hi hz0 hz1 hz2 ht hlen hn
  go_enter Try.func114, Try.ntmps114
  go_wp2_with (at_make; refine wpList_make_full _ rfl (.tmp 9) (.tmp 9) 120 rfl w.heap.size 20 i0 _ 1 Try.underlying120 HI.out.1 HI.out.2.1 HI.out.2.2.1 .i64 .i64 _ _ n rfl rfl rfl rfl (by rw [HI.out.2.2.2, HN.out]; have := HL.out; omega) (by rw [HN.out]; have := HL.out; unfold maxLen; omega) (Nat.le_refl _) ?_; intro w1 hown hgr; have O1 := hid hown; have K1 := hid (show Keep (fun _ => False) w w1 from Keep.grown (row := none) hgr (fun k hk => by cases hk)); clear hown hgr)
  refine (treeIterator_any w1 tb).mono ?_
  rintro e w2 ⟨rfl, hk2⟩
  have K2 := hid (K1.out.trans hk2)
  have O2 := hid (ownsRow_congr O1.out (w' := w2) (fun g hg => hk2.block g ((O1.out.lt g hg).2) id))
  clear hk2
  go_wp2_with (fail)
  go_loopw [5] (fun i wr => ∃ k : Nat, k ≤ n ∧ i = .int .i64 k ∧ FillRel w tb cv t (fun e => e.2.1) w2.heap.size w.heap.size k k wr) (fun i _ => n + 1 - (intOf i).toNat)
  case atStart =>
    refine ⟨0, Nat.zero_le _, rfl, ?_⟩
    refine ⟨heap_alloc_new w2 _, ?_, K2.out.alloc _⟩
    have := O2.out.alloc (.cells #[.pointer (some ⟨tb, 0, none⟩), .pointer none, .int .u8 0] 94)
    rw [HN.out] at this
    rw [filled_zero, List.length_map]
    simpa [Value.cells, toList_madeCells_one] using this
  case round =>
    obtain ⟨k, hk, rfl, hrel⟩ := hrel
    have HK := hid hk
    have HR := hid hrel
    clear hrel hk
    have hne : w.heap.size ≠ w2.heap.size := by have := (O2.out.lt w.heap.size rfl).2; omega
    have hib : w.heap.size ≤ w2.heap.size := K2.out.size
    have TW : TreeIn wr tb t.ents.length cv t := HT.out.keep HR.out.keep id (fun _ _ => id)
    have hd : w2.heap.size ≠ tb := by have := lt_of_heap HT.out.head; omega
    have hm : w2.heap.size ∉ t.ids := by intro hx; have := HT.out.lt hx; omega
    have NX := next_any HR.out.it TW hd hm (by rw [← HN.out]; have := HK.out; omega)
    have HD := hid (And.intro hne (And.intro hib (And.intro hd hm)))
    by_cases hlt : k < n
    · obtain ⟨e0, he0⟩ : ∃ e0, t.ents[k]? = some e0 := ⟨_, List.getElem?_eq_getElem (by rw [← HN.out]; exact hlt)⟩
      have NX1 := hid (show Calls Try.prog 118 #[.pointer (some ⟨w2.heap.size, 0, none⟩)] wr (MovePost wr w2.heap.size 94 tb t true (k + 1)) by
        have e1 : decide (k < t.ents.length) = true := decide_eq_true (by rw [← HN.out]; exact hlt)
        have e2 : min (k + 1) (t.ents.length + 1) = k + 1 := by rw [← HN.out]; omega
        rw [e1, e2] at NX
        exact NX)
      have HE := hid he0
      have TW := hid TW
      clear NX hne hib hd hm he0
      have hbn : n ≤ 1000000 := by have := HL.out; have := HN.out; omega
      go_wp2_with (fail)
      refine NX1.out.mono ?_
      rintro e wa ⟨rfl, hi, hk⟩
      have HR2 := hid (HR.out.move HD.out.2.1 HD.out.1 hi hk)
      clear hi hk
      obtain ⟨x, key, val⟩ := e0
      have KY := hid (key_any HR2.out.it (HT.out.keep HR2.out.keep id (fun _ _ => id)) HE.out)
      have hcell := HR2.out.cell (k := k) (by rw [← HN.out]; omega)
      have hfr : wa.frozen? ⟨w.heap.size, k, none⟩ = false := HR2.out.row.frozenAt k
      go_wp2_with (fail)
      refine KY.out.mono ?_
      rintro e w3 ⟨rfl, rfl⟩
      have HS := hid (HR2.out.store HD.out.1 HE.out)
      go_wp2_with (fail)
      go_roundw
      case rel => exact ⟨k + 1, by omega, by go_num, HS.out⟩
      case measure => simp [intOf]; omega
    · obtain rfl : n = k := by have := HK.out; omega
      have NX1 := hid (show Calls Try.prog 118 #[.pointer (some ⟨w2.heap.size, 0, none⟩)] wr (MovePost wr w2.heap.size 94 tb t false (n + 1)) by
        have e1 : decide (n < t.ents.length) = false := decide_eq_false (by rw [← HN.out]; omega)
        have e2 : min (n + 1) (t.ents.length + 1) = n + 1 := by rw [← HN.out]; omega
        rw [e1, e2] at NX
        exact NX)
      clear NX hne hib hd hm hlt TW
      go_wp2_with (fail)
      refine NX1.out.mono ?_
      rintro e wa ⟨rfl, hi, hk⟩
      have HR2 := hid (HR.out.move HD.out.2.1 HD.out.1 hi hk)
      clear hi hk
      go_wp2_with (fail)
      go_ret
      refine ⟨_, rfl, ?_, HR2.out.keep⟩
      have hrow := HR2.out.row
      have hf := filled_all (t.ents.map (fun e => e.2.1))
      rw [List.length_map] at hf
      rw [HN.out] at hrow ⊢
      rw [hf] at hrow
      exact RowIn.of_owns (sz := 1) (base := w.heap.size) (e := 20) (by rw [List.length_map]; exact hrow)

theorem treeValues_any (ht : TreeIn w tb t.ents.length cv t) (hlen : t.ents.length ≤ 1000000) :
    Calls Try.prog 115 #[.pointer (some ⟨tb, 0, none⟩)] w fun e w' => ∃ v, e = .returned v ∧ RowIn w' w'.heap.size encF v (t.ents.map (fun e => e.2.2)) ∧ Keep (fun _ => False) w w' := by
  obtain ⟨i0, hi, hz0, hz1, hz2⟩ := parts20
  have HI := hid (And.intro hi (And.intro hz0 (And.intro hz1 hz2)))
  have t1 := tree_size ht.head
  have HT := hid ht
  have HL := hid hlen
  obtain ⟨n, hn⟩ : ∃ n, n = t.ents.length := ⟨_, rfl⟩
  have HN := hid hn
  rw [← hn] at t1
  clear hi hz0 hz1 hz2 ht hlen hn
  go_enter Try.func115, Try.ntmps115
  go_wp2_with (at_make; refine wpList_make_full _ rfl (.tmp 9) (.tmp 9) 120 rfl w.heap.size 20 i0 _ 1 Try.underlying120 HI.out.1 HI.out.2.1 HI.out.2.2.1 .i64 .i64 _ _ n rfl rfl rfl rfl (by rw [HI.out.2.2.2, HN.out]; have := HL.out; omega) (by rw [HN.out]; have := HL.out; unfold maxLen; omega) (Nat.le_refl _) ?_; intro w1 hown hgr; have O1 := hid hown; have K1 := hid (show Keep (fun _ => False) w w1 from Keep.grown (row := none) hgr (fun k hk => by cases hk)); clear hown hgr)
  refine (treeIterator_any w1 tb).mono ?_
  rintro e w2 ⟨rfl, hk2⟩
  have K2 := hid (K1.out.trans hk2)
  have O2 := hid (ownsRow_congr O1.out (w' := w2) (fun g hg => hk2.block g ((O1.out.lt g hg).2) id))
  clear hk2
  go_wp2_with (fail)
  go_loopw [5] (fun i wr => ∃ k : Nat, k ≤ n ∧ i = .int .i64 k ∧ FillRel w tb cv t (fun e => e.2.2) w2.heap.size w.heap.size k k wr) (fun i _ => n + 1 - (intOf i).toNat)
  case atStart =>
    refine ⟨0, Nat.zero_le _, rfl, ?_⟩
    refine ⟨heap_alloc_new w2 _, ?_, K2.out.alloc _⟩
    have := O2.out.alloc (.cells #[.pointer (some ⟨tb, 0, none⟩), .pointer none, .int .u8 0] 94)
    rw [HN.out] at this
    rw [filled_zero, List.length_map]
    simpa [Value.cells, toList_madeCells_one] using this
  case round =>
    obtain ⟨k, hk, rfl, hrel⟩ := hrel
    have HK := hid hk
    have HR := hid hrel
    clear hrel hk
    have hne : w.heap.size ≠ w2.heap.size := by have := (O2.out.lt w.heap.size rfl).2; omega
    have hib : w.heap.size ≤ w2.heap.size := K2.out.size
    have TW : TreeIn wr tb t.ents.length cv t := HT.out.keep HR.out.keep id (fun _ _ => id)
    have hd : w2.heap.size ≠ tb := by have := lt_of_heap HT.out.head; omega
    have hm : w2.heap.size ∉ t.ids := by intro hx; have := HT.out.lt hx; omega
    have NX := next_any HR.out.it TW hd hm (by rw [← HN.out]; have := HK.out; omega)
    have HD := hid (And.intro hne (And.intro hib (And.intro hd hm)))
    by_cases hlt : k < n
    · obtain ⟨e0, he0⟩ : ∃ e0, t.ents[k]? = some e0 := ⟨_, List.getElem?_eq_getElem (by rw [← HN.out]; exact hlt)⟩
      have NX1 := hid (show Calls Try.prog 118 #[.pointer (some ⟨w2.heap.size, 0, none⟩)] wr (MovePost wr w2.heap.size 94 tb t true (k + 1)) by
        have e1 : decide (k < t.ents.length) = true := decide_eq_true (by rw [← HN.out]; exact hlt)
        have e2 : min (k + 1) (t.ents.length + 1) = k + 1 := by rw [← HN.out]; omega
        rw [e1, e2] at NX
        exact NX)
      have HE := hid he0
      have TW := hid TW
      clear NX hne hib hd hm he0
      have hbn : n ≤ 1000000 := by have := HL.out; have := HN.out; omega
      go_wp2_with (fail)
      refine NX1.out.mono ?_
      rintro e wa ⟨rfl, hi, hk⟩
      have HR2 := hid (HR.out.move HD.out.2.1 HD.out.1 hi hk)
      clear hi hk
      obtain ⟨x, key, val⟩ := e0
      have KY := hid (value_any HR2.out.it (HT.out.keep HR2.out.keep id (fun _ _ => id)) HE.out)
      have hcell := HR2.out.cell (k := k) (by rw [← HN.out]; omega)
      have hfr : wa.frozen? ⟨w.heap.size, k, none⟩ = false := HR2.out.row.frozenAt k
      go_wp2_with (fail)
      refine KY.out.mono ?_
      rintro e w3 ⟨rfl, rfl⟩
      have HS := hid (HR2.out.store HD.out.1 HE.out)
      go_wp2_with (fail)
      go_roundw
      case rel => exact ⟨k + 1, by omega, by go_num, HS.out⟩
      case measure => simp [intOf]; omega
    · obtain rfl : n = k := by have := HK.out; omega
      have NX1 := hid (show Calls Try.prog 118 #[.pointer (some ⟨w2.heap.size, 0, none⟩)] wr (MovePost wr w2.heap.size 94 tb t false (n + 1)) by
        have e1 : decide (n < t.ents.length) = false := decide_eq_false (by rw [← HN.out]; omega)
        have e2 : min (n + 1) (t.ents.length + 1) = n + 1 := by rw [← HN.out]; omega
        rw [e1, e2] at NX
        exact NX)
      clear NX hne hib hd hm hlt TW
      go_wp2_with (fail)
      refine NX1.out.mono ?_
      rintro e wa ⟨rfl, hi, hk⟩
      have HR2 := hid (HR.out.move HD.out.2.1 HD.out.1 hi hk)
      clear hi hk
      go_wp2_with (fail)
      go_ret
      refine ⟨_, rfl, ?_, HR2.out.keep⟩
      have hrow := HR2.out.row
      have hf := filled_all (t.ents.map (fun e => e.2.2))
      rw [List.length_map] at hf
      rw [HN.out] at hrow ⊢
      rw [hf] at hrow
      exact RowIn.of_owns (sz := 1) (base := w.heap.size) (e := 20) (by rw [List.length_map]; exact hrow)

end
end Go.Proofs.Ytdamfannmlncnaa

