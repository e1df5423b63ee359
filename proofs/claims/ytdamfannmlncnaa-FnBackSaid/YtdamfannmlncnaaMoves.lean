/- The iterator by its place: 0 ahead of all pairs, k + 1 at the pair k, n + 1 behind all. -/
import Derived.Test.YtdamfannmlncnaaNext
import Derived.Test.YtdamfannmlncnaaPrev
namespace Go.Proofs.Ytdamfannmlncnaa
open Go.RowKit
set_option linter.unusedVariables false
set_option linter.unusedSimpArgs false
set_option maxHeartbeats 1600000

def nodeAt (t : T) : Nat → Option Nat
  | 0 => none
  | p + 1 => (t.ents[p]?).map (·.1)
def posAt (t : T) (p : Nat) : Int := if p = 0 then 0 else if p ≤ t.ents.length then 1 else 2
def ItIn (w : World) (ib ty tb : Nat) (t : T) (p : Nat) : Prop := w.heap[ib]? = some (iterObj ty tb (nodeAt t p) (posAt t p))

theorem itIn_begin {w : World} {ib ty tb : Nat} {t : T} : ItIn w ib ty tb t 0 ↔ w.heap[ib]? = some (iterObj ty tb none 0) := Iff.rfl
theorem itIn_end {w : World} {ib ty tb : Nat} {t : T} : ItIn w ib ty tb t (t.ents.length + 1) ↔ w.heap[ib]? = some (iterObj ty tb none 2) := by
  unfold ItIn nodeAt posAt
  rw [if_neg (by omega), if_neg (by omega)]
  simp
theorem itIn_at {w : World} {ib ty tb : Nat} {t : T} {p : Nat} {e : Ent} (h : t.ents[p]? = some e) : ItIn w ib ty tb t (p + 1) ↔ w.heap[ib]? = some (iterObj ty tb (some e.1) 1) := by
  have hl : p < t.ents.length := by
    rcases Nat.lt_or_ge p t.ents.length with h' | h'
    · exact h'
    · rw [List.getElem?_eq_none h'] at h; cases h
  unfold ItIn nodeAt posAt
  rw [if_neg (by omega), if_pos (by omega)]
  simp [h]

theorem ItIn.keep {S : Nat → Prop} {w w' : World} {ib ty tb : Nat} {t : T} {p : Nat} (h : ItIn w ib ty tb t p) (hk : Keep S w w') (hs : ¬ S ib) : ItIn w' ib ty tb t p := hk.get h hs

/-- What a move to the place p comes to. -/
def MovePost (w : World) (ib ty tb : Nat) (t : T) (b : Bool) (p : Nat) (e : Ending) (w' : World) : Prop :=
  e = .returned (.bool b) ∧ ItIn w' ib ty tb t p ∧ Keep (fun i => i = ib) w w'

section
variable {w : World} {ib ty tb : Nat} {n : Int} {cv : Value} {t : T} {p : Nat}

theorem next_any (h : ItIn w ib ty tb t p) (ht : TreeIn w tb n cv t) (hd : ib ≠ tb) (hm : ib ∉ t.ids) (hp : p ≤ t.ents.length + 1) :
    Calls Try.prog 118 #[.pointer (some ⟨ib, 0, none⟩)] w (MovePost w ib ty tb t (decide (p < t.ents.length)) (min (p + 1) (t.ents.length + 1))) := by
  rcases Nat.eq_zero_or_pos p with rfl | hpos
  · rw [itIn_begin] at h
    cases hE : t.ents with
    | nil =>
      refine (next_begin_nil h ht hE).mono ?_
      rintro e w' ⟨rfl, h1, h2⟩
      exact ⟨rfl, by have := (itIn_end (t := t)).2 h1; rw [hE] at this; exact this, h2⟩
    | cons e0 E =>
      refine (next_begin_cons h ht (by rw [hE]; rfl)).mono ?_
      rintro e w' ⟨rfl, h1, h2⟩
      refine ⟨by simp, ?_, h2⟩
      have e1 : min (0 + 1) ((e0 :: E).length + 1) = 0 + 1 := by simp
      rw [e1]
      exact (itIn_at (by rw [hE]; rfl)).2 h1
  · obtain ⟨q, rfl⟩ : ∃ q, p = q + 1 := ⟨p - 1, by omega⟩
    rcases Nat.lt_or_ge q t.ents.length with hq | hq
    · -- at a pair
      obtain ⟨A, e0, B, hAB, hA⟩ : ∃ A e0 B, t.ents = A ++ e0 :: B ∧ A.length = q := by
        refine ⟨t.ents.take q, t.ents[q], t.ents.drop (q + 1), ?_, by simp; omega⟩
        rw [List.getElem_cons_drop hq, List.take_append_drop]
      have h0 : t.ents[q]? = some e0 := by rw [hAB, ← hA]; simp
      obtain ⟨cx, c, l, r, hz, hl⟩ := zip_split t .top A e0 B hAB
      simp only [Cx.plug, Cx.bents, List.nil_append] at hz hl
      have h := (itIn_at h0).1 h
      have hS : r.ents ++ cx.aents = B := by
        have := hAB
        rw [hz, plug_ents, T.ents] at this
        have e : cx.bents ++ (l.ents ++ (e0.1, e0.2.1, e0.2.2) :: r.ents) ++ cx.aents = (cx.bents ++ l.ents) ++ e0 :: (r.ents ++ cx.aents) := by simp
        rw [e, hl] at this
        exact (List.cons.inj (List.append_cancel_left this)).2
      have hlen : t.ents.length = q + 1 + B.length := by rw [hAB]; simp [hA]; omega
      have hB1 : ∀ e1 B', B = e1 :: B' → t.ents[q + 1]? = some e1 := by
        intro e1 B' hB
        rw [hAB, hB, List.getElem?_append_right (by omega)]
        rw [show q + 1 - A.length = 1 from by omega]
        rfl
      rw [hz] at ht hm
      have fin : ∀ e w', (B = [] ∧ ItPost w ib ty tb false none 2 e w') ∨ (∃ z, B.head?.map (·.1) = some z ∧ ItPost w ib ty tb true (some z) 1 e w') →
          MovePost w ib ty tb t (decide (q + 1 < t.ents.length)) (min (q + 1 + 1) (t.ents.length + 1)) e w' := by
        rintro e w' (⟨hB, rfl, h1, h2⟩ | ⟨z, hB, rfl, h1, h2⟩)
        · refine ⟨by rw [decide_eq_false]; rw [hlen, hB]; simp, ?_, h2⟩
          have e1 : min (q + 1 + 1) (t.ents.length + 1) = t.ents.length + 1 := by rw [hlen, hB]; simp
          rw [e1]
          exact itIn_end.2 h1
        · cases hBB : B with
          | nil => rw [hBB] at hB; cases hB
          | cons e1 B' =>
            rw [hBB] at hB
            obtain rfl : e1.1 = z := Option.some.inj hB
            refine ⟨by rw [decide_eq_true]; rw [hlen, hBB]; simp, ?_, h2⟩
            have e1 : min (q + 1 + 1) (t.ents.length + 1) = q + 1 + 1 := by rw [hlen, hBB]; simp
            rw [e1]
            exact (itIn_at (hB1 _ _ hBB)).2 h1
      cases r with
      | nil =>
        refine (next_up h ht hd hm).mono fun e w' hh => fin e w' ?_
        rw [show cx.aents = B from by rw [← hS]; rfl] at hh
        exact hh
      | node y yc yl yk yv yr => exact (next_down h ht hd hm hS).mono fun e w' hh => fin e w' (.inr hh)
    · obtain rfl : q = t.ents.length := by omega
      refine (next_end (itIn_end.1 h)).mono ?_
      rintro e w' ⟨rfl, h1, h2⟩
      refine ⟨by simp, ?_, h2⟩
      have e1 : min (t.ents.length + 1 + 1) (t.ents.length + 1) = t.ents.length + 1 := by omega
      rw [e1]
      exact itIn_end.2 h1

theorem prev_any (h : ItIn w ib ty tb t p) (ht : TreeIn w tb n cv t) (hd : ib ≠ tb) (hm : ib ∉ t.ids) (hp : p ≤ t.ents.length + 1) :
    Calls Try.prog 119 #[.pointer (some ⟨ib, 0, none⟩)] w (MovePost w ib ty tb t (decide (2 ≤ p)) (p - 1)) := by
  rcases Nat.eq_zero_or_pos p with rfl | hpos
  · rw [itIn_begin] at h
    refine (prev_end h).mono ?_
    rintro e w' ⟨rfl, h1, h2⟩
    exact ⟨rfl, h1, h2⟩
  · obtain ⟨q, rfl⟩ : ∃ q, p = q + 1 := ⟨p - 1, by omega⟩
    rcases Nat.lt_or_ge q t.ents.length with hq | hq
    · obtain ⟨A, e0, B, hAB, hA⟩ : ∃ A e0 B, t.ents = A ++ e0 :: B ∧ A.length = q := by
        refine ⟨t.ents.take q, t.ents[q], t.ents.drop (q + 1), ?_, by simp; omega⟩
        rw [List.getElem_cons_drop hq, List.take_append_drop]
      have h0 : t.ents[q]? = some e0 := by rw [hAB, ← hA]; simp
      obtain ⟨cx, c, l, r, hz, hl⟩ := zip_split t .top A e0 B hAB
      simp only [Cx.plug, Cx.bents, List.nil_append] at hz hl
      have h := (itIn_at h0).1 h
      rw [hz] at ht hm
      have fin : ∀ e w', (A = [] ∧ ItPost w ib ty tb false none 0 e w') ∨ (∃ z, A.getLast?.map (·.1) = some z ∧ ItPost w ib ty tb true (some z) 1 e w') →
          MovePost w ib ty tb t (decide (2 ≤ q + 1)) (q + 1 - 1) e w' := by
        rintro e w' (⟨hB, rfl, h1, h2⟩ | ⟨z, hB, rfl, h1, h2⟩)
        · rw [hB] at hA
          obtain rfl : 0 = q := hA
          exact ⟨rfl, h1, h2⟩
        · cases q with
          | zero => rw [List.length_eq_zero_iff.1 hA] at hB; cases hB
          | succ q =>
            rw [List.getLast?_eq_getElem?, hA] at hB
            simp only [Nat.add_sub_cancel] at hB
            cases hAq : A[q]? with
            | none => rw [hAq] at hB; cases hB
            | some e1 =>
              rw [hAq] at hB
              obtain rfl : e1.1 = z := Option.some.inj hB
              refine ⟨by rw [decide_eq_true]; omega, ?_, h2⟩
              refine (itIn_at ?_).2 h1
              rw [hAB, List.getElem?_append_left (by omega), hAq]
      cases l with
      | nil =>
        refine (prev_up h ht hd hm).mono fun e w' hh => fin e w' ?_
        rw [show cx.bents = A from by rw [← hl]; simp [T.ents]] at hh
        exact hh
      | node y yc yl yk yv yr => exact (prev_down h ht hd hm hl).mono fun e w' hh => fin e w' (.inr hh)
    · obtain rfl : q = t.ents.length := by omega
      rw [itIn_end] at h
      cases hE : t.ents.getLast? with
      | none =>
        have hE := List.getLast?_eq_none_iff.1 hE
        refine (prev_begin_nil h ht hE).mono ?_
        rintro e w' ⟨rfl, h1, h2⟩
        rw [hE]
        exact ⟨rfl, h1, h2⟩
      | some e0 =>
        have hE0 : t.ents.length ≠ 0 := by intro h0; rw [List.length_eq_zero_iff.1 h0] at hE; cases hE
        refine (prev_begin_cons h ht (by rw [hE]; rfl)).mono ?_
        rintro e w' ⟨rfl, h1, h2⟩
        refine ⟨by rw [decide_eq_true]; omega, ?_, h2⟩
        rw [List.getLast?_eq_getElem?] at hE
        obtain ⟨m, hm'⟩ : ∃ m, t.ents.length = m + 1 := ⟨t.ents.length - 1, by omega⟩
        rw [hm'] at hE ⊢
        exact (itIn_at hE).2 h1
theorem tree_ent {x : Nat} {k v : Int} (ht : TreeIn w tb n cv t) (h : t.ents[p]? = some (x, k, v)) : x ∈ t.ids ∧ ∃ c l r q, w.heap[x]? = some (nodeObj k v c l r q) := by
  have hq : p < t.ents.length := by
    rcases Nat.lt_or_ge p t.ents.length with h' | h'
    · exact h'
    · rw [List.getElem?_eq_none h'] at h; cases h
  have hAB : t.ents = t.ents.take p ++ (x, k, v) :: t.ents.drop (p + 1) := by
    have : t.ents[p] = (x, k, v) := by rw [List.getElem?_eq_getElem hq] at h; exact Option.some.inj h
    rw [← this, List.getElem_cons_drop hq, List.take_append_drop]
  obtain ⟨cx, c, l, r, hz, -⟩ := zip_split t .top _ _ _ hAB
  simp only [Cx.plug] at hz
  rw [hz] at ht
  exact ⟨by rw [hz, ids_plug, ids_node]; simp, c, _, _, _, ht.node⟩

theorem key_any {x : Nat} {k v : Int} (h : ItIn w ib ty tb t (p + 1)) (ht : TreeIn w tb n cv t) (he : t.ents[p]? = some (x, k, v)) :
    Calls Try.prog 124 #[.pointer (some ⟨ib, 0, none⟩)] w fun e w' => e = .returned (.iface 3 (.int .i64 k)) ∧ w = w' := by
  obtain ⟨-, c, l, r, q, hx⟩ := tree_ent ht he
  have hi := (itIn_at he).1 h
  have i1 : w.cell? ⟨ib, 1, none⟩ = some (.pointer (some ⟨x, 0, none⟩)) := it_node hi
  have x0 := node_key hx
  have H := hid (And.intro h (And.intro ht he))
  clear h ht he hi hx
  go_enter Try.func124, Try.ntmps124
  go_wp2
  go_ret
  exact ⟨rfl, rfl⟩

theorem value_any {x : Nat} {k v : Int} (h : ItIn w ib ty tb t (p + 1)) (ht : TreeIn w tb n cv t) (he : t.ents[p]? = some (x, k, v)) :
    Calls Try.prog 125 #[.pointer (some ⟨ib, 0, none⟩)] w fun e w' => e = .returned (.iface 3 (.int .i64 v)) ∧ w = w' := by
  obtain ⟨-, c, l, r, q, hx⟩ := tree_ent ht he
  have hi := (itIn_at he).1 h
  have i1 : w.cell? ⟨ib, 1, none⟩ = some (.pointer (some ⟨x, 0, none⟩)) := it_node hi
  have x0 := node_val hx
  have H := hid (And.intro h (And.intro ht he))
  clear h ht he hi hx
  go_enter Try.func125, Try.ntmps125
  go_wp2
  go_ret
  exact ⟨rfl, rfl⟩

theorem begin_any (h : ItIn w ib ty tb t p) :
    Calls Try.prog 122 #[.pointer (some ⟨ib, 0, none⟩)] w fun e w' => e = .returned (.tuple #[]) ∧ ItIn w' ib ty tb t 0 ∧ Keep (fun i => i = ib) w w' := by
  have i1 := it_node h
  have i2 := it_pos h
  have pl := it_plain h
  have H := hid h
  clear h
  go_enter Try.func122, Try.ntmps122
  go_wp2
  go_end0
  exact ⟨rfl, itIn_begin.2 (it_setPos (it_setNode H.out none) 0), ((Keep.refl _ _).one 1 _).one 2 _⟩

theorem end_any (h : ItIn w ib ty tb t p) :
    Calls Try.prog 123 #[.pointer (some ⟨ib, 0, none⟩)] w fun e w' => e = .returned (.tuple #[]) ∧ ItIn w' ib ty tb t (t.ents.length + 1) ∧ Keep (fun i => i = ib) w w' := by
  have i1 := it_node h
  have i2 := it_pos h
  have pl := it_plain h
  have H := hid h
  clear h
  go_enter Try.func123, Try.ntmps123
  go_wp2
  go_end0
  exact ⟨rfl, itIn_end.2 (it_setPos (it_setNode H.out none) 2), ((Keep.refl _ _).one 1 _).one 2 _⟩

theorem first_any (h : ItIn w ib ty tb t p) (ht : TreeIn w tb n cv t) (hd : ib ≠ tb) (hm : ib ∉ t.ids) :
    Calls Try.prog 120 #[.pointer (some ⟨ib, 0, none⟩)] w (MovePost w ib ty tb t (decide (0 < t.ents.length)) (min (0 + 1) (t.ents.length + 1))) := by
  have C := hid (begin_any h)
  have H := hid (And.intro ht (And.intro hd hm))
  clear h ht hd hm
  go_enter Try.func120, Try.ntmps120
  go_wp2_with (fail)
  refine C.out.mono ?_
  rintro e w1 ⟨rfl, h1, h2⟩
  have C2 := hid (next_any h1 (H.out.1.keep h2 (fun e => H.out.2.1 e.symm) (fun i hx e => H.out.2.2 (e ▸ hx))) H.out.2.1 H.out.2.2 (by omega))
  have H2 := hid (And.intro h1 h2)
  clear h1 h2
  go_wp2_with (fail)
  refine C2.out.mono ?_
  rintro e w2 ⟨rfl, h3, h4⟩
  have H3 := hid (And.intro h3 h4)
  clear h3 h4
  go_wp2_with (fail)
  go_ret
  exact ⟨rfl, H3.out.1, H2.out.2.trans H3.out.2⟩

theorem last_any (h : ItIn w ib ty tb t p) (ht : TreeIn w tb n cv t) (hd : ib ≠ tb) (hm : ib ∉ t.ids) :
    Calls Try.prog 121 #[.pointer (some ⟨ib, 0, none⟩)] w (MovePost w ib ty tb t (decide (1 ≤ t.ents.length)) t.ents.length) := by
  have C := hid (end_any h)
  have H := hid (And.intro ht (And.intro hd hm))
  clear h ht hd hm
  go_enter Try.func121, Try.ntmps121
  go_wp2_with (fail)
  refine C.out.mono ?_
  rintro e w1 ⟨rfl, h1, h2⟩
  have C2 := hid (prev_any h1 (H.out.1.keep h2 (fun e => H.out.2.1 e.symm) (fun i hx e => H.out.2.2 (e ▸ hx))) H.out.2.1 H.out.2.2 (by omega))
  have H2 := hid (And.intro h1 h2)
  clear h1 h2
  go_wp2_with (fail)
  refine C2.out.mono ?_
  rintro e w2 ⟨rfl, h3, h4⟩
  have H3 := hid (And.intro h3 h4)
  clear h3 h4
  go_wp2_with (fail)
  go_ret
  exact ⟨rfl, H3.out.1, H2.out.2.trans H3.out.2⟩

theorem mnext_any (h : ItIn w ib ty tb t p) (ht : TreeIn w tb n cv t) (hd : ib ≠ tb) (hm : ib ∉ t.ids) (hp : p ≤ t.ents.length + 1) :
    Calls Try.prog 92 #[.pointer (some ⟨ib, 0, none⟩)] w (MovePost w ib ty tb t (decide (p < t.ents.length)) (min (p + 1) (t.ents.length + 1))) := by
  have C := hid (next_any h ht hd hm hp)
  clear h ht hd hm hp
  go_enter Try.func92, Try.ntmps92
  go_wp2_with (fail)
  refine C.out.mono ?_
  rintro e w1 ⟨rfl, h1, h2⟩
  have H2 := hid (And.intro h1 h2)
  clear h1 h2
  go_wp2_with (fail)
  go_ret
  exact ⟨rfl, H2.out⟩

theorem mprev_any (h : ItIn w ib ty tb t p) (ht : TreeIn w tb n cv t) (hd : ib ≠ tb) (hm : ib ∉ t.ids) (hp : p ≤ t.ents.length + 1) :
    Calls Try.prog 93 #[.pointer (some ⟨ib, 0, none⟩)] w (MovePost w ib ty tb t (decide (2 ≤ p)) (p - 1)) := by
  have C := hid (prev_any h ht hd hm hp)
  clear h ht hd hm hp
  go_enter Try.func93, Try.ntmps93
  go_wp2_with (fail)
  refine C.out.mono ?_
  rintro e w1 ⟨rfl, h1, h2⟩
  have H2 := hid (And.intro h1 h2)
  clear h1 h2
  go_wp2_with (fail)
  go_ret
  exact ⟨rfl, H2.out⟩

theorem mfirst_any (h : ItIn w ib ty tb t p) (ht : TreeIn w tb n cv t) (hd : ib ≠ tb) (hm : ib ∉ t.ids) :
    Calls Try.prog 94 #[.pointer (some ⟨ib, 0, none⟩)] w (MovePost w ib ty tb t (decide (0 < t.ents.length)) (min (0 + 1) (t.ents.length + 1))) := by
  have C := hid (first_any h ht hd hm)
  clear h ht hd hm 
  go_enter Try.func94, Try.ntmps94
  go_wp2_with (fail)
  refine C.out.mono ?_
  rintro e w1 ⟨rfl, h1, h2⟩
  have H2 := hid (And.intro h1 h2)
  clear h1 h2
  go_wp2_with (fail)
  go_ret
  exact ⟨rfl, H2.out⟩

theorem mlast_any (h : ItIn w ib ty tb t p) (ht : TreeIn w tb n cv t) (hd : ib ≠ tb) (hm : ib ∉ t.ids) :
    Calls Try.prog 95 #[.pointer (some ⟨ib, 0, none⟩)] w (MovePost w ib ty tb t (decide (1 ≤ t.ents.length)) t.ents.length) := by
  have C := hid (last_any h ht hd hm)
  clear h ht hd hm 
  go_enter Try.func95, Try.ntmps95
  go_wp2_with (fail)
  refine C.out.mono ?_
  rintro e w1 ⟨rfl, h1, h2⟩
  have H2 := hid (And.intro h1 h2)
  clear h1 h2
  go_wp2_with (fail)
  go_ret
  exact ⟨rfl, H2.out⟩

theorem mbegin_any (h : ItIn w ib ty tb t p) :
    Calls Try.prog 96 #[.pointer (some ⟨ib, 0, none⟩)] w fun e w' => e = .returned (.tuple #[]) ∧ ItIn w' ib ty tb t 0 ∧ Keep (fun i => i = ib) w w' := by
  have C := hid (begin_any h)
  clear h
  go_enter Try.func96, Try.ntmps96
  go_wp2_with (fail)
  refine C.out.mono ?_
  rintro e w1 ⟨rfl, h1, h2⟩
  have H2 := hid (And.intro h1 h2)
  clear h1 h2
  go_wp2_with (fail)
  go_end0
  exact ⟨rfl, H2.out⟩

theorem mend_any (h : ItIn w ib ty tb t p) :
    Calls Try.prog 97 #[.pointer (some ⟨ib, 0, none⟩)] w fun e w' => e = .returned (.tuple #[]) ∧ ItIn w' ib ty tb t (t.ents.length + 1) ∧ Keep (fun i => i = ib) w w' := by
  have C := hid (end_any h)
  clear h
  go_enter Try.func97, Try.ntmps97
  go_wp2_with (fail)
  refine C.out.mono ?_
  rintro e w1 ⟨rfl, h1, h2⟩
  have H2 := hid (And.intro h1 h2)
  clear h1 h2
  go_wp2_with (fail)
  go_end0
  exact ⟨rfl, H2.out⟩

theorem mkey_any {x : Nat} {k v : Int} (h : ItIn w ib ty tb t (p + 1)) (ht : TreeIn w tb n cv t) (he : t.ents[p]? = some (x, k, v)) :
    Calls Try.prog 100 #[.pointer (some ⟨ib, 0, none⟩)] w fun e w' => e = .returned (.iface 3 (.int .i64 k)) ∧ w = w' := by
  have C := hid (key_any h ht he)
  clear h ht he
  go_enter Try.func100, Try.ntmps100
  go_wp2_with (fail)
  refine C.out.mono ?_
  rintro e w1 ⟨rfl, rfl⟩
  go_wp2_with (fail)
  go_ret
  exact ⟨rfl, rfl⟩

theorem mvalue_any {x : Nat} {k v : Int} (h : ItIn w ib ty tb t (p + 1)) (ht : TreeIn w tb n cv t) (he : t.ents[p]? = some (x, k, v)) :
    Calls Try.prog 101 #[.pointer (some ⟨ib, 0, none⟩)] w fun e w' => e = .returned (.iface 3 (.int .i64 v)) ∧ w = w' := by
  have C := hid (value_any h ht he)
  clear h ht he
  go_enter Try.func101, Try.ntmps101
  go_wp2_with (fail)
  refine C.out.mono ?_
  rintro e w1 ⟨rfl, rfl⟩
  go_wp2_with (fail)
  go_ret
  exact ⟨rfl, rfl⟩
end
theorem treeIterator_any (w : World) (tb : Nat) :
    Calls Try.prog 90 #[.pointer (some ⟨tb, 0, none⟩)] w fun e w' => e = .returned (.agg #[.pointer (some ⟨tb, 0, none⟩), .pointer none, .int .u8 0]) ∧ Keep (fun _ => False) w w' := by
  go_enter Try.func90, Try.ntmps90
  go_wp2
  refine bodyPost_ret (v := .agg #[.pointer (some ⟨tb, 0, none⟩), .pointer none, .int .u8 0]) (by simp [results, Try.results90, go_sem]) rfl ?_
  exact ⟨rfl, (Keep.refl _ _).alloc _⟩

end Go.Proofs.Ytdamfannmlncnaa
