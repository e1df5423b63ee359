/- The reference's State walked: what a list of pairs tells of itself. -/
import Derived.Test.YtdamfannmlncnaaRun
import Derived.Maps.AppendAt
namespace Go.Proofs.Ytdamfannmlncnaa
open Go.RowKit
set_option linter.unusedVariables false
set_option linter.unusedSimpArgs false
set_option maxHeartbeats 1600000

/-- State's work in hand: the state in block sb, its keys and its values in two rows apart from it and from each other. -/
structure St2 (w : World) (sb n : Nat) (e : Bool) (c0 c1 kv vv : Value) (nk nv : Nat) (ks vs : List Value) (W : World) : Prop where
  head : W.heap[sb]? = some (.cells #[c0, c1, .int .i64 n, .bool e] 34 (0, 0))
  rk : W.ownsRow (w.heap.size + 1) 3 1 kv nk ks
  rv : W.ownsRow (w.heap.size + 1) 3 1 vv nv vs
  ak : kv.ownBlock ≠ some sb
  av : vv.ownBlock ≠ some sb
  ne : ∀ g, kv.ownBlock = some g → vv.ownBlock ≠ some g
  keep : Keep (fun _ => False) (w.alloc stateZero) W
namespace St2
variable {w W W' : World} {sb n : Nat} {e : Bool} {c0 c1 kv vv kv' vv' : Value} {nk nv nk' nv' : Nat} {ks vs ks' vs' : List Value}
theorem cells (h : St2 w sb n e c0 c1 kv vv nk nv ks vs W) : W.cell? ⟨sb, 0, none⟩ = some c0 ∧ W.cell? ⟨sb, 1, none⟩ = some c1 ∧ W.cell? ⟨sb, 2, none⟩ = some (.int .i64 n) ∧ W.cell? ⟨sb, 3, none⟩ = some (.bool e) := by
  simp [World.cell?, h.head]
theorem plain (h : St2 w sb n e c0 c1 kv vv nk nv ks vs W) : Plain W sb := ⟨_, _, h.head⟩
theorem alloc (h : St2 w sb n e c0 c1 kv vv nk nv ks vs W) (o : Obj) : St2 w sb n e c0 c1 kv vv nk nv ks vs (W.alloc o) :=
  ⟨by rw [Below.heap_alloc _ _ _ (lt_of_heap h.head)]; exact h.head, h.rk.alloc o, h.rv.alloc o, h.ak, h.av, h.ne, h.keep.alloc o⟩
theorem kept {base : Nat} {v : Value} {k : Nat} {xs : List Value} (hk : Keep (fun _ => False) (w.alloc stateZero) W) (hr : W.ownsRow (w.heap.size + 1) 3 1 v k xs) (hg : W.grownBy W' v.ownBlock) : Keep (fun _ => False) (w.alloc stateZero) W' :=
  keep_app (e := 3) (sz := 1) hk (by simpa using hr) hg
theorem appK (h : St2 w sb n e c0 c1 kv vv nk nv ks vs W) (ho : W'.ownsRow (w.heap.size + 1) 3 1 kv' nk' ks') (hg : W.grownBy W' kv.ownBlock) (ha : kv'.ownBlock = kv.ownBlock ∨ kv'.ownBlock = some W.heap.size) : St2 w sb n e c0 c1 kv' vv nk' nv ks' vs W' := by
  refine ⟨by rw [hg.block _ (lt_of_heap h.head) (fun e => h.ak e.symm)]; exact h.head, ho, h.rv.kept hg ?_, ?_, h.av, ?_, kept (base := 0) h.keep h.rk hg⟩
  · cases hv : vv.ownBlock with
    | none => exact .inl rfl
    | some g => exact .inr fun e => h.ne g e.symm hv
  · rcases ha with ha | ha
    · rw [ha]; exact h.ak
    · rw [ha]; intro e; have := lt_of_heap h.head; have := Option.some.inj e; omega
  · intro g hk hv
    rcases ha with ha | ha
    · exact h.ne g (ha ▸ hk) hv
    · rw [ha] at hk; have := Option.some.inj hk; have := (h.rv.lt g hv).2; omega
theorem appV (h : St2 w sb n e c0 c1 kv vv nk nv ks vs W) (ho : W'.ownsRow (w.heap.size + 1) 3 1 vv' nv' vs') (hg : W.grownBy W' vv.ownBlock) (ha : vv'.ownBlock = vv.ownBlock ∨ vv'.ownBlock = some W.heap.size) : St2 w sb n e c0 c1 kv vv' nk nv' ks vs' W' := by
  refine ⟨by rw [hg.block _ (lt_of_heap h.head) (fun e => h.av e.symm)]; exact h.head, h.rk.kept hg ?_, ho, h.ak, ?_, ?_, kept (base := 0) h.keep h.rv hg⟩
  · cases hv : kv.ownBlock with
    | none => exact .inl rfl
    | some g => exact .inr fun e => h.ne g hv e.symm
  · rcases ha with ha | ha
    · rw [ha]; exact h.av
    · rw [ha]; intro e; have := lt_of_heap h.head; have := Option.some.inj e; omega
  · intro g hk hv
    rcases ha with ha | ha
    · exact h.ne g hk (ha ▸ hv)
    · rw [ha] at hv; have := Option.some.inj hv; have := (h.rk.lt g hk).2; omega
theorem row_off {base : Nat} {v : Value} {k : Nat} {xs : List Value} (h : W.ownsRow base 3 1 v k xs) (hb : v.ownBlock ≠ some sb) (o : Nat) (u : Value) : (W.setCell ⟨sb, o, none⟩ u).ownsRow base 3 1 v k xs :=
  ownsRow_congr h fun g hg => set_other (a := ⟨sb, o, none⟩) (fun e => hb (by rw [hg]; simp only at e; rw [e])) u
theorem set0 (h : St2 w sb n e c0 c1 kv vv nk nv ks vs W) (hs : w.heap.size < sb) (u : Value) : St2 w sb n e u c1 kv vv nk nv ks vs (W.setCell ⟨sb, 0, none⟩ u) :=
  ⟨by rw [heap_set (a := ⟨sb, 0, none⟩) h.head rfl]; simp, row_off h.rk h.ak _ _, row_off h.rv h.av _ _, h.ak, h.av, h.ne, h.keep.freshSet (by simp; omega) _ _⟩
theorem set1 (h : St2 w sb n e c0 c1 kv vv nk nv ks vs W) (hs : w.heap.size < sb) (u : Value) : St2 w sb n e c0 u kv vv nk nv ks vs (W.setCell ⟨sb, 1, none⟩ u) :=
  ⟨by rw [heap_set (a := ⟨sb, 1, none⟩) h.head rfl]; simp, row_off h.rk h.ak _ _, row_off h.rv h.av _ _, h.ak, h.av, h.ne, h.keep.freshSet (by simp; omega) _ _⟩
end St2

/-- What stands at the head of State's round. -/
def StRel (w : World) (n : Nat) (e : Bool) (L : List (Int × Int)) (k : Nat) (wr : World) : Prop :=
  ∃ kv vv, St2 w (w.heap.size + 3) n e kv vv kv vv k k (((L.take k).map (·.1)).flatMap encN) (((L.take k).map (·.2)).flatMap encN) wr

theorem cellA {W : World} {b o : Nat} {v : Value} (h : W.cell? ⟨b, o, none⟩ = some v) (O : Obj) : (W.alloc O).cell? ⟨b, o, none⟩ = some v := by
  rw [World.cell?_alloc_lt _ _ _ (World.block_lt_of_cell? _ _ h)]; exact h
theorem cellA2 {W : World} {b o : Nat} {v : Value} (h : W.cell? ⟨b, o, none⟩ = some v) : ∀ O, (W.alloc O).cell? ⟨b, o, none⟩ = some v := cellA h

theorem one_src (W : World) (x : Int) {g : Nat} (hg : W.heap.size = g) : ∀ j u, (encN x)[j]? = some u → (W.alloc (.cells #[.int .i64 x] 3)).cell? ((⟨g, 0, none⟩ : Addr).add j) = some u := fun j u hu => by
  subst hg
  rw [add_off, Nat.zero_add, World.cell?_alloc_new]; simpa [encN] using hu
theorem pair_kept {wr w1 : World} {x y : Int} {cs : Array Value} {row : Option Nat} (hg : ((wr.alloc (.cells #[.int .i64 x, .int .i64 y] 57)).alloc (.cells cs 3)).grownBy w1 row) (hr : ∀ g, row = some g → g < wr.heap.size) : w1.cell? ⟨wr.heap.size, 1, none⟩ = some (.int .i64 y) := by
  rw [World.cell?_of_block (w' := w1) (hg.block wr.heap.size (by simp; omega) (fun e => by have := hr _ e.symm; omega))]
  exact cellA (by rw [World.cell?_alloc_new]; rfl) _

theorem State_start (w : World) (n : Nat) (e : Bool) : St2 w (w.heap.size + 3) n e (.slice (some ⟨w.heap.size + 1, 0, none⟩) 0 0) (.slice (some ⟨w.heap.size + 2, 0, none⟩) 0 0) (.slice (some ⟨w.heap.size + 1, 0, none⟩) 0 0) (.slice (some ⟨w.heap.size + 2, 0, none⟩) 0 0) 0 0 [] []
    ((((w.alloc stateZero).alloc (.cells #[] 3)).alloc (.cells #[] 3)).alloc (.cells #[.slice (some ⟨w.heap.size + 1, 0, none⟩) 0 0, .slice (some ⟨w.heap.size + 2, 0, none⟩) 0 0, .int .i64 n, .bool e] 34)) := by
  refine ⟨?_, ?_, ?_, by simp [Value.ownBlock], by simp [Value.ownBlock], by simp [Value.ownBlock], (((Keep.refl _ _).alloc _).alloc _).alloc _⟩
  · simpa using heap_alloc_new (((w.alloc stateZero).alloc (.cells #[] 3)).alloc (.cells #[] 3)) (.cells #[.slice (some ⟨w.heap.size + 1, 0, none⟩) 0 0, .slice (some ⟨w.heap.size + 2, 0, none⟩) 0 0, .int .i64 n, .bool e] 34)
  · exact ((owns_empty _ 3 1 _ (by simp) _ (by omega)).alloc _).alloc _
  · exact (owns_empty _ 3 1 _ (by simp) _ (by omega)).alloc _

set_option maxRecDepth 100000 in
set_option maxHeartbeats 3200000 in
theorem State_any {w : World} {v : Value} {L : List (Int × Int)} (h : RowIn w w.heap.size encP v L) (hlen : L.length ≤ 100000) :
    Calls Try.prog 36 #[v] w fun e w' => ∃ sv, e = .returned sv ∧ StateIn w' w.heap.size sv L ∧ Keep (fun _ => False) w w' := by
  obtain ⟨i0, hi, hz0, hz1, hz2⟩ := parts3
  have HI := hid (And.intro hi (And.intro hz0 (And.intro hz1 hz2)))
  clear hi hz0 hz1 hz2
  obtain ⟨ao, cap0, rfl⟩ := h.len
  obtain ⟨n, hn⟩ : ∃ n, n = L.length := ⟨_, rfl⟩
  obtain ⟨ee, hee⟩ : ∃ e, e = (n == 0) := ⟨_, rfl⟩
  have HN := hid (And.intro hn hee)
  rw [← hn] at hlen ⊢
  have SS := hid (State_start w n ee)
  have hd : ((n : Int) == 0) = ee := by rw [hee]; cases n <;> simp <;> omega
  have H := hid h
  clear h hn hee
  go_enter Try.func36, Try.ntmps36
  go_wp2_with (fail)
  go_loopw [16] (fun i wr => ∃ k : Nat, k ≤ n ∧ i = .int .i64 k ∧ StRel w n ee L k wr) (fun i _ => n - (intOf i).toNat)
  case atStart => exact ⟨0, Nat.zero_le _, rfl, _, _, SS.out⟩
  case round =>
    obtain ⟨k, hk, rfl, hrel⟩ := hrel
    obtain ⟨kv, vv, hst⟩ := hrel
    have HS := hid hst
    have hs3 : w.heap.size < w.heap.size + 3 := by omega
    by_cases hlt : k < n
    · have hkL : k < L.length := by rw [← HN.out.1]; exact hlt
      rcases H.out with ⟨hL, -⟩ | ⟨b, off, cap, hv, hb, hc⟩
      · rw [hL] at hkL; simp at hkL
      · simp only [Value.slice.injEq] at hv
        obtain ⟨rfl, -, rfl⟩ := hv
        obtain ⟨p, hp⟩ : ∃ p, L[k] = p := ⟨_, rfl⟩
        obtain ⟨x, y⟩ := p
        have cx := pair_cells hc k hkL
        rw [hp] at cx
        have KW : Keep (fun _ => False) w wr := ((Keep.refl _ _).alloc _).trans hst.keep
        have z0 := KW.cell cx.1 id
        have z1 := KW.cell cx.2 id
        have HT := hid (show L.take (k + 1) = L.take k ++ [(x, y)] by rw [List.take_succ_eq_append_getElem hkL, hp])
        obtain ⟨a0, a1, -, -⟩ := hst.cells
        have g0 := cellA2 a0
        have HKV := hid (fun g (hg : kv.ownBlock = some g) => (hst.rk.lt g hg).2)
        have HVV := hid (fun g (hg : vv.ownBlock = some g) => (hst.rv.lt g hg).2)
        have HW := hid KW
        clear hst hp cx hkL hb hc KW a0 a1
        go_wp2_with (first
          | (at_builtin; refine wpList_append_own_at _ rfl (.tmp 21) (.tmp 24) 32 rfl (w.heap.size + 1) 3 i0 _ 1 8 Try.underlying32 HI.out.1 HI.out.2.1 HI.out.2.2.1 HI.out.2.2.2 rfl (by decide) kv k _ rfl ((HS.out.alloc _).alloc _).rk _ 1 _ (encN x) rfl (by rfl) (one_src _ _ (by simp)) (encN_one x) (by unfold maxLen; omega) (by omega) (by have := HS.out.keep.size; simp at *; omega) ?_; intro v1 w1 hown hgr hnil hat; obtain ⟨g1, d1, rfl⟩ := owns_len hown; have A1 := hid (((HS.out.alloc _).alloc _).appK hown hgr hat); obtain ⟨b0, b1, -, -⟩ := A1.out.cells; have bp := A1.out.plain; have q1 := pair_kept hgr HKV.out; have A2 := hid (A1.out.set0 hs3 (.slice g1 (k + 1) d1)); clear hown hgr hnil hat)
          | (at_builtin; refine wpList_append_own_at _ rfl (.tmp 28) (.tmp 31) 32 rfl (w.heap.size + 1) 3 i0 _ 1 8 Try.underlying32 HI.out.1 HI.out.2.1 HI.out.2.2.1 HI.out.2.2.2 rfl (by decide) vv k _ rfl (A2.out.alloc _).rv _ 1 _ (encN y) rfl (by rfl) (one_src _ _ (by simp)) (encN_one y) (by unfold maxLen; omega) (by omega) (by have := A2.out.keep.size; simp at *; omega) ?_; intro v2 w2 hown hgr hnil hat; obtain ⟨g2, d2, rfl⟩ := owns_len hown; have A3 := hid ((A2.out.alloc _).appV hown hgr hat); have bp2 := A3.out.plain; obtain ⟨-, e1, -, -⟩ := A3.out.cells; have A4 := hid (A3.out.set1 hs3 (.slice g2 (k + 1) d2)); clear hown hgr hnil hat)
          | fail)
        go_roundw
        case rel => exact ⟨k + 1, by omega, by go_num, _, _, by rw [HT.out]; simpa [encN] using A4.out⟩
        case measure => simp [intOf]; omega
    · obtain rfl : n = k := by omega
      have e1 : L.take n = L := by rw [HN.out.1, List.take_length]
      rw [e1] at hst
      obtain ⟨a0, a1, a2, a3⟩ := hst.cells
      have z : wr.heap[w.heap.size]? = some (.cells #[.slice none 0 0, .slice none 0 0, .int .i64 0, .bool false] 34 (0, 0)) := hst.keep.get (heap_alloc_new w _) id
      have z0 : wr.cell? ⟨w.heap.size, 0, none⟩ = some (.slice none 0 0) := by simp [World.cell?, z]
      have z1 : wr.cell? ⟨w.heap.size, 1, none⟩ = some (.slice none 0 0) := by simp [World.cell?, z]
      have z2 : wr.cell? ⟨w.heap.size, 2, none⟩ = some (.int .i64 0) := by simp [World.cell?, z]
      have z3 : wr.cell? ⟨w.heap.size, 3, none⟩ = some (.bool false) := by simp [World.cell?, z]
      have pl : Plain wr w.heap.size := ⟨_, _, z⟩
      have HF := hid hst
      obtain ⟨k1, d1, rfl⟩ := owns_len hst.rk
      obtain ⟨k2, d2, rfl⟩ := owns_len hst.rv
      clear HS hst z e1
      go_wp2_with (fail)
      refine bodyPost_ret (v := .agg #[.slice k1 n d1, .slice k2 n d2, .int .i64 n, .bool ee]) (by simp [results, Try.results36, go_sem, z0, z1, z2, z3]) rfl ?_
      obtain ⟨hn, he⟩ := HN.out
      subst he
      subst hn
      have KF : Keep (fun _ => False) w wr := ((Keep.refl _ _).alloc _).trans HF.out.keep
      refine ⟨_, rfl, StateIn.mono (StateIn.off (StateIn.off (StateIn.off (StateIn.off ⟨k1, d1, k2, d2, rfl, HF.out.rk, HF.out.rv⟩ (Nat.lt_succ_self _) _ _) (Nat.lt_succ_self _) _ _) (Nat.lt_succ_self _) _ _) (Nat.lt_succ_self _) _ _) (Nat.le_succ _), (((KF.freshSet (Nat.le_refl _) _ _).freshSet (Nat.le_refl _) _ _).freshSet (Nat.le_refl _) _ _).freshSet (Nat.le_refl _) _ _⟩
end Go.Proofs.Ytdamfannmlncnaa
