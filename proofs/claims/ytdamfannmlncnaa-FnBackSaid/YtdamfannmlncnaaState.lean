/- What a map tells of itself: its keys, its values, its size, whether it is empty. -/
import Derived.Test.YtdamfannmlncnaaKeys
import Derived.Test.YtdamfannmlncnaaPutGet
namespace Go.Proofs.Ytdamfannmlncnaa
open Go.RowKit
set_option linter.unusedVariables false
set_option linter.unusedSimpArgs false
set_option maxHeartbeats 1600000

theorem info3 : (Try.prog.info? 3).map (fun i => (i.zero, i.size, i.bytes)) = some (some (.int .i64 0), 1, 8) := by kernel_rfl
theorem parts3 : ∃ i, Try.prog.info? 3 = some i ∧ i.zero = some (.int .i64 0) ∧ i.size = 1 ∧ i.bytes = 8 := by
  have h := info3
  cases hi : Try.prog.info? 3 with
  | none => rw [hi] at h; cases h
  | some i => rw [hi] at h; simp only [Option.map_some, Option.some.injEq, Prod.mk.injEq] at h; exact ⟨i, rfl, h.1, h.2.1, h.2.2⟩

/-- What has been gathered of the numbers. -/
structure NumRel (w : World) (l : List Int) (k : Nat) (out : Value) (wr : World) : Prop where
  row : wr.ownsRow w.heap.size 3 1 out k ((l.take k).flatMap encN)
  keep : Keep (fun _ => False) w wr

theorem one_cells {l : List Int} {enc : Int → List Value} {w : World} {b off : Nat} (he : ∀ x, (enc x).length = 1) (hc : ∀ j u, (l.flatMap enc)[j]? = some u → w.cell? ⟨b, off + j, none⟩ = some u)
    {k : Nat} (hk : k < l.length) {u : Value} (hu : enc l[k] = [u]) : w.cell? ⟨b, off + k, none⟩ = some u := by
  refine hc k u ?_
  have := flat_get he l k hk 0 (by omega)
  rw [Nat.mul_one, Nat.add_zero, hu] at this
  exact this

theorem numbers_any {w : World} {v : Value} {l : List Int} (h : RowIn w w.heap.size encF v l) (hlen : l.length ≤ 1000000) :
    Calls Try.prog 85 #[v] w fun e w' => ∃ v', e = .returned v' ∧ w'.ownsRow w.heap.size 3 1 v' l.length (l.flatMap encN) ∧ Keep (fun _ => False) w w' := by
  obtain ⟨i0, hi, hz0, hz1, hz2⟩ := parts3
  have HI := hid (And.intro hi (And.intro hz0 (And.intro hz1 hz2)))
  clear hi hz0 hz1 hz2
  obtain ⟨ao, cap0, hav⟩ := h.len
  rcases h with ⟨rfl, _⟩ | ⟨b, off, cap, rfl, hb, hc⟩
  · subst hav
    clear hlen
    go_enter Try.func85, Try.ntmps85
    go_wp2_with (fail)
    refine wp_loop_rounds 1 ?_
    rw [rounds_succ]
    go_wp2_with (fail)
    go_ret
    exact ⟨_, rfl, World.ownsRow_made _ #[] 0 (Nat.le_refl _) (by decide) rfl, (Keep.refl _ _).alloc _⟩
  · have HC := hid (And.intro hb hc)
    have HL := hid hlen
    obtain ⟨n, hn⟩ : ∃ n, n = l.length := ⟨_, rfl⟩
    have HN := hid hn
    rw [← hn]
    clear hb hc hav hlen hn
    go_enter Try.func85, Try.ntmps85
    go_wp2_with (fail)
    go_loopw [3, 5, 9] (fun out x i wr => ∃ k : Nat, k ≤ n ∧ i = .int .i64 k ∧ NumRel w l k out wr) (fun _ _ i _ => n - (intOf i).toNat)
    case atStart => exact ⟨0, Nat.zero_le _, rfl, World.ownsRow_made _ #[] 0 (Nat.le_refl _) (by decide) rfl, (Keep.refl _ _).alloc _⟩
    case round =>
      obtain ⟨k, hk, rfl, hrel⟩ := hrel
      have HR := hid hrel
      clear hrel
      by_cases hlt : k < n
      · have hb1 : n ≤ 1000000 := by have := HL.out; have := HN.out; omega
        have hk' : k < l.length := by rw [← HN.out]; exact hlt
        have c0 : wr.cell? ⟨b, off + k, none⟩ = some (.iface 3 (.int .i64 l[k])) := HR.out.keep.cell (one_cells encF_len HC.out.2 hk' rfl) id
        obtain ⟨x, hx⟩ : ∃ x, l[k] = x := ⟨_, rfl⟩
        rw [hx] at c0
        have HX := hid (show l.take (k + 1) = l.take k ++ [x] by rw [List.take_succ_eq_append_getElem hk', hx])
        clear hx hk'
        go_wp2_with (at_builtin; refine wpList_app rfl (.tmp 13) (.tmp 16) 32 rfl w.heap.size 3 i0 _ 1 8 Try.underlying32 HI.out.1 HI.out.2.1 HI.out.2.2.1 HI.out.2.2.2 rfl (by decide) _ k _ rfl (HR.out.row.alloc _) _ 1 _ rfl (src_one wr (encN x) 3 1 rfl (encN_one _)) (by unfold maxLen; omega) (by omega) (by have := HR.out.keep.size; simp at *; omega) ?_; intro v2 w3 hown hgr; have K3 := hid (keep_app (HR.out.keep.alloc _) (HR.out.row.alloc _) hgr); have O3 := hid hown; clear hown hgr)
        have HS : NumRel w l (k + 1) v2 w3 := by
          refine ⟨?_, K3.out⟩
          rw [HX.out, List.flatMap_append]
          simpa [encN] using O3.out
        have HS := hid HS
        go_wp2_with (fail)
        go_roundw
        case rel => exact ⟨k + 1, by omega, by go_num, HS.out⟩
        case measure => simp [intOf]; omega
      · obtain rfl : n = k := by omega
        go_wp2_with (fail)
        go_ret
        refine ⟨_, rfl, ?_, HR.out.keep⟩
        have hrow := HR.out.row
        rw [HN.out, List.take_length] at hrow
        rw [HN.out]
        exact hrow

/-! ### The map's own methods -/
theorem ents_keys (t : T) : t.ents.map (fun e => e.2.1) = t.toList.map (·.1) := by simp [T.toList]
theorem ents_vals (t : T) : t.ents.map (fun e => e.2.2) = t.toList.map (·.2) := by simp [T.toList]
section
variable {w : World} {B mb ob : Nat} {kind m : Int} {L : List (Int × Int)}

theorem mapKeys_any (h : Mp w B mb ob kind m L) (hlen : L.length ≤ 1000000) :
    Calls Try.prog 86 #[.pointer (some ⟨mb, 0, none⟩)] w fun e w' => ∃ v, e = .returned v ∧ RowIn w' w'.heap.size encF v (L.map (·.1)) ∧ Keep (fun _ => False) w w' := by
  obtain ⟨tb, t, hmb, htm, rfl, -⟩ := h
  have m0 := map_tree hmb
  have C := hid (treeKeys_any htm.tree (by rw [← toList_length]; exact hlen))
  clear hmb htm hlen
  go_enter Try.func86, Try.ntmps86
  go_wp2_with (fail)
  refine C.out.mono ?_
  rintro e w' ⟨v, rfl, hr, hk⟩
  have H := hid (And.intro hr hk)
  clear hr hk
  go_wp2_with (fail)
  go_ret
  exact ⟨v, rfl, by rw [← ents_keys]; exact H.out.1, H.out.2⟩

theorem mapValues_any (h : Mp w B mb ob kind m L) (hlen : L.length ≤ 1000000) :
    Calls Try.prog 87 #[.pointer (some ⟨mb, 0, none⟩)] w fun e w' => ∃ v, e = .returned v ∧ RowIn w' w'.heap.size encF v (L.map (·.2)) ∧ Keep (fun _ => False) w w' := by
  obtain ⟨tb, t, hmb, htm, rfl, -⟩ := h
  have m0 := map_tree hmb
  have C := hid (treeValues_any htm.tree (by rw [← toList_length]; exact hlen))
  clear hmb htm hlen
  go_enter Try.func87, Try.ntmps87
  go_wp2_with (fail)
  refine C.out.mono ?_
  rintro e w' ⟨v, rfl, hr, hk⟩
  have H := hid (And.intro hr hk)
  clear hr hk
  go_wp2_with (fail)
  go_ret
  exact ⟨v, rfl, by rw [← ents_vals]; exact H.out.1, H.out.2⟩

theorem mapSize_any (h : Mp w B mb ob kind m L) :
    Calls Try.prog 88 #[.pointer (some ⟨mb, 0, none⟩)] w fun e w' => e = .returned (.int .i64 L.length) ∧ w = w' := by
  obtain ⟨tb, t, hmb, htm, rfl, -⟩ := h
  have m0 := map_tree hmb
  have t1 := tree_size htm.tree.head
  rw [← toList_length] at t1
  clear hmb htm
  have C : Calls Try.prog 116 #[.pointer (some ⟨tb, 0, none⟩)] w fun e w' => e = .returned (.int .i64 t.toList.length) ∧ w = w' := by
    go_enter Try.func116, Try.ntmps116
    go_wp2
    go_ret
    exact ⟨rfl, rfl⟩
  have C := hid C
  go_enter Try.func88, Try.ntmps88
  go_wp2_with (fail)
  refine C.out.mono ?_
  rintro e w' ⟨rfl, rfl⟩
  go_wp2_with (fail)
  go_ret
  exact ⟨rfl, rfl⟩

theorem mapEmpty_any (h : Mp w B mb ob kind m L) :
    Calls Try.prog 89 #[.pointer (some ⟨mb, 0, none⟩)] w fun e w' => e = .returned (.bool (L.length == 0)) ∧ w = w' := by
  obtain ⟨tb, t, hmb, htm, rfl, -⟩ := h
  have m0 := map_tree hmb
  have t1 := tree_size htm.tree.head
  rw [← toList_length] at t1
  obtain ⟨n, hn⟩ : ∃ n, n = t.toList.length := ⟨_, rfl⟩
  rw [← hn] at t1 ⊢
  clear hmb htm hn
  have C : Calls Try.prog 117 #[.pointer (some ⟨tb, 0, none⟩)] w fun e w' => e = .returned (.bool (n == 0)) ∧ w = w' := by
    cases n with
    | zero =>
      go_enter Try.func117, Try.ntmps117
      go_wp2
      go_ret
      exact ⟨rfl, rfl⟩
    | succ n =>
      have hne : (((n + 1 : Nat) : Int) == 0) = false := by simp; omega
      go_enter Try.func117, Try.ntmps117
      go_wp2
      go_ret
      refine ⟨?_, rfl⟩
      simp
      omega
  have C := hid C
  go_enter Try.func89, Try.ntmps89
  go_wp2_with (fail)
  refine C.out.mono ?_
  rintro e w' ⟨rfl, rfl⟩
  go_wp2_with (fail)
  go_ret
  exact ⟨rfl, rfl⟩
end

/-- What a map's state comes to, in memory from base on: its keys and its values in order, its size, whether it is empty. -/
def StateIn (w : World) (base : Nat) (v : Value) (L : List (Int × Int)) : Prop :=
  ∃ a1 c1 a2 c2, v = .agg #[.slice a1 L.length c1, .slice a2 L.length c2, .int .i64 L.length, .bool (L.length == 0)] ∧
    w.ownsRow base 3 1 (.slice a1 L.length c1) L.length ((L.map (·.1)).flatMap encN) ∧ w.ownsRow base 3 1 (.slice a2 L.length c2) L.length ((L.map (·.2)).flatMap encN)
theorem RowIn.on {α : Type} {enc : α → List Value} {w w' : World} {v : Value} {l : List α} (h : RowIn w w.heap.size enc v l) (hk : Keep (fun _ => False) w w') : RowIn w' w'.heap.size enc v l :=
  (h.keep hk fun _ _ => id).mono hk.size
theorem ownsRow.on {w w' : World} {base : Nat} {e : TypeId} {sz : Nat} {v : Value} {n : Nat} {xs : List Value} (h : w.ownsRow base e sz v n xs) (hk : Keep (fun _ => False) w w') : w'.ownsRow base e sz v n xs :=
  ownsRow_congr h fun g hg => hk.block g ((h.lt g hg).2) id
theorem owns_len {w : World} {base : Nat} {e : TypeId} {sz : Nat} {v : Value} {n : Nat} {xs : List Value} (h : w.ownsRow base e sz v n xs) : ∃ a c, v = .slice a n c := by
  rcases h.2 with ⟨rfl, rfl⟩ | ⟨g, cap, cur, rfl, _⟩
  · exact ⟨_, _, rfl⟩
  · exact ⟨_, _, rfl⟩
theorem owns_off {w : World} {base : Nat} {e : TypeId} {sz : Nat} {v : Value} {n : Nat} {xs : List Value} (h : w.ownsRow base e sz v n xs) {b : Nat} (hb : b < base) (o : Nat) (u : Value) : (w.setCell ⟨b, o, none⟩ u).ownsRow base e sz v n xs :=
  ownsRow_congr h fun g hg => set_other (a := ⟨b, o, none⟩) (fun e => by have := (h.lt g hg).1; simp only at e; omega) u
theorem owns_mono {w : World} {base base' : Nat} {e : TypeId} {sz : Nat} {v : Value} {n : Nat} {xs : List Value} (h : w.ownsRow base e sz v n xs) (hb : base' ≤ base) : w.ownsRow base' e sz v n xs := by
  refine ⟨h.1, ?_⟩
  rcases h.2 with h | ⟨g, cap, cur, h1, h2, h3⟩
  · exact .inl h
  · exact .inr ⟨g, cap, cur, h1, by omega, h3⟩
theorem StateIn.on {w w' : World} {base : Nat} {v : Value} {L : List (Int × Int)} (h : StateIn w base v L) (hk : Keep (fun _ => False) w w') : StateIn w' base v L := by
  obtain ⟨a1, c1, a2, c2, hv, h1, h2⟩ := h
  exact ⟨a1, c1, a2, c2, hv, ownsRow.on h1 hk, ownsRow.on h2 hk⟩
theorem StateIn.off {w : World} {base : Nat} {v : Value} {L : List (Int × Int)} (h : StateIn w base v L) {b : Nat} (hb : b < base) (o : Nat) (u : Value) : StateIn (w.setCell ⟨b, o, none⟩ u) base v L := by
  obtain ⟨a1, c1, a2, c2, hv, h1, h2⟩ := h
  exact ⟨a1, c1, a2, c2, hv, owns_off h1 hb o u, owns_off h2 hb o u⟩
theorem StateIn.mono {w : World} {base base' : Nat} {v : Value} {L : List (Int × Int)} (h : StateIn w base v L) (hb : base' ≤ base) : StateIn w base' v L := by
  obtain ⟨a1, c1, a2, c2, hv, h1, h2⟩ := h
  exact ⟨a1, c1, a2, c2, hv, owns_mono h1 hb, owns_mono h2 hb⟩

section
variable {w : World} {B mb ob : Nat} {kind m : Int} {L : List (Int × Int)}
def stateZero : Obj := .cells #[.slice none 0 0, .slice none 0 0, .int .i64 0, .bool false] 34 (0, 0)

theorem stateOf_any (h : Mp w B mb ob kind m L) (hlen : L.length ≤ 1000000) :
    Calls Try.prog 58 #[.pointer (some ⟨mb, 0, none⟩)] w fun e w' => ∃ v, e = .returned v ∧ StateIn w' (w.heap.size + 1) v L ∧ Keep (fun _ => False) w w' := by
  have C1 := hid ((h.alloc (.cells #[.slice none 0 0, .slice none 0 0, .int .i64 0, .bool false] 34)))
  have HL := hid hlen
  have KY := hid (mapKeys_any C1.out hlen)
  clear h hlen
  go_enter Try.func58, Try.ntmps58
  go_wp2_with (fail)
  refine KY.out.mono ?_
  rintro e w1 ⟨v1, rfl, hr1, hk1⟩
  have M1 := hid (C1.out.below hk1.any)
  have K1 := hid hk1
  have N1 := hid (numbers_any hr1 (by rw [List.length_map]; exact HL.out))
  clear hr1 hk1
  go_wp2_with (fail)
  refine N1.out.mono ?_
  rintro e w2 ⟨v2, rfl, hr2, hk2⟩
  have M2 := hid (M1.out.below hk2.any)
  have K2 := hid (K1.out.trans hk2)
  have R2 := hid hr2
  clear hr2 hk2
  have VA := hid (mapValues_any M2.out HL.out)
  go_wp2_with (fail)
  refine VA.out.mono ?_
  rintro e w3 ⟨v3, rfl, hr3, hk3⟩
  have M3 := hid (M2.out.below hk3.any)
  have K3 := hid (K2.out.trans hk3)
  have R3 := hid (ownsRow.on R2.out hk3)
  have N3 := hid (numbers_any hr3 (by rw [List.length_map]; exact HL.out))
  clear hr3 hk3
  go_wp2_with (fail)
  refine N3.out.mono ?_
  rintro e w4 ⟨v4, rfl, hr4, hk4⟩
  have M4 := hid (M3.out.below hk4.any)
  have K4 := hid (K3.out.trans hk4)
  have R4 := hid (And.intro (ownsRow.on R3.out hk4) hr4)
  clear hr4 hk4
  have SZ := hid (mapSize_any M4.out)
  go_wp2_with (fail)
  refine SZ.out.mono ?_
  rintro e w5 ⟨rfl, rfl⟩
  have EM := hid (mapEmpty_any M4.out)
  go_wp2_with (fail)
  refine EM.out.mono ?_
  rintro e w5 ⟨rfl, rfl⟩
  obtain ⟨a1, c1, rfl⟩ := owns_len R4.out.1
  obtain ⟨a2, c2, rfl⟩ := owns_len R4.out.2
  rw [List.length_map, List.length_map] at R4
  rw [List.length_map, List.length_map]
  have hblk : w4.heap[w.heap.size]? = some (.cells #[.slice none 0 0, .slice none 0 0, .int .i64 0, .bool false] 34 (0, 0)) := K4.out.get (heap_alloc_new w _) id
  have z0 : w4.cell? ⟨w.heap.size, 0, none⟩ = some (.slice none 0 0) := by simp [World.cell?, hblk]
  have z1 : w4.cell? ⟨w.heap.size, 1, none⟩ = some (.slice none 0 0) := by simp [World.cell?, hblk]
  have z2 : w4.cell? ⟨w.heap.size, 2, none⟩ = some (.int .i64 0) := by simp [World.cell?, hblk]
  have z3 : w4.cell? ⟨w.heap.size, 3, none⟩ = some (.bool false) := by simp [World.cell?, hblk]
  have pl : Plain w4 w.heap.size := ⟨_, _, hblk⟩
  have b1 := hid K1.out.size
  have b3 := hid K3.out.size
  clear hblk
  go_wp2_with (fail)
  refine bodyPost_ret (v := .agg #[.slice a1 L.length c1, .slice a2 L.length c2, .int .i64 L.length, .bool (L.length == 0)]) (by simp [results, Try.results58, go_sem, z0, z1, z2, z3]) rfl ?_
  have hb1 : w.heap.size < w1.heap.size := by have := b1.out; simp at this; omega
  have hb3 : w.heap.size < w3.heap.size := by have := b3.out; simp at this; omega
  have KF : Keep (fun _ => False) w w4 := ((Keep.refl _ _).alloc _).trans K4.out
  refine ⟨_, rfl, StateIn.off (StateIn.off (StateIn.off (StateIn.off ⟨a1, c1, a2, c2, rfl, owns_mono R4.out.1 hb1, owns_mono R4.out.2 hb3⟩ (Nat.lt_succ_self _) _ _) (Nat.lt_succ_self _) _ _) (Nat.lt_succ_self _) _ _) (Nat.lt_succ_self _) _ _, (((KF.freshSet (Nat.le_refl _) _ _).freshSet (Nat.le_refl _) _ _).freshSet (Nat.le_refl _) _ _).freshSet (Nat.le_refl _) _ _⟩

theorem runA_len {f : Int → Int} (acts : List Act3) : (runA f acts).length ≤ acts.length := runA_length f acts

/-- What MapState returns. -/
theorem mapState_any {v : Value} {acts : List Act3} (hok : OrdOk kind m) (ha : ActsIn w w.heap.size v acts) (hlen : acts.length ≤ 100000) :
    Calls Try.prog 30 #[.agg #[.int .i64 kind, .int .i64 m], v] w fun e w' => ∃ sv, e = .returned sv ∧ StateIn w' w.heap.size sv (runA (ordf kind m) acts) ∧ Keep (fun _ => False) w w' := by
  have K0 : Keep (fun _ => False) w ((w.alloc (.cells #[.int .i64 kind, .int .i64 m] 23)).alloc (.cells #[.slice none 0 0, .slice none 0 0, .int .i64 0, .bool false] 34)) := ((Keep.refl _ _).alloc _).alloc _
  have BT := hid (built_any hok (ha.keep K0 fun _ _ => id) K0.size hlen)
  have K0 := hid K0
  have HL := hid (Nat.le_trans (runA_len (f := ordf kind m) acts) hlen)
  clear hok ha hlen
  obtain ⟨L, hL⟩ : ∃ L, L = runA (ordf kind m) acts := ⟨_, rfl⟩
  rw [← hL] at BT HL ⊢
  clear hL
  go_enter Try.func30, Try.ntmps30
  go_wp2_with (fail)
  refine BT.out.mono ?_
  rintro e w1 ⟨mb, ob, rfl, hm, hk⟩
  have K1 := hid (KeepFrom.keep (Keep.refl (fun _ => False) _) hk)
  have ST := hid (stateOf_any hm (by have := HL.out; omega))
  clear hm hk
  go_wp2_with (fail)
  refine ST.out.mono ?_
  rintro e w2 ⟨sv, rfl, hs, hk⟩
  have K2 := hid (K1.out.trans hk)
  have HS := hid (hs.mono (by have := K1.out.size; simp at this ⊢; omega : w.heap.size + 2 ≤ w1.heap.size + 1))
  clear hs hk
  have hblk : w2.heap[w.heap.size + 1]? = some (.cells #[.slice none 0 0, .slice none 0 0, .int .i64 0, .bool false] 34 (0, 0)) := K2.out.get (by have := heap_alloc_new (w.alloc (.cells #[.int .i64 kind, .int .i64 m] 23)) (.cells #[.slice none 0 0, .slice none 0 0, .int .i64 0, .bool false] 34); simpa using this) id
  have z0 : w2.cell? ⟨w.heap.size + 1, 0, none⟩ = some (.slice none 0 0) := by simp [World.cell?, hblk]
  have z1 : w2.cell? ⟨w.heap.size + 1, 1, none⟩ = some (.slice none 0 0) := by simp [World.cell?, hblk]
  have z2 : w2.cell? ⟨w.heap.size + 1, 2, none⟩ = some (.int .i64 0) := by simp [World.cell?, hblk]
  have z3 : w2.cell? ⟨w.heap.size + 1, 3, none⟩ = some (.bool false) := by simp [World.cell?, hblk]
  have pl : Plain w2 (w.heap.size + 1) := ⟨_, _, hblk⟩
  clear hblk
  have KF : Keep (fun _ => False) w w2 := K0.out.trans K2.out
  have KF := hid KF
  obtain ⟨a1, c1, a2, c2, rfl, hr1, hr2⟩ := HS.out
  clear hr1 hr2
  go_wp2_with (fail)
  refine bodyPost_ret (v := .agg #[.slice a1 L.length c1, .slice a2 L.length c2, .int .i64 L.length, .bool (L.length == 0)]) (by simp [results, Try.results30, go_sem, z0, z1, z2, z3]) rfl ?_
  refine ⟨_, rfl, (((((HS.out.off (Nat.lt_succ_self _) _ _).off (Nat.lt_succ_self _) _ _).off (Nat.lt_succ_self _) _ _).off (Nat.lt_succ_self _) _ _).mono (by omega)), (((KF.out.freshSet (by omega) _ _).freshSet (by omega) _ _).freshSet (by omega) _ _).freshSet (by omega) _ _⟩
end

end Go.Proofs.Ytdamfannmlncnaa
