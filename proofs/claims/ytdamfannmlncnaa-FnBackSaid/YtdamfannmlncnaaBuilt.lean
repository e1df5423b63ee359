/- built, walked: the map holds the list that the acts come to. -/
import Derived.Test.YtdamfannmlncnaaMap
import Derived.Test.YtdamfannmlncnaaRow
namespace Go.Proofs.Ytdamfannmlncnaa
open Go.RowKit
set_option linter.unusedVariables false
set_option linter.unusedSimpArgs false

/-- An act: what is done, the key, the value. -/
abbrev Act3 := Int × Int × Int
def stepA (f : Int → Int) (L : List (Int × Int)) (a : Act3) : List (Int × Int) :=
  if a.1 = 1 then put f a.2.1 a.2.2 L else if a.1 = 2 then del f a.2.1 L else if a.1 = 3 then [] else L
def runA (f : Int → Int) (acts : List Act3) : List (Int × Int) := acts.foldl (stepA f) []
theorem stepA_length (f : Int → Int) (L : List (Int × Int)) (a : Act3) : (stepA f L a).length ≤ L.length + 1 := by
  unfold stepA
  split
  · have := put_length (f := f) (k := a.2.1) (v := a.2.2) L; split at this <;> omega
  · split
    · have := del_length (f := f) (k := a.2.1) L; omega
    · split
      · simp
      · omega
theorem foldl_length (f : Int → Int) (acts : List Act3) : ∀ L, (acts.foldl (stepA f) L).length ≤ L.length + acts.length := by
  induction acts with
  | nil => intro L; simp
  | cons a acts ih => intro L; have := ih (stepA f L a); have := stepA_length f L a; simp only [List.foldl_cons, List.length_cons]; omega
theorem runA_length (f : Int → Int) (acts : List Act3) : (runA f acts).length ≤ acts.length := by have := foldl_length f acts []; unfold runA; simpa using this
theorem runA_snoc (f : Int → Int) (acts : List Act3) (a : Act3) : runA f (acts ++ [a]) = stepA f (runA f acts) a := by simp [runA]
theorem stepA_put (f : Int → Int) (L k v) : stepA f L (1, k, v) = put f k v L := by simp [stepA]
theorem stepA_del (f : Int → Int) (L k v) : stepA f L (2, k, v) = del f k L := by simp [stepA]
theorem stepA_clear (f : Int → Int) (L k v) : stepA f L (3, k, v) = [] := by simp [stepA]
theorem stepA_other (f : Int → Int) (L k v) {o : Int} (h1 : ¬ o = 1) (h2 : ¬ o = 2) (h3 : ¬ o = 3) : stepA f L (o, k, v) = L := by simp [stepA, h1, h2, h3]

/-- An act's cells. -/
def encA (a : Act3) : List Value := [.int .i64 a.1, .int .i64 a.2.1, .int .i64 a.2.2]
theorem encA_len (a : Act3) : (encA a).length = 3 := rfl
theorem encA_one (a : Act3) : ∀ u ∈ encA a, u.oneCell' = true := by
  intro u hu
  simp only [encA, List.mem_cons, List.not_mem_nil, or_false] at hu
  rcases hu with rfl | rfl | rfl <;> rfl
/-- A slice of acts lies in memory, in a block below B. -/
abbrev ActsIn (w : World) (B : Nat) (v : Value) (acts : List Act3) : Prop := RowIn w B encA v acts
theorem acts_cells {w : World} {b off : Nat} {acts : List Act3} (hc : ∀ j u, (acts.flatMap encA)[j]? = some u → w.cell? ⟨b, off + j, none⟩ = some u) (i : Nat) (h : i < acts.length) :
    w.cell? ⟨b, off + i * 3, none⟩ = some (.int .i64 acts[i].1) ∧ w.cell? ⟨b, off + i * 3 + 1, none⟩ = some (.int .i64 acts[i].2.1) ∧ w.cell? ⟨b, off + i * 3 + 2, none⟩ = some (.int .i64 acts[i].2.2) :=
  ⟨hc (i * 3) _ (flat_get encA_len acts i h 0 (by omega)), hc (i * 3 + 1) _ (flat_get encA_len acts i h 1 (by omega)), hc (i * 3 + 2) _ (flat_get encA_len acts i h 2 (by omega))⟩

theorem Mp.mono {w : World} {B B' mb ob : Nat} {kind m : Int} {L : List (Int × Int)} (h : Mp w B mb ob kind m L) (hB : B' ≤ B) : Mp w B' mb ob kind m L := by
  obtain ⟨tb, t, h1, h2, h3, h4, h5, h6, h7⟩ := h
  exact ⟨tb, t, h1, h2, h3, h4, h5, by omega, fun i hi => by have := h7 i hi; omega⟩

theorem by_ex (w : World) (kind m : Int) : Calls Try.prog 81 #[.agg #[.int .i64 kind, .int .i64 m]] w fun e w' => ∃ ob, e = .returned (cmpV ob) ∧ w'.heap[ob]? = some (orderObj kind m) ∧ Keep (fun _ => False) w w' := by
  refine (by_any w kind m).mono ?_
  rintro e w' ⟨rfl, rfl⟩
  exact ⟨_, rfl, heap_new _ _ _ rfl, (Keep.refl _ _).alloc _⟩
theorem mapNew_ex {w : World} {ob : Nat} {kind m : Int} (h : w.heap[ob]? = some (orderObj kind m)) (hok : OrdOk kind m) {B : Nat} (hB : B ≤ w.heap.size) :
    Calls Try.prog 80 #[cmpV ob] w fun e w' => ∃ mb, e = .returned (.pointer (some ⟨mb, 0, none⟩)) ∧ Mp w' B mb ob kind m [] ∧ Keep (fun _ => False) w w' := by
  refine (mapNew_any h hok).mono ?_
  rintro e w' ⟨rfl, hm, hk⟩
  exact ⟨_, rfl, hm.mono hB, hk⟩
theorem Keep.any {S : Nat → Prop} {w w' : World} (h : Keep (fun _ => False) w w') : Keep S w w' := h.mono fun _ _ => False.elim

/-- The round's relation. -/
def BuiltRel (w : World) (mb ob : Nat) (kind m : Int) (acts : List Act3) (k : Nat) (wr : World) : Prop :=
  Mp wr w.heap.size mb ob kind m (runA (ordf kind m) (acts.take k)) ∧ KeepFrom w.heap.size w wr
theorem built_step {w wr w' : World} {mb ob : Nat} {kind m : Int} {acts : List Act3} {k : Nat} (hk : k < acts.length) (h : BuiltRel w mb ob kind m acts k wr)
    (hm : Mp w' w.heap.size mb ob kind m (stepA (ordf kind m) (runA (ordf kind m) (acts.take k)) acts[k])) (hkp : KeepFrom w.heap.size wr w') : BuiltRel w mb ob kind m acts (k + 1) w' := by
  refine ⟨?_, h.2.trans hkp⟩
  rw [List.take_succ_eq_append_getElem hk, runA_snoc]; exact hm

set_option maxRecDepth 100000 in
set_option maxHeartbeats 3200000 in
theorem built_any {w : World} {B : Nat} {kind m : Int} {v : Value} {acts : List Act3} (hok : OrdOk kind m) (ha : ActsIn w B v acts) (hB : B ≤ w.heap.size) (hlen : acts.length ≤ 100000) :
    Calls Try.prog 55 #[.agg #[.int .i64 kind, .int .i64 m], v] w fun e w' => ∃ mb ob, e = .returned (.pointer (some ⟨mb, 0, none⟩)) ∧ Mp w' w.heap.size mb ob kind m (runA (ordf kind m) acts) ∧ KeepFrom w.heap.size w w' := by
  have HOK := hid hok
  have BY := hid (by_ex (w.alloc (.cells #[.int .i64 kind, .int .i64 m] 23)) kind m)
  have K0 : KeepFrom w.heap.size w (w.alloc (.cells #[.int .i64 kind, .int .i64 m] 23)) := (Keep.refl _ _).alloc _
  have K0 := hid K0
  clear hok
  obtain ⟨ao, cap0, hav⟩ := ha.len
  rcases ha with ⟨rfl, _⟩ | ⟨b, off, cap, rfl, hb, hc⟩
  · subst hav
    clear hlen
    go_enter Try.func55, Try.ntmps55
    go_wp2_with (fail)
    refine BY.out.mono ?_
    rintro e w1 ⟨ob, rfl, ho, hk1⟩
    have K1 := hid (K0.out.trans hk1.any)
    have NW := hid (mapNew_ex ho HOK.out K1.out.size)
    clear ho hk1
    go_wp2_with (fail)
    refine NW.out.mono ?_
    rintro e w2 ⟨mb, rfl, hm, hk⟩
    have HM := hid (And.intro hm (K1.out.trans hk.any))
    clear hm hk
    go_wp2_with (fail)
    refine wp_loop_rounds 1 ?_
    rw [rounds_succ]
    go_wp2_with (fail)
    go_ret
    exact ⟨mb, _, rfl, HM.out.1, HM.out.2⟩
  · have HC := hid (And.intro hb (acts_cells hc))
    clear hb hc hav
    go_enter Try.func55, Try.ntmps55
    go_wp2_with (fail)
    refine BY.out.mono ?_
    rintro e w1 ⟨ob, rfl, ho, hk1⟩
    have K1 := hid (K0.out.trans hk1.any)
    have NW := hid (mapNew_ex ho HOK.out K1.out.size)
    clear ho hk1
    go_wp2_with (fail)
    refine NW.out.mono ?_
    rintro e w2 ⟨mb, rfl, hm, hk⟩
    have HM := hid (show BuiltRel w mb ob kind m acts 0 w2 from ⟨hm, K1.out.trans hk.any⟩)
    clear hm hk
    go_wp2_with (fail)
    go_loopw [13] (fun i wr => ∃ k : Nat, k ≤ acts.length ∧ i = .int .i64 k ∧ BuiltRel w mb ob kind m acts k wr) (fun i _ => acts.length - (intOf i).toNat)
    case atStart => exact ⟨0, Nat.zero_le _, rfl, HM.out⟩
    case round =>
      obtain ⟨k, hk, rfl, hrel⟩ := hrel
      have HR := hid hrel
      clear hrel
      by_cases hlt : k < acts.length
      · obtain ⟨hcb, hcells⟩ := HC.out
        have c0 : wr.cell? ⟨b, off + k * 3, none⟩ = some (.int .i64 acts[k].1) := HR.out.2.cell (hcells k hlt).1 (by omega)
        have c1 : wr.cell? ⟨b, off + k * 3 + 1, none⟩ = some (.int .i64 acts[k].2.1) := HR.out.2.cell (hcells k hlt).2.1 (by omega)
        have c2 : wr.cell? ⟨b, off + k * 3 + 2, none⟩ = some (.int .i64 acts[k].2.2) := HR.out.2.cell (hcells k hlt).2.2 (by omega)
        obtain ⟨a, ha⟩ : ∃ a : Act3, acts[k] = a := ⟨_, rfl⟩
        rw [ha] at c0 c1 c2
        have HA := hid ha
        obtain ⟨o, key, val⟩ := a
        simp only at c0 c1 c2
        have hL : (runA (ordf kind m) (acts.take k)).length ≤ 1000000 := by have := runA_length (ordf kind m) (acts.take k); rw [List.length_take] at this; omega
        have HLL := hid hL
        clear ha hcells hcb hL
        by_cases h1 : o = 1
        · subst h1
          go_wp2_with (fail)
          refine (mapPut_any (HR.out.1.alloc _) key val HLL.out).mono ?_
          rintro e w3 ⟨rfl, hm, hk3⟩
          have HS := hid (built_step hlt HR.out (by rw [HA.out, stepA_put]; exact hm) (((Keep.refl _ _).alloc _).trans hk3))
          clear hm hk3 c0 c1 c2
          go_wp2_with (fail)
          go_roundw
          case rel => exact ⟨k + 1, by omega, by go_num, HS.out⟩
          case measure => simp [intOf]; omega
        · by_cases h2 : o = 2
          · subst h2
            go_wp2_with (fail)
            refine (mapRemove_any (HR.out.1.alloc _) key HLL.out).mono ?_
            rintro e w3 ⟨rfl, hm, hk3⟩
            have HS := hid (built_step hlt HR.out (by rw [HA.out, stepA_del]; exact hm) (((Keep.refl _ _).alloc _).trans hk3))
            clear hm hk3 c0 c1 c2
            go_wp2_with (fail)
            go_roundw
            case rel => exact ⟨k + 1, by omega, by go_num, HS.out⟩
            case measure => simp [intOf]; omega
          · by_cases h3 : o = 3
            · subst h3
              go_wp2_with (fail)
              refine (mapClear_any (HR.out.1.alloc _)).mono ?_
              rintro e w3 ⟨rfl, hm, hk3⟩
              have HS := hid (built_step hlt HR.out (by rw [HA.out, stepA_clear]; exact hm) (((Keep.refl _ _).alloc _).trans hk3))
              clear hm hk3 c0 c1 c2
              go_wp2_with (fail)
              go_roundw
              case rel => exact ⟨k + 1, by omega, by go_num, HS.out⟩
              case measure => simp [intOf]; omega
            · have HS : ∀ O, BuiltRel w mb ob kind m acts (k + 1) (wr.alloc O) := fun O => built_step hlt HR.out (by rw [HA.out, stepA_other _ _ _ _ h1 h2 h3]; exact HR.out.1.alloc _) ((Keep.refl _ _).alloc _)
              have HS := hid HS
              have b1 : (o == 1) = false := by simpa using h1
              have b2 : (o == 2) = false := by simpa using h2
              have b3 : (o == 3) = false := by simpa using h3
              clear h1 h2 h3
              go_wp2_with (fail)
              go_roundw
              case rel => exact ⟨k + 1, by omega, by go_num, HS.out _⟩
              case measure => simp [intOf]; omega
      · go_wp2_with (fail)
        go_ret
        have e : acts.take k = acts := List.take_of_length_le (by omega)
        have h := HR.out
        unfold BuiltRel at h
        rw [e] at h
        exact ⟨mb, ob, rfl, h.1, h.2⟩

end Go.Proofs.Ytdamfannmlncnaa
