/- Plain laws on an iterator's places: 0 ahead of all pairs, k + 1 at the pair k, behind all at the list's length + 1. No walk. -/
import Derived.Test.YtdamfannmlncnaaLaws
namespace Go.Proofs.Ytdamfannmlncnaa
set_option linter.unusedVariables false

/-- A seen pair: whether there is one, its key, its value. -/
abbrev Seen3 := Bool × Int × Int
/-- Whether q is left over when a key is divided by m. -/
def tst (m q : Int) (e : Int × Int) : Bool := decide (e.1 % m = q)

section
variable (L : List (Int × Int)) (T : Int × Int → Bool)
def nextTo : Nat → Nat → Nat
  | 0, _ => L.length + 1
  | fuel + 1, p => match L[p]? with
    | none => L.length + 1
    | some e => if T e then p + 1 else nextTo fuel (p + 1)
def prevTo : Nat → Nat
  | 0 => 0
  | 1 => 0
  | p + 2 => match L[p]? with
    | none => 0
    | some e => if T e then p + 1 else prevTo (p + 1)
/-- The place behind NextTo. -/
def nextP (p : Nat) : Nat := nextTo L T (L.length + 1 - p) p
variable {L T}
theorem nextP_hit {p : Nat} {e : Int × Int} (h : L[p]? = some e) (ht : T e = true) : nextP L T p = p + 1 := by
  have hp := (List.getElem?_eq_some_iff.1 h).1
  unfold nextP
  obtain ⟨d, hd⟩ : ∃ d, L.length + 1 - p = d + 1 := ⟨L.length - p, by omega⟩
  rw [hd, nextTo, h]
  simp [ht]
theorem nextP_miss {p : Nat} {e : Int × Int} (h : L[p]? = some e) (ht : T e = false) : nextP L T p = nextP L T (p + 1) := by
  have hp := (List.getElem?_eq_some_iff.1 h).1
  unfold nextP
  obtain ⟨d, hd⟩ : ∃ d, L.length + 1 - p = d + 1 := ⟨L.length - p, by omega⟩
  have hd' : L.length + 1 - (p + 1) = d := by omega
  rw [hd, hd', nextTo, h]
  simp [ht]
theorem nextP_end {p : Nat} (h : L.length ≤ p) : nextP L T p = L.length + 1 := by
  unfold nextP
  cases hd : L.length + 1 - p with
  | zero => rfl
  | succ d => rw [nextTo, List.getElem?_eq_none h]
theorem nextP_le (p : Nat) : nextP L T p ≤ L.length + 1 := by
  unfold nextP
  have : ∀ fuel p, nextTo L T fuel p ≤ L.length + 1 := by
    intro fuel
    induction fuel with
    | zero => intro p; exact Nat.le_refl _
    | succ f ih =>
      intro p
      rw [nextTo]
      cases h : L[p]? with
      | none => exact Nat.le_refl _
      | some e =>
        have hp := (List.getElem?_eq_some_iff.1 h).1
        simp only
        split
        · omega
        · exact ih _
  exact this _ _
theorem prevTo_hit {p : Nat} {e : Int × Int} (h : L[p]? = some e) (ht : T e = true) : prevTo L T (p + 2) = p + 1 := by rw [prevTo, h]; simp [ht]
theorem prevTo_miss {p : Nat} {e : Int × Int} (h : L[p]? = some e) (ht : T e = false) : prevTo L T (p + 2) = prevTo L T (p + 1) := by rw [prevTo, h]; simp [ht]
theorem prevTo_le : ∀ p, prevTo L T p ≤ L.length
  | 0 => Nat.zero_le _
  | 1 => Nat.zero_le _
  | p + 2 => by
    rw [prevTo]
    cases h : L[p]? with
    | none => exact Nat.zero_le _
    | some e =>
      have hp := (List.getElem?_eq_some_iff.1 h).1
      simp only
      split
      · omega
      · exact prevTo_le (p + 1)
end

/-- Where a move leads. -/
def moveP (L : List (Int × Int)) (a : Act3) (p : Nat) : Nat :=
  if a.1 = 1 then min (p + 1) (L.length + 1) else if a.1 = 2 then p - 1 else if a.1 = 3 then 1 else if a.1 = 4 then L.length else if a.1 = 5 then 0 else if a.1 = 6 then L.length + 1
  else if a.1 = 7 then nextP L (tst a.2.1 a.2.2) p else if a.1 = 8 then prevTo L (tst a.2.1 a.2.2) p else p
/-- Whether a move tells a pair. -/
def tellsA (a : Act3) : Bool := decide (a.1 = 1 ∨ a.1 = 2 ∨ a.1 = 3 ∨ a.1 = 4 ∨ a.1 = 7 ∨ a.1 = 8)
/-- What stands at a place. -/
def atP (L : List (Int × Int)) : Nat → Seen3
  | 0 => (false, 0, 0)
  | p + 1 => match L[p]? with
    | none => (false, 0, 0)
    | some e => (true, e.1, e.2)
def seenP (L : List (Int × Int)) (tell : Bool) (p : Nat) : Seen3 := if tell = true then atP L p else (false, 0, 0)
def walkS (L : List (Int × Int)) (s : Nat × List Seen3) (a : Act3) : Nat × List Seen3 := (moveP L a s.1, s.2 ++ [seenP L (tellsA a) (moveP L a s.1)])
def walkA (L : List (Int × Int)) (ms : List Act3) : Nat × List Seen3 := ms.foldl (walkS L) (0, [])
theorem walkA_snoc (L : List (Int × Int)) (ms : List Act3) (a : Act3) : walkA L (ms ++ [a]) = walkS L (walkA L ms) a := by simp [walkA]
theorem moveP_le (L : List (Int × Int)) (a : Act3) {p : Nat} (hp : p ≤ L.length + 1) : moveP L a p ≤ L.length + 1 := by
  unfold moveP
  split
  · omega
  · split
    · omega
    · split
      · omega
      · split
        · omega
        · split
          · omega
          · split
            · omega
            · split
              · exact nextP_le p
              · split
                · have := prevTo_le (L := L) (T := tst a.2.1 a.2.2) p; omega
                · exact hp
theorem foldW_le (L : List (Int × Int)) (ms : List Act3) : ∀ s : Nat × List Seen3, s.1 ≤ L.length + 1 → (ms.foldl (walkS L) s).1 ≤ L.length + 1 := by
  induction ms with
  | nil => intro s h; exact h
  | cons a ms ih => intro s h; exact ih _ (moveP_le L a h)
theorem walkA_le (L : List (Int × Int)) (ms : List Act3) : (walkA L ms).1 ≤ L.length + 1 := foldW_le L ms _ (Nat.zero_le _)
theorem foldW_len (L : List (Int × Int)) (ms : List Act3) : ∀ s : Nat × List Seen3, (ms.foldl (walkS L) s).2.length = s.2.length + ms.length := by
  induction ms with
  | nil => intro s; rfl
  | cons a ms ih => intro s; rw [List.foldl_cons, ih]; simp [walkS]; omega
theorem walkA_len (L : List (Int × Int)) (ms : List Act3) : (walkA L ms).2.length = ms.length := by have := foldW_len L ms (0, []); simpa [walkA] using this

theorem atP_some {L : List (Int × Int)} {p : Nat} {e : Int × Int} (h : L[p]? = some e) : atP L (p + 1) = (true, e.1, e.2) := by simp [atP, h]
theorem atP_none {L : List (Int × Int)} {p : Nat} (h : L.length ≤ p) : atP L (p + 1) = (false, 0, 0) := by simp [atP, List.getElem?_eq_none h]
theorem atP_zero (L : List (Int × Int)) : atP L 0 = (false, 0, 0) := rfl
theorem atP_bool (L : List (Int × Int)) (p : Nat) : (atP L p).1 = decide (1 ≤ p ∧ p ≤ L.length) := by
  cases p with
  | zero => simp [atP]
  | succ p =>
    by_cases h : p < L.length
    · simp [atP, List.getElem?_eq_getElem h]; omega
    · simp [atP, List.getElem?_eq_none (Nat.le_of_not_lt h)]; omega

/-- Moves with a condition divide by 1 to 1000. -/
def MovesOk (ms : List Act3) : Prop := ∀ a ∈ ms, (a.1 = 7 ∨ a.1 = 8) → 1 ≤ a.2.1 ∧ a.2.1 ≤ 1000
end Go.Proofs.Ytdamfannmlncnaa
