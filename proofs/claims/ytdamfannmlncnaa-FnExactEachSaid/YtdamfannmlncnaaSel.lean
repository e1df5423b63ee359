/- Plain laws on what Select and Map make of a list: acts that put pairs in. No walk. -/
import Derived.Test.YtdamfannmlncnaaLaws
namespace Go.Proofs.Ytdamfannmlncnaa
set_option linter.unusedVariables false

section
variable {f : Int → Int} {P : Int × Int → Bool} {L : List (Int × Int)} {p : Nat} {e : Int × Int}
/-- The acts that put in the pairs of which a test is true. -/
def selA (P : Int × Int → Bool) (L : List (Int × Int)) : List Act3 := putsOf (L.filter P)
theorem selA_hit (ht : L.take (p + 1) = L.take p ++ [e]) (hp : P e = true) : selA P (L.take (p + 1)) = selA P (L.take p) ++ [(1, e.1, e.2)] := by
  unfold selA putsOf
  rw [ht, List.filter_append, List.map_append]
  simp [hp]
theorem selA_miss (ht : L.take (p + 1) = L.take p ++ [e]) (hp : P e = false) : selA P (L.take (p + 1)) = selA P (L.take p) := by
  unfold selA putsOf
  rw [ht, List.filter_append]
  simp [hp]
theorem runA_put (acts : List Act3) (k v : Int) : runA f (acts ++ [(1, k, v)]) = put f k v (runA f acts) := by rw [runA_snoc, stepA_put]
theorem selA_len (P : Int × Int → Bool) (L : List (Int × Int)) : (selA P L).length ≤ L.length := by
  unfold selA putsOf
  rw [List.length_map]
  exact List.length_filter_le P L
/-- A list in order is what comes of putting its pairs in. -/
theorem runA_sel (hs : Srt f L) (P : Int × Int → Bool) : runA f (selA P L) = L.filter P := by
  have hs2 : Srt f (L.filter P) := List.Pairwise.filter P hs
  refine srt_ext (f := f) (runA_srt _) hs2 fun e => ?_
  have := mem_puts (f := f) (L.filter P) (L := []) (by simp [Srt]) (srt_ne hs2) e
  unfold runA selA
  rw [this]
  simp

/-- The acts of a list that put something in. -/
def onlyPuts (acts : List Act3) : List Act3 := acts.filter fun a => decide (a.1 = 1)
theorem onlyPuts_len (acts : List Act3) : (onlyPuts acts).length ≤ acts.length := List.length_filter_le _ _
theorem onlyPuts_hit {acts : List Act3} {a : Act3} (ht : acts.take (p + 1) = acts.take p ++ [a]) (h : a.1 = 1) : onlyPuts (acts.take (p + 1)) = onlyPuts (acts.take p) ++ [a] := by
  unfold onlyPuts
  rw [ht, List.filter_append]
  simp [h]
theorem onlyPuts_miss {acts : List Act3} {a : Act3} (ht : acts.take (p + 1) = acts.take p ++ [a]) (h : ¬ a.1 = 1) : onlyPuts (acts.take (p + 1)) = onlyPuts (acts.take p) := by
  unfold onlyPuts
  rw [ht, List.filter_append]
  simp [h]

/-- What Map's function makes of a pair, as an act: what is left over of the key; the value and the key together, as the machine adds. -/
def mapE (add : Int → Int → Int) (by_ : Int) (e : Int × Int) : Act3 := (1, e.1 % by_, add e.2 e.1)
def mapA (add : Int → Int → Int) (by_ : Int) (L : List (Int × Int)) : List Act3 := L.map (mapE add by_)
theorem mapA_step {add : Int → Int → Int} {by_ : Int} (ht : L.take (p + 1) = L.take p ++ [e]) : mapA add by_ (L.take (p + 1)) = mapA add by_ (L.take p) ++ [(1, e.1 % by_, add e.2 e.1)] := by
  unfold mapA
  rw [ht, List.map_append]
  rfl
theorem mapA_len (add : Int → Int → Int) (by_ : Int) (L : List (Int × Int)) : (mapA add by_ L).length = L.length := List.length_map _
end

/-- Of a test by two, the rest the other way round is the opposite. -/
theorem tests_apart {tr : Int} (h : tr = 0 ∨ tr = 1) (x : Int) : decide (x % 2 = 1 - tr) = !decide (x % 2 = tr) := by
  rcases h with rfl | rfl
  · by_cases h : x % 2 = 0
    · rw [decide_eq_true h, decide_eq_false (by omega)]; rfl
    · rw [decide_eq_false h, decide_eq_true (by omega)]; rfl
  · by_cases h : x % 2 = 1
    · rw [decide_eq_true h, decide_eq_false (by omega)]; rfl
    · rw [decide_eq_false h, decide_eq_true (by omega)]; rfl
theorem filter_lens {α : Type} (P : α → Bool) (L : List α) : (L.filter P).length + (L.filter fun e => !P e).length = L.length := by
  induction L with
  | nil => rfl
  | cons a L ih =>
    cases h : P a with
    | true => simp [h]; omega
    | false => simp [h]; omega
end Go.Proofs.Ytdamfannmlncnaa
