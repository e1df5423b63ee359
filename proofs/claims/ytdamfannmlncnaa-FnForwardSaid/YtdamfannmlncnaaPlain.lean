/- Plain laws on lists of pairs in order: what is found behind a put, a del. -/
import Derived.Test.YtdamfannmlncnaaTree
namespace Go.Proofs.Ytdamfannmlncnaa
set_option linter.unusedVariables false
section
variable {f : Int → Int}
theorem look_put_same (key val : Int) (L : List (Int × Int)) : look f key (put f key val L) = some (key, val) := by
  induction L with
  | nil => simp [put, look]
  | cons e l ih =>
    unfold put
    split
    · rename_i h; simp [look, h, ih]
    · split
      · simp [look]
      · simp [look]
theorem look_put_other {k key : Int} (val : Int) (h : f k ≠ f key) (L : List (Int × Int)) : look f k (put f key val L) = look f k L := by
  induction L with
  | nil => simp only [put, look]; split; rfl; rw [if_neg (fun e => h e.symm)]
  | cons e l ih =>
    unfold put
    split
    · simp only [look, ih]
    · split
      · rename_i h1 h2
        simp only [look, h2]
        split
        · rfl
        · rw [if_neg (fun e => h e.symm), if_neg (fun e => h e.symm)]
      · rename_i h1 h2
        by_cases h3 : f key < f k
        · rw [look, if_pos h3]
        · rw [look, if_neg h3, if_neg (fun e => h e.symm), look, if_neg (by omega), if_neg (by omega)]
theorem look_none_of_gt {k : Int} {L : List (Int × Int)} (h : ∀ e ∈ L, f k < f e.1) : look f k L = none := look_gt h
theorem look_del_same {key : Int} {L : List (Int × Int)} (hs : Srt f L) : look f key (del f key L) = none := by
  induction L with
  | nil => simp [del, look]
  | cons e l ih =>
    have hs' := List.pairwise_cons.1 hs
    unfold del
    split
    · rename_i h; rw [look, if_pos h, ih hs'.2]
    · split
      · rename_i h1 h2
        exact look_gt fun e' he => by rw [← h2]; exact hs'.1 e' he
      · rename_i h1 h2
        rw [look, if_neg h1, if_neg h2]
theorem look_del_other {k key : Int} {L : List (Int × Int)} (h : f k ≠ f key) (hs : Srt f L) : look f k (del f key L) = look f k L := by
  induction L with
  | nil => rfl
  | cons e l ih =>
    have hs' := List.pairwise_cons.1 hs
    unfold del
    split
    · simp only [look, ih hs'.2]
    · split
      · rename_i h1 h2
        by_cases h3 : f e.1 < f k
        · rw [look, if_pos h3]
        · rw [look, if_neg h3, if_neg (by omega)]
          exact look_gt fun e' he => by have := hs'.1 e' he; omega
      · rfl
end
end Go.Proofs.Ytdamfannmlncnaa
