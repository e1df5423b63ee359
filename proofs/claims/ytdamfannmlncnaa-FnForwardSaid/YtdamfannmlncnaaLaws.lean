/- Plain laws on what acts come to: lists of pairs in order, told by what lies in them. No walk. -/
import Derived.Test.YtdamfannmlncnaaBuilt
import Derived.Test.YtdamfannmlncnaaPlain
namespace Go.Proofs.Ytdamfannmlncnaa
set_option linter.unusedVariables false
section
variable {f : Int → Int}

theorem stepA_srt {L : List (Int × Int)} (h : Srt f L) (a : Act3) : Srt f (stepA f L a) := by
  unfold stepA
  split
  · exact put_srt h
  · split
    · exact del_srt h
    · split
      · simp [Srt]
      · exact h
theorem foldA_srt (acts : List Act3) : ∀ {L : List (Int × Int)}, Srt f L → Srt f (acts.foldl (stepA f) L) := by
  induction acts with
  | nil => intro L h; exact h
  | cons a acts ih => intro L h; exact ih (stepA_srt h a)
theorem runA_srt (acts : List Act3) : Srt f (runA f acts) := foldA_srt acts (by simp [Srt])

/-- What lies in a list behind a put. -/
theorem mem_put {k v : Int} {L : List (Int × Int)} (hs : Srt f L) (e : Int × Int) : e ∈ put f k v L ↔ e = (k, v) ∨ (e ∈ L ∧ f e.1 ≠ f k) := by
  induction L with
  | nil => simp [put]
  | cons a l ih =>
    have hs' := List.pairwise_cons.1 hs
    unfold put
    split
    · rename_i h1
      simp only [List.mem_cons, ih hs'.2]
      constructor
      · rintro (rfl | h | h)
        · exact .inr ⟨.inl rfl, by omega⟩
        · exact .inl h
        · exact .inr ⟨.inr h.1, h.2⟩
      · rintro (h | ⟨rfl | h, h2⟩)
        · exact .inr (.inl h)
        · exact .inl rfl
        · exact .inr (.inr ⟨h, h2⟩)
    · split
      · rename_i h1 h2
        simp only [List.mem_cons]
        constructor
        · rintro (h | h)
          · exact .inl h
          · exact .inr ⟨.inr h, by have := hs'.1 e h; omega⟩
        · rintro (h | ⟨rfl | h, h3⟩)
          · exact .inl h
          · exact absurd h2 h3
          · exact .inr h
      · rename_i h1 h2
        simp only [List.mem_cons]
        constructor
        · rintro (h | rfl | h)
          · exact .inl h
          · exact .inr ⟨.inl rfl, h2⟩
          · exact .inr ⟨.inr h, by have := hs'.1 e h; omega⟩
        · rintro (h | ⟨h, -⟩)
          · exact .inl h
          · exact .inr h
theorem mem_del {k : Int} {L : List (Int × Int)} (hs : Srt f L) (e : Int × Int) : e ∈ del f k L ↔ e ∈ L ∧ f e.1 ≠ f k := by
  induction L with
  | nil => simp [del]
  | cons a l ih =>
    have hs' := List.pairwise_cons.1 hs
    unfold del
    split
    · rename_i h1
      simp only [List.mem_cons, ih hs'.2]
      constructor
      · rintro (rfl | h)
        · exact ⟨.inl rfl, by omega⟩
        · exact ⟨.inr h.1, h.2⟩
      · rintro ⟨rfl | h, h2⟩
        · exact .inl rfl
        · exact .inr ⟨h, h2⟩
    · split
      · rename_i h1 h2
        simp only [List.mem_cons]
        constructor
        · intro h; exact ⟨.inr h, by have := hs'.1 e h; omega⟩
        · rintro ⟨rfl | h, h3⟩
          · exact absurd h2 h3
          · exact h
      · rename_i h1 h2
        simp only [List.mem_cons]
        constructor
        · rintro (rfl | h)
          · exact ⟨.inl rfl, h2⟩
          · exact ⟨.inr h, by have := hs'.1 e h; omega⟩
        · rintro ⟨h, -⟩; exact h

/-- Two lists in order in which the same pairs lie are the same. -/
theorem srt_ext : ∀ {A B : List (Int × Int)}, Srt f A → Srt f B → (∀ e, e ∈ A ↔ e ∈ B) → A = B := by
  intro A
  induction A with
  | nil =>
    intro B _ _ h
    cases B with
    | nil => rfl
    | cons b B => have := (h b).2 (by simp); simp at this
  | cons a A ih =>
    intro B ha hb h
    cases B with
    | nil => have := (h a).1 (by simp); simp at this
    | cons b B =>
      have ha' := List.pairwise_cons.1 ha
      have hb' := List.pairwise_cons.1 hb
      have hab : a = b := by
        have h1 := (h a).1 (by simp)
        have h2 := (h b).2 (by simp)
        rcases List.mem_cons.1 h1 with h1 | h1
        · exact h1
        · rcases List.mem_cons.1 h2 with h2 | h2
          · exact h2.symm
          · have := ha'.1 b h2; have := hb'.1 a h1; omega
      subst hab
      congr 1
      refine ih ha'.2 hb'.2 fun e => ?_
      have he := h e
      simp only [List.mem_cons] at he
      constructor
      · intro h1
        rcases he.1 (.inr h1) with h2 | h2
        · subst h2; have := ha'.1 e h1; omega
        · exact h2
      · intro h1
        rcases he.2 (.inr h1) with h2 | h2
        · subst h2; have := hb'.1 e h1; omega
        · exact h2

theorem look_iff {k : Int} {L : List (Int × Int)} (hs : Srt f L) (e : Int × Int) : look f k L = some e ↔ e ∈ L ∧ f e.1 = f k := by
  induction L with
  | nil => simp [look]
  | cons a l ih =>
    have hs' := List.pairwise_cons.1 hs
    unfold look
    split
    · rename_i h1
      rw [ih hs'.2]
      simp only [List.mem_cons]
      constructor
      · rintro ⟨h, h2⟩; exact ⟨.inr h, h2⟩
      · rintro ⟨rfl | h, h2⟩
        · omega
        · exact ⟨h, h2⟩
    · split
      · rename_i h1 h2
        simp only [Option.some.injEq, List.mem_cons]
        constructor
        · rintro rfl; exact ⟨.inl rfl, h2⟩
        · rintro ⟨rfl | h, h3⟩
          · rfl
          · have := hs'.1 e h; omega
      · rename_i h1 h2
        simp only [List.mem_cons]
        constructor
        · intro h; cases h
        · rintro ⟨rfl | h, h3⟩
          · exact absurd h3 h2
          · have := hs'.1 e h; omega

/-! ### Two acts in either order -/
def touch (f : Int → Int) (a : Act3) (e : Int × Int) (P : Prop) : Prop :=
  if a.1 = 1 then e = (a.2.1, a.2.2) ∨ (P ∧ f e.1 ≠ f a.2.1) else if a.1 = 2 then P ∧ f e.1 ≠ f a.2.1 else P
theorem mem_step {L : List (Int × Int)} (hs : Srt f L) (a : Act3) (h3 : a.1 ≠ 3) (e : Int × Int) : e ∈ stepA f L a ↔ touch f a e (e ∈ L) := by
  unfold stepA touch
  split
  · exact mem_put hs e
  · split
    · exact mem_del hs e
    · exact Iff.rfl
theorem touch_comm {a b : Act3} (hab : f a.2.1 ≠ f b.2.1) (e : Int × Int) (P : Prop) : touch f a e (touch f b e P) ↔ touch f b e (touch f a e P) := by
  unfold touch
  by_cases h1 : a.1 = 1 <;> by_cases h2 : b.1 = 1 <;> by_cases h3 : a.1 = 2 <;> by_cases h4 : b.1 = 2 <;> simp only [h1, h2, h3, h4, if_true, if_false]
  all_goals
    constructor
    all_goals
      intro h
      by_cases ea : e = (a.2.1, a.2.2) <;> by_cases eb : e = (b.2.1, b.2.2) <;> (try subst ea) <;> (try simp_all) <;> omega
theorem step_comm {L : List (Int × Int)} (hs : Srt f L) {a b : Act3} (ha : a.1 ≠ 3) (hb : b.1 ≠ 3) (hab : f a.2.1 ≠ f b.2.1) : stepA f (stepA f L a) b = stepA f (stepA f L b) a := by
  refine srt_ext (stepA_srt (stepA_srt hs a) b) (stepA_srt (stepA_srt hs b) a) fun e => ?_
  rw [mem_step (stepA_srt hs a) b hb, mem_step (stepA_srt hs b) a ha]
  have h1 := mem_step hs a ha e
  have h2 := mem_step hs b hb e
  rw [show touch f b e (e ∈ stepA f L a) = touch f b e (touch f a e (e ∈ L)) by rw [propext h1], show touch f a e (e ∈ stepA f L b) = touch f a e (touch f b e (e ∈ L)) by rw [propext h2]]
  exact (touch_comm hab e _).symm
theorem runA_comm (acts : List Act3) {a b : Act3} (ha : a.1 ≠ 3) (hb : b.1 ≠ 3) (hab : f a.2.1 ≠ f b.2.1) : runA f (acts ++ [a, b]) = runA f (acts ++ [b, a]) := by
  have h := step_comm (f := f) (runA_srt acts) ha hb hab
  unfold runA at h ⊢
  simpa [List.foldl_append] using h

/-! ### Puts alone -/
def putsOf (l : List (Int × Int)) : List Act3 := l.map fun e => (1, e.1, e.2)
theorem mem_puts : ∀ (l : List (Int × Int)) {L : List (Int × Int)}, Srt f L → l.Pairwise (fun a b => f a.1 ≠ f b.1) → ∀ e, e ∈ (putsOf l).foldl (stepA f) L ↔ e ∈ l ∨ (e ∈ L ∧ ∀ x ∈ l, f e.1 ≠ f x.1) := by
  intro l
  induction l with
  | nil => intro L _ _ e; simp [putsOf]
  | cons a l ih =>
    intro L hs hp e
    have hp' := List.pairwise_cons.1 hp
    have h := ih (L := stepA f L (1, a.1, a.2)) (stepA_srt hs _) hp'.2 e
    have e1 : (putsOf (a :: l)).foldl (stepA f) L = (putsOf l).foldl (stepA f) (stepA f L (1, a.1, a.2)) := rfl
    rw [e1, h, stepA_put, mem_put hs]
    simp only [List.mem_cons, forall_eq_or_imp]
    constructor
    · rintro (h | ⟨h | ⟨h, h2⟩, h3⟩)
      · exact .inl (.inr h)
      · exact .inl (.inl h)
      · exact .inr ⟨h, h2, h3⟩
    · rintro ((h | h) | ⟨h, h2, h3⟩)
      · subst h
        exact .inr ⟨.inl rfl, fun x hx => hp'.1 x hx⟩
      · exact .inl h
      · exact .inr ⟨.inr ⟨h, h2⟩, h3⟩
theorem srt_ne {L : List (Int × Int)} (hs : Srt f L) : L.Pairwise (fun a b => f a.1 ≠ f b.1) := List.Pairwise.imp (fun h => by omega) hs
theorem srt_unique {L : List (Int × Int)} (hs : Srt f L) {a b : Int × Int} (ha : a ∈ L) (hb : b ∈ L) (h : f a.1 = f b.1) : a = b := by
  have h1 := (look_iff (k := b.1) hs a).2 ⟨ha, h⟩
  have h2 := (look_iff (k := b.1) hs b).2 ⟨hb, rfl⟩
  rw [h1] at h2
  exact Option.some.inj h2
/-- The pairs of which a test is true, and the others, are all pairs. -/
theorem runA_parts {L : List (Int × Int)} (hs : Srt f L) (p : Int × Int → Bool) : runA f (putsOf (L.filter p) ++ putsOf (L.filter fun e => !p e)) = L := by
  have hd : (L.filter p ++ L.filter fun e => !p e).Pairwise (fun a b => f a.1 ≠ f b.1) := by
    rw [List.pairwise_append]
    refine ⟨List.Pairwise.filter _ (srt_ne hs), List.Pairwise.filter _ (srt_ne hs), fun a ha b hb h => ?_⟩
    rw [List.mem_filter] at ha hb
    have := srt_unique hs ha.1 hb.1 h
    subst this
    have h2 := hb.2
    rw [ha.2] at h2
    simp at h2
  have e1 : putsOf (L.filter p) ++ putsOf (L.filter fun e => !p e) = putsOf (L.filter p ++ L.filter fun e => !p e) := by simp [putsOf]
  rw [e1]
  refine srt_ext (runA_srt _) hs fun e => ?_
  unfold runA
  rw [mem_puts _ (by simp [Srt]) hd]
  simp only [List.mem_append, List.mem_filter]
  constructor
  · rintro ((h | h) | h)
    · exact h.1
    · exact h.1
    · simp at h
  · intro h
    cases hp : p e with
    | true => exact .inl (.inl ⟨h, rfl⟩)
    | false => exact .inl (.inr ⟨h, rfl⟩)

/-! ### Downwards -/
theorem mem_run {g : Int → Int} (hf : ∀ a b, f a = f b → a = b) (hg : ∀ a b, g a = g b → a = b) (acts : List Act3) : ∀ {A B : List (Int × Int)}, Srt f A → Srt g B → (∀ e, e ∈ A ↔ e ∈ B) → ∀ e, e ∈ acts.foldl (stepA f) A ↔ e ∈ acts.foldl (stepA g) B := by
  induction acts with
  | nil => intro A B _ _ h; exact h
  | cons a acts ih =>
    intro A B ha hb h
    refine ih (stepA_srt ha a) (stepA_srt hb a) fun e => ?_
    have key : (f e.1 ≠ f a.2.1) = (g e.1 ≠ g a.2.1) := by
      refine propext ⟨fun hh h2 => hh ?_, fun hh h2 => hh ?_⟩
      · rw [hg _ _ h2]
      · rw [hf _ _ h2]
    by_cases h3 : a.1 = 3
    · have e1 : ∀ (F : Int → Int) L, stepA F L a = [] := fun F L => by simp [stepA, h3]
      rw [e1, e1]
    · rw [mem_step ha a h3, mem_step hb a h3]
      unfold touch
      rw [key, propext (h e)]
theorem runA_turned (m m' : Int) (acts : List Act3) : runA (ordf 1 m) acts = (runA (ordf 0 m') acts).reverse := by
  have hf : ∀ a b, ordf 0 m' a = ordf 0 m' b → a = b := fun a b h => by simpa [ordf] using h
  have hg : ∀ a b, ordf 1 m a = ordf 1 m b → a = b := fun a b h => by have : -a = -b := by simpa [ordf] using h
                                                                      omega
  have hr : Srt (ordf 1 m) (runA (ordf 0 m') acts).reverse := by
    unfold Srt
    rw [List.pairwise_reverse]
    refine List.Pairwise.imp (fun {a b} h => ?_) (runA_srt (f := ordf 0 m') acts)
    simp [ordf] at h ⊢
    omega
  refine srt_ext (runA_srt acts) hr fun e => ?_
  rw [List.mem_reverse]
  exact mem_run hg hf acts (by simp [Srt]) (by simp [Srt]) (fun _ => Iff.rfl) e

/-! ### By places -/
theorem rank_le (k : Int) (L : List (Int × Int)) : rank f k L ≤ L.length := by
  induction L with
  | nil => simp [rank]
  | cons e l ih => unfold rank; split <;> simp <;> omega
theorem rank_lt {k : Int} : ∀ {L : List (Int × Int)} {i : Nat} (h : i < rank f k L) (h' : i < L.length), f L[i].1 < f k := by
  intro L
  induction L with
  | nil => intro i h h'; simp at h'
  | cons e l ih =>
    intro i h h'
    unfold rank at h
    split at h
    · rename_i h1
      cases i with
      | zero => exact h1
      | succ i => exact ih (by omega) (by simpa using h')
    · omega
theorem rank_stop {k : Int} : ∀ {L : List (Int × Int)} (h : rank f k L < L.length), ¬ f (L[rank f k L]'h).1 < f k := by
  intro L
  induction L with
  | nil => intro h; simp at h
  | cons e l ih =>
    intro h
    by_cases h1 : f e.1 < f k
    · have e1 : rank f k (e :: l) = rank f k l + 1 := by rw [rank, if_pos h1]
      simp only [e1] at h ⊢
      exact ih (by simpa using h)
    · have e1 : rank f k (e :: l) = 0 := by rw [rank, if_neg h1]
      simp only [e1]
      exact h1
/-- The pair at the place of a key is the key's own. -/
def hasA (f : Int → Int) (k : Int) (L : List (Int × Int)) : Bool := match L[rank f k L]? with | none => false | some e => decide (f e.1 = f k)
theorem look_rank (k : Int) (L : List (Int × Int)) : look f k L = if hasA f k L = true then L[rank f k L]? else none := by
  induction L with
  | nil => simp [look]
  | cons e l ih =>
    by_cases h1 : f e.1 < f k
    · rw [look, if_pos h1, ih]
      have e1 : rank f k (e :: l) = rank f k l + 1 := by rw [rank, if_pos h1]
      have e2 : hasA f k (e :: l) = hasA f k l := by unfold hasA; rw [e1]; rfl
      rw [e1, e2]
      rfl
    · have e1 : rank f k (e :: l) = 0 := by rw [rank, if_neg h1]
      have e2 : hasA f k (e :: l) = decide (f e.1 = f k) := by unfold hasA; rw [e1]; rfl
      rw [look, if_neg h1, e1, e2]
      by_cases h2 : f e.1 = f k <;> simp [h2]
theorem put_rank (k v : Int) (L : List (Int × Int)) : put f k v L = L.take (rank f k L) ++ (k, v) :: L.drop (rank f k L + if hasA f k L = true then 1 else 0) := by
  induction L with
  | nil => simp [put, rank]
  | cons e l ih =>
    by_cases h1 : f e.1 < f k
    · have e1 : rank f k (e :: l) = rank f k l + 1 := by rw [rank, if_pos h1]
      have e2 : hasA f k (e :: l) = hasA f k l := by unfold hasA; rw [e1]; rfl
      rw [put, if_pos h1, ih, e1, e2, List.take_succ_cons, show rank f k l + 1 + (if hasA f k l = true then 1 else 0) = (rank f k l + if hasA f k l = true then 1 else 0) + 1 by omega, List.drop_succ_cons]
      rfl
    · have e1 : rank f k (e :: l) = 0 := by rw [rank, if_neg h1]
      have e2 : hasA f k (e :: l) = decide (f e.1 = f k) := by unfold hasA; rw [e1]; rfl
      rw [put, if_neg h1, e1, e2]
      by_cases h2 : f e.1 = f k <;> simp [h2]
theorem del_rank (k : Int) (L : List (Int × Int)) : del f k L = if hasA f k L = true then L.take (rank f k L) ++ L.drop (rank f k L + 1) else L := by
  induction L with
  | nil => simp [del]
  | cons e l ih =>
    by_cases h1 : f e.1 < f k
    · have e1 : rank f k (e :: l) = rank f k l + 1 := by rw [rank, if_pos h1]
      have e2 : hasA f k (e :: l) = hasA f k l := by unfold hasA; rw [e1]; rfl
      rw [del, if_pos h1, ih, e1, e2]
      split <;> simp
    · have e1 : rank f k (e :: l) = 0 := by rw [rank, if_neg h1]
      have e2 : hasA f k (e :: l) = decide (f e.1 = f k) := by unfold hasA; rw [e1]; rfl
      rw [del, if_neg h1, e1, e2]
      by_cases h2 : f e.1 = f k <;> simp [h2]
theorem hasA_lt {k : Int} {L : List (Int × Int)} (h : hasA f k L = true) : rank f k L < L.length := by
  unfold hasA at h
  split at h
  · cases h
  · rename_i e he
    exact (List.getElem?_eq_some_iff.1 he).1
/-- The last pair that does not come behind a key. -/
def floorA (f : Int → Int) (k : Int) (L : List (Int × Int)) : Option (Int × Int) := if hasA f k L = true then L[rank f k L]? else if rank f k L = 0 then none else L[rank f k L - 1]?
/-- The first pair that does not come ahead of a key. -/
def ceilA (f : Int → Int) (k : Int) (L : List (Int × Int)) : Option (Int × Int) := L[rank f k L]?
end
end Go.Proofs.Ytdamfannmlncnaa
