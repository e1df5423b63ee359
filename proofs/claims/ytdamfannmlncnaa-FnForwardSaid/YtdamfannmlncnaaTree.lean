/- Plain facts on red-black trees with marked nodes, on their contexts, and on lists of pairs in order. No program is in sight here. -/
namespace Go.Proofs.Ytdamfannmlncnaa

/-- A tree whose nodes bear a number (their block), a colour (true: black), a key and a value. -/
inductive T where
  | nil : T
  | node (id : Nat) (c : Bool) (l : T) (k v : Int) (r : T) : T

/-- A tree with a hole. -/
inductive Cx where
  | top : Cx
  | left (up : Cx) (id : Nat) (c : Bool) (k v : Int) (r : T) : Cx
  | right (up : Cx) (id : Nat) (c : Bool) (l : T) (k v : Int) : Cx

/-- What a node tells of itself: its block, its key, its value. -/
abbrev Ent := Nat × Int × Int

namespace T
def ptr : T → Option Nat
  | nil => none
  | node id _ _ _ _ _ => some id
def black : T → Bool
  | nil => true
  | node _ c _ _ _ _ => c
/-- The nodes, in order. -/
def ents : T → List Ent
  | nil => []
  | node id _ l k v r => l.ents ++ (id, k, v) :: r.ents
def ids (t : T) : List Nat := t.ents.map (·.1)
def toList (t : T) : List (Int × Int) := t.ents.map (·.2)
def height : T → Nat
  | nil => 0
  | node _ _ l _ _ r => l.height + r.height + 1
/-- Red-black, of black height h. -/
def RB : T → Nat → Prop
  | nil, h => h = 0
  | node _ true l _ _ r, h + 1 => RB l h ∧ RB r h
  | node _ true _ _ _ _, 0 => False
  | node _ false l _ _ r, h => l.black = true ∧ r.black = true ∧ RB l h ∧ RB r h
/-- Red-black with a black root. -/
def RBT (t : T) : Prop := t.black = true ∧ ∃ h, RB t h
end T

namespace Cx
def par : Cx → Option Nat
  | top => none
  | left _ id _ _ _ _ => some id
  | right _ id _ _ _ _ => some id
/-- The colour of the node above the hole; black at the top. -/
def parBlack : Cx → Bool
  | top => true
  | left _ _ c _ _ _ => c
  | right _ _ c _ _ _ => c
/-- A red node may stand in the hole. -/
def redOk : Cx → Bool
  | top => false
  | left _ _ c _ _ _ => c
  | right _ _ c _ _ _ => c
def plug : Cx → T → T
  | top, t => t
  | left up id c k v r, t => up.plug (.node id c t k v r)
  | right up id c l k v, t => up.plug (.node id c l k v t)
def bents : Cx → List Ent
  | top => []
  | left up _ _ _ _ _ => up.bents
  | right up id _ l k v => up.bents ++ (l.ents ++ [(id, k, v)])
def aents : Cx → List Ent
  | top => []
  | left up id _ k v r => ((id, k, v) :: r.ents) ++ up.aents
  | right up _ _ _ _ _ => up.aents
def depth : Cx → Nat
  | top => 0
  | left up _ _ _ _ _ => up.depth + 1
  | right up _ _ _ _ _ => up.depth + 1
/-- What is asked of the hole: black height h. -/
def Ok : Cx → Nat → Prop
  | top, _ => True
  | left up _ true _ _ r, h => r.RB h ∧ Ok up (h + 1)
  | left up _ false _ _ r, h => r.RB h ∧ r.black = true ∧ up.redOk = true ∧ Ok up h
  | right up _ true l _ _, h => l.RB h ∧ Ok up (h + 1)
  | right up _ false l _ _, h => l.RB h ∧ l.black = true ∧ up.redOk = true ∧ Ok up h
end Cx

open T Cx

theorem plug_ents (cx : Cx) : ∀ t : T, (cx.plug t).ents = cx.bents ++ t.ents ++ cx.aents := by
  induction cx with
  | top => intro t; simp [plug, bents, aents]
  | left up id c k v r ih => intro t; simp [plug, bents, aents, ih, ents]
  | right up id c l k v ih => intro t; simp [plug, bents, aents, ih, ents]

theorem RB_black (id l k v r h) : (node id true l k v r).RB (h + 1) ↔ l.RB h ∧ r.RB h := by simp [RB]
theorem RB_red (id l k v r h) : (node id false l k v r).RB h ↔ l.black = true ∧ r.black = true ∧ l.RB h ∧ r.RB h := by
  cases h <;> simp [RB]
theorem RB_zero (id l k v r) : ¬ (node id true l k v r).RB 0 := by simp [RB]
theorem RB_nil (h) : nil.RB h ↔ h = 0 := by simp [RB]

theorem plug_RBT (cx : Cx) : ∀ (t : T) (h : Nat), t.RB h → cx.Ok h → (t.black = true ∨ cx.redOk = true) → RBT (cx.plug t) := by
  induction cx with
  | top => intro t h ht _ hb; simp [redOk] at hb; exact ⟨hb, h, ht⟩
  | left up id c k v r ih =>
    intro t h ht hc hb
    cases c with
    | true => exact ih _ (h + 1) (by rw [RB_black]; exact ⟨ht, hc.1⟩) hc.2 (.inl rfl)
    | false =>
      simp [redOk] at hb
      exact ih _ h (by rw [RB_red]; exact ⟨hb, hc.2.1, ht, hc.1⟩) hc.2.2.2 (.inr hc.2.2.1)
  | right up id c l k v ih =>
    intro t h ht hc hb
    cases c with
    | true => exact ih _ (h + 1) (by rw [RB_black]; exact ⟨hc.1, ht⟩) hc.2 (.inl rfl)
    | false =>
      simp [redOk] at hb
      exact ih _ h (by rw [RB_red]; exact ⟨hc.2.1, hb, hc.1, ht⟩) hc.2.2.2 (.inr hc.2.2.1)

theorem RBT_plug (cx : Cx) : ∀ (t : T), RBT (cx.plug t) → ∃ h, t.RB h ∧ cx.Ok h ∧ (t.black = true ∨ cx.redOk = true) := by
  induction cx with
  | top => intro t ⟨hb, h, ht⟩; exact ⟨h, ht, trivial, .inl hb⟩
  | left up id c k v r ih =>
    intro t ht
    obtain ⟨h, h1, h2, h3⟩ := ih _ ht
    cases c with
    | true =>
      cases h with
      | zero => exact (RB_zero _ _ _ _ _ h1).elim
      | succ h => rw [RB_black] at h1; exact ⟨h, h1.1, ⟨h1.2, h2⟩, .inr rfl⟩
    | false =>
      rw [RB_red] at h1
      simp [black] at h3
      exact ⟨h, h1.2.2.1, ⟨h1.2.2.2, h1.2.1, h3, h2⟩, .inl h1.1⟩
  | right up id c l k v ih =>
    intro t ht
    obtain ⟨h, h1, h2, h3⟩ := ih _ ht
    cases c with
    | true =>
      cases h with
      | zero => exact (RB_zero _ _ _ _ _ h1).elim
      | succ h => rw [RB_black] at h1; exact ⟨h, h1.2, ⟨h1.1, h2⟩, .inr rfl⟩
    | false =>
      rw [RB_red] at h1
      simp [black] at h3
      exact ⟨h, h1.2.2.2, ⟨h1.2.2.1, h1.1, h3, h2⟩, .inl h1.2.1⟩

theorem Ok_left_black (up id k v r h) : (left up id true k v r).Ok h ↔ r.RB h ∧ up.Ok (h + 1) := by simp [Ok]
theorem Ok_left_red (up id k v r h) : (left up id false k v r).Ok h ↔ r.RB h ∧ r.black = true ∧ up.redOk = true ∧ up.Ok h := by simp [Ok]
theorem Ok_right_black (up id k v l h) : (right up id true l k v).Ok h ↔ l.RB h ∧ up.Ok (h + 1) := by simp [Ok]
theorem Ok_right_red (up id k v l h) : (right up id false l k v).Ok h ↔ l.RB h ∧ l.black = true ∧ up.redOk = true ∧ up.Ok h := by simp [Ok]

/-! ### Lists of pairs in the order of a number of each key -/
section
variable (f : Int → Int)

def Srt (l : List (Int × Int)) : Prop := l.Pairwise fun a b => f a.1 < f b.1
/-- A key and its value are put in. -/
def put (k v : Int) : List (Int × Int) → List (Int × Int)
  | [] => [(k, v)]
  | e :: l => if f e.1 < f k then e :: put k v l else if f e.1 = f k then (k, v) :: l else (k, v) :: e :: l
/-- A key is taken out. -/
def del (k : Int) : List (Int × Int) → List (Int × Int)
  | [] => []
  | e :: l => if f e.1 < f k then e :: del k l else if f e.1 = f k then l else e :: l
/-- The pair of a key. -/
def look (k : Int) : List (Int × Int) → Option (Int × Int)
  | [] => none
  | e :: l => if f e.1 < f k then look k l else if f e.1 = f k then some e else none
/-- How many pairs come ahead of a key. -/
def rank (k : Int) : List (Int × Int) → Nat
  | [] => 0
  | e :: l => if f e.1 < f k then rank k l + 1 else 0

variable {f}

theorem put_app {b : List (Int × Int)} {k v : Int} (h : ∀ e ∈ b, f e.1 < f k) (l : List (Int × Int)) : put f k v (b ++ l) = b ++ put f k v l := by
  induction b with
  | nil => rfl
  | cons e b ih =>
    simp only [List.mem_cons, forall_eq_or_imp] at h
    simp [put, h.1, ih h.2]
theorem del_app {b : List (Int × Int)} {k : Int} (h : ∀ e ∈ b, f e.1 < f k) (l : List (Int × Int)) : del f k (b ++ l) = b ++ del f k l := by
  induction b with
  | nil => rfl
  | cons e b ih =>
    simp only [List.mem_cons, forall_eq_or_imp] at h
    simp [del, h.1, ih h.2]
theorem look_app {b : List (Int × Int)} {k : Int} (h : ∀ e ∈ b, f e.1 < f k) (l : List (Int × Int)) : look f k (b ++ l) = look f k l := by
  induction b with
  | nil => rfl
  | cons e b ih =>
    simp only [List.mem_cons, forall_eq_or_imp] at h
    simp [look, h.1, ih h.2]
theorem rank_app {b : List (Int × Int)} {k : Int} (h : ∀ e ∈ b, f e.1 < f k) (l : List (Int × Int)) : rank f k (b ++ l) = b.length + rank f k l := by
  induction b with
  | nil => simp
  | cons e b ih =>
    simp only [List.mem_cons, forall_eq_or_imp] at h
    simp [rank, h.1, ih h.2]; omega
theorem put_hit {k v : Int} {e : Int × Int} (h : f e.1 = f k) (l : List (Int × Int)) : put f k v (e :: l) = (k, v) :: l := by
  simp [put, h]
theorem del_hit {k : Int} {e : Int × Int} (h : f e.1 = f k) (l : List (Int × Int)) : del f k (e :: l) = l := by
  simp [del, h]
theorem look_hit {k : Int} {e : Int × Int} (h : f e.1 = f k) (l : List (Int × Int)) : look f k (e :: l) = some e := by
  simp [look, h]
theorem put_gt {k v : Int} {l : List (Int × Int)} (h : ∀ e ∈ l, f k < f e.1) : put f k v l = (k, v) :: l := by
  cases l with
  | nil => rfl
  | cons e l => have := h e (by simp); simp [put, show ¬ f e.1 < f k by omega, show ¬ f e.1 = f k by omega]
theorem del_gt {k : Int} {l : List (Int × Int)} (h : ∀ e ∈ l, f k < f e.1) : del f k l = l := by
  cases l with
  | nil => rfl
  | cons e l => have := h e (by simp); simp [del, show ¬ f e.1 < f k by omega, show ¬ f e.1 = f k by omega]
theorem look_gt {k : Int} {l : List (Int × Int)} (h : ∀ e ∈ l, f k < f e.1) : look f k l = none := by
  cases l with
  | nil => rfl
  | cons e l => have := h e (by simp); simp [look, show ¬ f e.1 < f k by omega, show ¬ f e.1 = f k by omega]
theorem rank_ge {k : Int} {l : List (Int × Int)} (h : ∀ e ∈ l, f k ≤ f e.1) : rank f k l = 0 := by
  cases l with
  | nil => rfl
  | cons e l => have := h e (by simp); simp [rank, show ¬ f e.1 < f k by omega]

theorem put_mem {k v : Int} {l : List (Int × Int)} : ∀ e ∈ put f k v l, e = (k, v) ∨ e ∈ l := by
  induction l with
  | nil => simp [put]
  | cons a l ih =>
    intro e he
    unfold put at he
    split at he
    · rcases List.mem_cons.1 he with h | h
      · exact .inr (by simp [h])
      · rcases ih e h with h | h
        · exact .inl h
        · exact .inr (by simp [h])
    · split at he
      · rcases List.mem_cons.1 he with h | h
        · exact .inl h
        · exact .inr (by simp [h])
      · rcases List.mem_cons.1 he with h | h
        · exact .inl h
        · exact .inr h
theorem del_mem {k : Int} {l : List (Int × Int)} : ∀ e ∈ del f k l, e ∈ l := by
  induction l with
  | nil => simp [del]
  | cons a l ih =>
    intro e he
    unfold del at he
    split at he
    · rcases List.mem_cons.1 he with h | h
      · simp [h]
      · simp [ih e h]
    · split at he
      · simp [he]
      · exact he
theorem put_srt {k v : Int} {l : List (Int × Int)} (h : Srt f l) : Srt f (put f k v l) := by
  induction l with
  | nil => simp [put, Srt]
  | cons a l ih =>
    have h' := List.pairwise_cons.1 h
    unfold put
    split
    · rename_i hlt
      refine List.pairwise_cons.2 ⟨fun e he => ?_, ih h'.2⟩
      rcases put_mem e he with h | h
      · subst h; exact hlt
      · exact h'.1 e h
    · split
      · rename_i heq
        exact List.pairwise_cons.2 ⟨fun e he => by show f k < _; rw [← heq]; exact h'.1 e he, h'.2⟩
      · rename_i h1 h2
        have hlt : f k < f a.1 := by omega
        refine List.pairwise_cons.2 ⟨fun e he => ?_, h⟩
        rcases List.mem_cons.1 he with h | h
        · subst h; exact hlt
        · have := h'.1 e h; show f k < _; omega
theorem del_srt {k : Int} {l : List (Int × Int)} (h : Srt f l) : Srt f (del f k l) := by
  induction l with
  | nil => simp [del, Srt]
  | cons a l ih =>
    have h' := List.pairwise_cons.1 h
    unfold del
    split
    · exact List.pairwise_cons.2 ⟨fun e he => h'.1 e (del_mem e he), ih h'.2⟩
    · split
      · exact h'.2
      · exact h
theorem put_length {k v : Int} (l : List (Int × Int)) : (put f k v l).length = l.length + if (look f k l).isSome then 0 else 1 := by
  induction l with
  | nil => simp [put, look]
  | cons a l ih =>
    unfold put look
    split
    · simp only [List.length_cons, ih]; omega
    · split
      · simp
      · simp
theorem del_length {k : Int} (l : List (Int × Int)) : (del f k l).length + (if (look f k l).isSome then 1 else 0) = l.length := by
  induction l with
  | nil => simp [del, look]
  | cons a l ih =>
    unfold del look
    split
    · simp only [List.length_cons]; omega
    · split
      · simp
      · simp
end

end Go.Proofs.Ytdamfannmlncnaa
