/- What the cases ahead of a deletion come to: a context that wants one black less. -/
import Derived.Test.YtdamfannmlncnaaDel
namespace Go.Proofs.Ytdamfannmlncnaa
open Go.RowKit
set_option linter.unusedVariables false
set_option linter.unusedSimpArgs false

/-- The context above a parent of colour pc that holds subtrees of black height h + 1. -/
def UpOk (up : Cx) (pc : Bool) (h : Nat) : Prop := if pc then up.Ok (h + 2) else up.redOk = true ∧ up.Ok (h + 1)

/-- What is left behind: the same focus in a context of the same nodes, which wants one black less and has a black node above the hole. -/
def DelPost (tb : Nat) (n : Int) (cv : Value) (cx : Cx) (t : T) (h : Nat) (w : World) (e : Ending) (w' : World) : Prop :=
  e = .returned (.tuple #[]) ∧ ∃ cx' : Cx, TreeIn w' tb n cv (cx'.plug t) ∧ cx'.bents = cx.bents ∧ cx'.aents = cx.aents ∧ cx'.Ok h ∧ cx'.parBlack = true ∧ Keep (Own tb (cx.plug t)) w w'
theorem DelPost.ret {tb : Nat} {n : Int} {cv : Value} {cx : Cx} {t : T} {h : Nat} {w : World} : ∀ e w', DelPost tb n cv cx t h w e w' → e = .returned (.tuple #[]) := fun _ _ h => h.1

section
variable {w : World} {tb : Nat} {n : Int} {cv : Value} {up : Cx} {x p y z : Nat} {l r inn out a b zl zr : T} {k v pk pv sk sv zk zv : Int} {c pc yc zc : Bool} {h : Nat}

theorem ok_split_L (hok : (Cx.left up p pc pk pv a).Ok (h + 1)) : a.RB (h + 1) ∧ (pc = false → a.black = true) ∧ UpOk up pc h := by
  cases pc with
  | true => rw [Ok_left_black] at hok; exact ⟨hok.1, (fun e => by cases e), hok.2⟩
  | false => rw [Ok_left_red] at hok; exact ⟨hok.1, fun _ => hok.2.1, hok.2.2.1, hok.2.2.2⟩
theorem ok_two_L (ha : a.RB h) (hb : b.RB (h + 1)) (hbb : b.black = true) (hu : UpOk up pc h) : (Cx.left (Cx.left up y pc sk sv b) p true pk pv a).Ok h := by
  rw [Ok_left_black]
  refine ⟨ha, ?_⟩
  cases pc with
  | true => rw [Ok_left_black]; exact ⟨hb, hu⟩
  | false => rw [Ok_left_red]; exact ⟨hb, hbb, hu⟩

theorem ok_split_R (hok : (Cx.right up p pc a pk pv).Ok (h + 1)) : a.RB (h + 1) ∧ (pc = false → a.black = true) ∧ UpOk up pc h := by
  cases pc with
  | true => rw [Ok_right_black] at hok; exact ⟨hok.1, (fun e => by cases e), hok.2⟩
  | false => rw [Ok_right_red] at hok; exact ⟨hok.1, fun _ => hok.2.1, hok.2.2.1, hok.2.2.2⟩
theorem ok_two_R (ha : a.RB h) (hb : b.RB (h + 1)) (hbb : b.black = true) (hu : UpOk up pc h) : (Cx.right (Cx.right up y pc b sk sv) p true a pk pv).Ok h := by
  rw [Ok_right_black]
  refine ⟨ha, ?_⟩
  cases pc with
  | true => rw [Ok_right_black]; exact ⟨hb, hu⟩
  | false => rw [Ok_right_red]; exact ⟨hb, hbb, hu⟩

theorem D5_L (hok : (Cx.left up p pc pk pv (.node y true inn sk sv out)).Ok (h + 1)) (hred : inn.black = true → out.black = false) (ht : TreeIn w tb n cv (up.plug (.node p pc (.node x c l k v r) pk pv (.node y true inn sk sv out)))) :
    Calls Try.prog 143 #[.pointer (some ⟨tb, 0, none⟩), .pointer (some ⟨x, 0, none⟩)] w (DelPost tb n cv (Cx.left up p pc pk pv (.node y true inn sk sv out)) (.node x c l k v r) h w) := by
  obtain ⟨hs, _, hu⟩ := ok_split_L hok
  rw [RB_black] at hs
  have hi := hs.1
  have ho := hs.2
  clear hs hok
  cases hob : out.black with
  | false =>
    cases out with
    | nil => cases hob
    | node z zc zl zk zv zr =>
      obtain rfl : zc = false := hob
      have H6 : Calls Try.prog 144 #[.pointer (some ⟨tb, 0, none⟩), .pointer (some ⟨x, 0, none⟩)] w (DelPost tb n cv (Cx.left up p pc pk pv (.node y true inn sk sv (.node z false zl zk zv zr))) (.node x c l k v r) h w) := by
        refine (delete6_L rfl ht).mono ?_
        rintro e w' ⟨rfl, ht', hk⟩
        rw [RB_red] at ho
        exact ⟨rfl, (Cx.left (Cx.left up y pc sk sv (.node z true zl zk zv zr)) p true pk pv inn), ht', by simp [Cx.bents, Cx.aents, T.ents], by simp [Cx.bents, Cx.aents, T.ents], ok_two_L hi ((RB_black _ _ _ _ _ _).2 ⟨ho.2.2.1, ho.2.2.2⟩) rfl hu, rfl, hk⟩
      cases hib : inn.black with
      | true => exact delete5_pass1_L DelPost.ret hib ht H6
      | false => exact delete5_pass2_L DelPost.ret hib rfl ht H6
  | true =>
    cases hib : inn.black with
    | true => rw [hred hib] at hob; cases hob
    | false =>
      cases inn with
      | nil => cases hib
      | node z zc zl zk zv zr =>
        obtain rfl : zc = false := hib
        refine delete5_turn_L DelPost.ret hob ht fun w3 ht3 hk3 => ?_
        refine (delete6_L (y := z) (z := y) rfl ht3).mono ?_
        rintro e w' ⟨rfl, ht', hk⟩
        rw [RB_red] at hi
        refine ⟨rfl, (Cx.left (Cx.left up z pc zk zv (.node y true zr sk sv out)) p true pk pv zl), ht', by simp [Cx.bents, Cx.aents, T.ents], by simp [Cx.bents, Cx.aents, T.ents], ok_two_L hi.2.2.1 ((RB_black _ _ _ _ _ _).2 ⟨hi.2.2.2, ho⟩) rfl hu, rfl, hk3.own hk ?_⟩
        simp [plug_ents, T.ents, Cx.bents, Cx.aents]

theorem D4_L (hok : (Cx.left up p pc pk pv (.node y true inn sk sv out)).Ok (h + 1)) (hnot : pc = true → inn.black = true → out.black = false) (ht : TreeIn w tb n cv (up.plug (.node p pc (.node x c l k v r) pk pv (.node y true inn sk sv out)))) :
    Calls Try.prog 141 #[.pointer (some ⟨tb, 0, none⟩), .pointer (some ⟨x, 0, none⟩)] w (DelPost tb n cv (Cx.left up p pc pk pv (.node y true inn sk sv out)) (.node x c l k v r) h w) := by
  cases pc with
  | true => exact delete4_passP_L DelPost.ret ht (D5_L hok (hnot rfl) ht)
  | false =>
    cases h1 : inn.black with
    | false => exact delete4_passA_L DelPost.ret h1 ht (D5_L hok (fun e => by rw [h1] at e; cases e) ht)
    | true =>
      cases h2 : out.black with
      | false => exact delete4_passB_L DelPost.ret h1 h2 ht (D5_L hok (fun _ => h2) ht)
      | true =>
        refine (delete4_here_L h1 h2 ht).mono ?_
        rintro e w' ⟨rfl, ht', hk⟩
        obtain ⟨hs, _, hu⟩ := ok_split_L hok
        rw [RB_black] at hs
        exact ⟨rfl, (Cx.left up p true pk pv (.node y false inn sk sv out)), ht', by simp [Cx.bents, Cx.aents, T.ents], by simp [Cx.bents, Cx.aents, T.ents], (Ok_left_black _ _ _ _ _ _).2 ⟨(RB_red _ _ _ _ _ _).2 ⟨h1, h2, hs.1, hs.2⟩, hu.2⟩, rfl, hk⟩
theorem D3_L (hok : (Cx.left up p pc pk pv (.node y true inn sk sv out)).Ok (h + 1)) (ht : TreeIn w tb n cv (up.plug (.node p pc (.node x c l k v r) pk pv (.node y true inn sk sv out))))
    (ih : pc = true → ∀ w1, TreeIn w1 tb n cv (up.plug (.node p true (.node x c l k v r) pk pv (.node y false inn sk sv out))) → Calls Try.prog 129 #[.pointer (some ⟨tb, 0, none⟩), .pointer (some ⟨p, 0, none⟩)] w1 (DelPost tb n cv up (.node p true (.node x c l k v r) pk pv (.node y false inn sk sv out)) (h + 1) w1)) :
    Calls Try.prog 137 #[.pointer (some ⟨tb, 0, none⟩), .pointer (some ⟨x, 0, none⟩)] w (DelPost tb n cv (Cx.left up p pc pk pv (.node y true inn sk sv out)) (.node x c l k v r) h w) := by
  cases pc with
  | false => exact delete3_passP_L DelPost.ret ht (D4_L hok (fun e => by cases e) ht)
  | true =>
    cases h1 : inn.black with
    | false => exact delete3_passA_L DelPost.ret h1 ht (D4_L hok (fun _ e => by rw [h1] at e; cases e) ht)
    | true =>
      cases h2 : out.black with
      | false => exact delete3_passB_L DelPost.ret h1 h2 ht (D4_L hok (fun _ _ => h2) ht)
      | true =>
        refine delete3_up_L DelPost.ret h1 h2 ht fun w1 ht1 hk1 => ?_
        refine (ih rfl w1 ht1).mono ?_
        rintro e w' ⟨rfl, cx', ht', hb, ha, hok', hpb, hk⟩
        obtain ⟨hs, _, hu⟩ := ok_split_L hok
        rw [RB_black] at hs
        refine ⟨rfl, (Cx.left cx' p true pk pv (.node y false inn sk sv out)), ht', by simp [Cx.bents, T.ents, hb], by simp [Cx.aents, T.ents, ha], (Ok_left_black _ _ _ _ _ _).2 ⟨(RB_red _ _ _ _ _ _).2 ⟨h1, h2, hs.1, hs.2⟩, hok'⟩, rfl, hk1.own hk ?_⟩
        simp [plug_ents, T.ents, Cx.bents, Cx.aents]

theorem D2_L (hok : (Cx.left up p pc pk pv (.node y yc inn sk sv out)).Ok (h + 1)) (ht : TreeIn w tb n cv (up.plug (.node p pc (.node x c l k v r) pk pv (.node y yc inn sk sv out))))
    (ih : ∀ (t : Nat × Bool × T × Int × Int × T) w1, TreeIn w1 tb n cv (up.plug (.node t.1 t.2.1 t.2.2.1 t.2.2.2.1 t.2.2.2.2.1 t.2.2.2.2.2)) → up.Ok (h + 2) →
      Calls Try.prog 129 #[.pointer (some ⟨tb, 0, none⟩), .pointer (some ⟨t.1, 0, none⟩)] w1 (DelPost tb n cv up (.node t.1 t.2.1 t.2.2.1 t.2.2.2.1 t.2.2.2.2.1 t.2.2.2.2.2) (h + 1) w1)) :
    Calls Try.prog 132 #[.pointer (some ⟨tb, 0, none⟩), .pointer (some ⟨x, 0, none⟩)] w (DelPost tb n cv (Cx.left up p pc pk pv (.node y yc inn sk sv out)) (.node x c l k v r) h w) := by
  cases yc with
  | true =>
    refine delete2_pass_L DelPost.ret ht (D3_L hok ht fun e w1 ht1 => ?_)
    subst e
    exact ih (p, true, (.node x c l k v r), pk, pv, (.node y false inn sk sv out)) w1 ht1 (ok_split_L hok).2.2
  | false =>
    obtain ⟨hs, hpc, hu⟩ := ok_split_L hok
    cases pc with
    | false => cases hpc rfl
    | true =>
    rw [RB_red] at hs
    refine delete2_turn_L DelPost.ret ht fun w3 ht3 hk3 => ?_
    cases inn with
    | nil => exact absurd ((RB_nil _).1 hs.2.2.1) (by omega)
    | node q qc ql qk qv qr =>
      have hqb : qc = true := hs.1
      subst hqb
      have hok3 : (Cx.left (Cx.left up y true sk sv out) p false pk pv (.node q true ql qk qv qr)).Ok (h + 1) := (Ok_left_red _ _ _ _ _ _).2 ⟨hs.2.2.1, rfl, rfl, (Ok_left_black _ _ _ _ _ _).2 ⟨hs.2.2.2, hu⟩⟩
      refine (D3_L (up := (Cx.left up y true sk sv out)) hok3 ht3 (fun e => by cases e)).mono ?_
      rintro e w' ⟨rfl, cx', ht', hb, ha, hok', hpb, hk⟩
      refine ⟨rfl, cx', ht', hb.trans (by simp [Cx.bents, Cx.aents, T.ents]), ha.trans (by simp [Cx.bents, Cx.aents, T.ents]), hok', hpb, hk3.own hk ?_⟩
      simp [plug_ents, T.ents, Cx.bents, Cx.aents]

theorem D5_R (hok : (Cx.right up p pc (.node y true out sk sv inn) pk pv).Ok (h + 1)) (hred : inn.black = true → out.black = false) (ht : TreeIn w tb n cv (up.plug (.node p pc (.node y true out sk sv inn) pk pv (.node x c l k v r)))) :
    Calls Try.prog 143 #[.pointer (some ⟨tb, 0, none⟩), .pointer (some ⟨x, 0, none⟩)] w (DelPost tb n cv (Cx.right up p pc (.node y true out sk sv inn) pk pv) (.node x c l k v r) h w) := by
  obtain ⟨hs, _, hu⟩ := ok_split_R hok
  rw [RB_black] at hs
  have hi := hs.2
  have ho := hs.1
  clear hs hok
  cases hob : out.black with
  | false =>
    cases out with
    | nil => cases hob
    | node z zc zl zk zv zr =>
      obtain rfl : zc = false := hob
      have H6 : Calls Try.prog 144 #[.pointer (some ⟨tb, 0, none⟩), .pointer (some ⟨x, 0, none⟩)] w (DelPost tb n cv (Cx.right up p pc (.node y true (.node z false zl zk zv zr) sk sv inn) pk pv) (.node x c l k v r) h w) := by
        refine (delete6_R rfl ht).mono ?_
        rintro e w' ⟨rfl, ht', hk⟩
        rw [RB_red] at ho
        exact ⟨rfl, (Cx.right (Cx.right up y pc (.node z true zl zk zv zr) sk sv) p true inn pk pv), ht', by simp [Cx.bents, Cx.aents, T.ents], by simp [Cx.bents, Cx.aents, T.ents], ok_two_R hi ((RB_black _ _ _ _ _ _).2 ⟨ho.2.2.1, ho.2.2.2⟩) rfl hu, rfl, hk⟩
      cases hib : inn.black with
      | true => exact delete5_pass1_R DelPost.ret hib ht H6
      | false => exact delete5_pass2_R DelPost.ret hib rfl ht H6
  | true =>
    cases hib : inn.black with
    | true => rw [hred hib] at hob; cases hob
    | false =>
      cases inn with
      | nil => cases hib
      | node z zc zl zk zv zr =>
        obtain rfl : zc = false := hib
        refine delete5_turn_R DelPost.ret hob ht fun w3 ht3 hk3 => ?_
        refine (delete6_R (y := z) (z := y) rfl ht3).mono ?_
        rintro e w' ⟨rfl, ht', hk⟩
        rw [RB_red] at hi
        refine ⟨rfl, (Cx.right (Cx.right up z pc (.node y true out sk sv zl) zk zv) p true zr pk pv), ht', by simp [Cx.bents, Cx.aents, T.ents], by simp [Cx.bents, Cx.aents, T.ents], ok_two_R hi.2.2.2 ((RB_black _ _ _ _ _ _).2 ⟨ho, hi.2.2.1⟩) rfl hu, rfl, hk3.own hk ?_⟩
        simp [plug_ents, T.ents, Cx.bents, Cx.aents]

theorem D4_R (hok : (Cx.right up p pc (.node y true out sk sv inn) pk pv).Ok (h + 1)) (hnot : pc = true → inn.black = true → out.black = false) (ht : TreeIn w tb n cv (up.plug (.node p pc (.node y true out sk sv inn) pk pv (.node x c l k v r)))) :
    Calls Try.prog 141 #[.pointer (some ⟨tb, 0, none⟩), .pointer (some ⟨x, 0, none⟩)] w (DelPost tb n cv (Cx.right up p pc (.node y true out sk sv inn) pk pv) (.node x c l k v r) h w) := by
  cases pc with
  | true => exact delete4_passP_R DelPost.ret ht (D5_R hok (hnot rfl) ht)
  | false =>
    cases h1 : out.black with
    | false => exact delete4_passA_R DelPost.ret h1 ht (D5_R hok (fun _ => h1) ht)
    | true =>
      cases h2 : inn.black with
      | false => exact delete4_passB_R DelPost.ret h1 h2 ht (D5_R hok (fun e => by rw [h2] at e; cases e) ht)
      | true =>
        refine (delete4_here_R h2 h1 ht).mono ?_
        rintro e w' ⟨rfl, ht', hk⟩
        obtain ⟨hs, _, hu⟩ := ok_split_R hok
        rw [RB_black] at hs
        exact ⟨rfl, (Cx.right up p true (.node y false out sk sv inn) pk pv), ht', by simp [Cx.bents, Cx.aents, T.ents], by simp [Cx.bents, Cx.aents, T.ents], (Ok_right_black _ _ _ _ _ _).2 ⟨(RB_red _ _ _ _ _ _).2 ⟨h1, h2, hs.1, hs.2⟩, hu.2⟩, rfl, hk⟩
theorem D3_R (hok : (Cx.right up p pc (.node y true out sk sv inn) pk pv).Ok (h + 1)) (ht : TreeIn w tb n cv (up.plug (.node p pc (.node y true out sk sv inn) pk pv (.node x c l k v r))))
    (ih : pc = true → ∀ w1, TreeIn w1 tb n cv (up.plug (.node p true (.node y false out sk sv inn) pk pv (.node x c l k v r))) → Calls Try.prog 129 #[.pointer (some ⟨tb, 0, none⟩), .pointer (some ⟨p, 0, none⟩)] w1 (DelPost tb n cv up (.node p true (.node y false out sk sv inn) pk pv (.node x c l k v r)) (h + 1) w1)) :
    Calls Try.prog 137 #[.pointer (some ⟨tb, 0, none⟩), .pointer (some ⟨x, 0, none⟩)] w (DelPost tb n cv (Cx.right up p pc (.node y true out sk sv inn) pk pv) (.node x c l k v r) h w) := by
  cases pc with
  | false => exact delete3_passP_R DelPost.ret ht (D4_R hok (fun e => by cases e) ht)
  | true =>
    cases h1 : out.black with
    | false => exact delete3_passA_R DelPost.ret h1 ht (D4_R hok (fun _ _ => h1) ht)
    | true =>
      cases h2 : inn.black with
      | false => exact delete3_passB_R DelPost.ret h1 h2 ht (D4_R hok (fun _ e => by rw [h2] at e; cases e) ht)
      | true =>
        refine delete3_up_R DelPost.ret h2 h1 ht fun w1 ht1 hk1 => ?_
        refine (ih rfl w1 ht1).mono ?_
        rintro e w' ⟨rfl, cx', ht', hb, ha, hok', hpb, hk⟩
        obtain ⟨hs, _, hu⟩ := ok_split_R hok
        rw [RB_black] at hs
        refine ⟨rfl, (Cx.right cx' p true (.node y false out sk sv inn) pk pv), ht', by simp [Cx.bents, T.ents, hb], by simp [Cx.aents, T.ents, ha], (Ok_right_black _ _ _ _ _ _).2 ⟨(RB_red _ _ _ _ _ _).2 ⟨h1, h2, hs.1, hs.2⟩, hok'⟩, rfl, hk1.own hk ?_⟩
        simp [plug_ents, T.ents, Cx.bents, Cx.aents]

theorem D2_R (hok : (Cx.right up p pc (.node y yc out sk sv inn) pk pv).Ok (h + 1)) (ht : TreeIn w tb n cv (up.plug (.node p pc (.node y yc out sk sv inn) pk pv (.node x c l k v r))))
    (ih : ∀ (t : Nat × Bool × T × Int × Int × T) w1, TreeIn w1 tb n cv (up.plug (.node t.1 t.2.1 t.2.2.1 t.2.2.2.1 t.2.2.2.2.1 t.2.2.2.2.2)) → up.Ok (h + 2) →
      Calls Try.prog 129 #[.pointer (some ⟨tb, 0, none⟩), .pointer (some ⟨t.1, 0, none⟩)] w1 (DelPost tb n cv up (.node t.1 t.2.1 t.2.2.1 t.2.2.2.1 t.2.2.2.2.1 t.2.2.2.2.2) (h + 1) w1)) :
    Calls Try.prog 132 #[.pointer (some ⟨tb, 0, none⟩), .pointer (some ⟨x, 0, none⟩)] w (DelPost tb n cv (Cx.right up p pc (.node y yc out sk sv inn) pk pv) (.node x c l k v r) h w) := by
  cases yc with
  | true =>
    refine delete2_pass_R DelPost.ret ht (D3_R hok ht fun e w1 ht1 => ?_)
    subst e
    exact ih (p, true, (.node y false out sk sv inn), pk, pv, (.node x c l k v r)) w1 ht1 (ok_split_R hok).2.2
  | false =>
    obtain ⟨hs, hpc, hu⟩ := ok_split_R hok
    cases pc with
    | false => cases hpc rfl
    | true =>
    rw [RB_red] at hs
    refine delete2_turn_R DelPost.ret ht fun w3 ht3 hk3 => ?_
    cases inn with
    | nil => exact absurd ((RB_nil _).1 hs.2.2.2) (by omega)
    | node q qc ql qk qv qr =>
      have hqb : qc = true := hs.2.1
      subst hqb
      have hok3 : (Cx.right (Cx.right up y true out sk sv) p false (.node q true ql qk qv qr) pk pv).Ok (h + 1) := (Ok_right_red _ _ _ _ _ _).2 ⟨hs.2.2.2, rfl, rfl, (Ok_right_black _ _ _ _ _ _).2 ⟨hs.2.2.1, hu⟩⟩
      refine (D3_R (up := (Cx.right up y true out sk sv)) hok3 ht3 (fun e => by cases e)).mono ?_
      rintro e w' ⟨rfl, cx', ht', hb, ha, hok', hpb, hk⟩
      refine ⟨rfl, cx', ht', hb.trans (by simp [Cx.bents, Cx.aents, T.ents]), ha.trans (by simp [Cx.bents, Cx.aents, T.ents]), hok', hpb, hk3.own hk ?_⟩
      simp [plug_ents, T.ents, Cx.bents, Cx.aents]

end

theorem deleteCase1_any (tb : Nat) (n : Int) (cv : Value) (cx : Cx) : ∀ (x : Nat) (c : Bool) (l r : T) (k v : Int) (h : Nat) (w : World),
    TreeIn w tb n cv (cx.plug (.node x c l k v r)) → cx.Ok (h + 1) →
    Calls Try.prog 129 #[.pointer (some ⟨tb, 0, none⟩), .pointer (some ⟨x, 0, none⟩)] w (DelPost tb n cv cx (.node x c l k v r) h w) := by
  induction cx with
  | top =>
    intro x c l r k v h w ht _
    refine (delete1_top (node_par ht.node)).mono ?_
    rintro e w' ⟨rfl, rfl⟩
    exact ⟨rfl, .top, ht, rfl, rfl, trivial, rfl, Keep.refl _ _⟩
  | left up p pc pk pv s ih =>
    intro x c l r k v h w ht hok
    refine delete1_pass DelPost.ret (node_par ht.node) ?_
    cases s with
    | nil => exact absurd ((RB_nil _).1 (ok_split_L hok).1) (by omega)
    | node y yc sl sk sv sr =>
      exact D2_L hok ht fun t w1 ht1 hu => ih t.1 t.2.1 t.2.2.1 t.2.2.2.2.2 t.2.2.2.1 t.2.2.2.2.1 (h + 1) w1 ht1 hu
  | right up p pc s pk pv ih =>
    intro x c l r k v h w ht hok
    refine delete1_pass DelPost.ret (node_par ht.node) ?_
    cases s with
    | nil => exact absurd ((RB_nil _).1 (ok_split_R hok).1) (by omega)
    | node y yc sl sk sv sr =>
      exact D2_R hok ht fun t w1 ht1 hu => ih t.1 t.2.1 t.2.2.1 t.2.2.2.2.2 t.2.2.2.1 t.2.2.2.2.1 (h + 1) w1 ht1 hu

end Go.Proofs.Ytdamfannmlncnaa
