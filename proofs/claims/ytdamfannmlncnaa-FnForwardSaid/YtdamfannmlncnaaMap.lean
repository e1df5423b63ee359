/- The package's map: NewWith, Put, Get, Remove, Clear, walked; by. -/
import Derived.Test.YtdamfannmlncnaaRem
namespace Go.Proofs.Ytdamfannmlncnaa
open Go.RowKit
set_option linter.unusedVariables false
set_option linter.unusedSimpArgs false

def mapObj (tb : Nat) : Obj := .cells #[.pointer (some ⟨tb, 0, none⟩)] 118 (0, 0)
theorem map_tree {w : World} {mb tb : Nat} (h : w.heap[mb]? = some (mapObj tb)) : w.cell? ⟨mb, 0, none⟩ = some (.pointer (some ⟨tb, 0, none⟩)) := by simp [World.cell?, h, mapObj]

/-- A map of the package, in block mb, its order in block ob; its tree lies from block B on; it holds the list L. -/
def Mp (w : World) (B mb ob : Nat) (kind m : Int) (L : List (Int × Int)) : Prop :=
  ∃ tb t, w.heap[mb]? = some (mapObj tb) ∧ Tm w tb ob kind m t ∧ t.toList = L ∧ mb ≠ tb ∧ mb ∉ t.ids ∧ B ≤ tb ∧ ∀ i ∈ t.ids, B ≤ i

/-- Blocks from B on may have turned. -/
abbrev KeepFrom (B : Nat) (w w' : World) : Prop := Keep (fun i => B ≤ i) w w'

section
variable {w w' : World} {B mb ob : Nat} {kind m : Int} {L : List (Int × Int)}

theorem Mp.below (h : Mp w B mb ob kind m L) (hk : KeepFrom w.heap.size w w') : Mp w' B mb ob kind m L := by
  obtain ⟨tb, t, h1, h2, h3, h4, h5, h6, h7⟩ := h
  have hb : ∀ {i : Nat} {o : Obj}, w.heap[i]? = some o → ¬ w.heap.size ≤ i := fun hi => by have := lt_of_heap hi; omega
  exact ⟨tb, t, hk.get h1 (hb h1), h2.keep hk (hb h2.tree.head) (fun i hi => by have := h2.tree.lt hi; omega) (hb h2.ord), h3, h4, h5, h6, h7⟩
theorem Mp.drewN (h : Mp w B mb ob kind m L) (k : Nat) : Mp (w.drewN k) B mb ob kind m L := h.below ((Keep.refl _ _).drewN k)
theorem Mp.drew (h : Mp w B mb ob kind m L) : Mp w.drew B mb ob kind m L := h.drewN 1
theorem Mp.alloc (h : Mp w B mb ob kind m L) (o : Obj) : Mp (w.alloc o) B mb ob kind m L := h.below ((Keep.refl _ _).alloc o)
theorem Mp.ok (h : Mp w B mb ob kind m L) : OrdOk kind m := by obtain ⟨tb, t, h1, h2, _⟩ := h; exact h2.ok
theorem Mp.srt (h : Mp w B mb ob kind m L) : Srt (ordf kind m) L := by obtain ⟨tb, t, h1, h2, h3, _⟩ := h; rw [← h3]; exact h2.srt
theorem Mp.lt (h : Mp w B mb ob kind m L) : B ≤ w.heap.size := by obtain ⟨tb, t, h1, h2, h3, h4, h5, h6, h7⟩ := h; have := lt_of_heap h2.tree.head; omega

theorem own_from {tb : Nat} {t : T} (h1 : B ≤ tb) (h2 : ∀ i ∈ t.ids, B ≤ i) (hk : Keep (Own tb t) w w') : KeepFrom B w w' :=
  hk.mono fun i _ hi => by rcases hi with rfl | hi; exact h1; exact h2 i hi

theorem mapPut_any (h : Mp w B mb ob kind m L) (key val : Int) (hlen : L.length ≤ 1000000) :
    Calls Try.prog 77 #[.pointer (some ⟨mb, 0, none⟩), .iface 3 (.int .i64 key), .iface 3 (.int .i64 val)] w fun e w' =>
      e = .returned (.tuple #[]) ∧ Mp w' B mb ob kind m (put (ordf kind m) key val L) ∧ KeepFrom B w w' := by
  obtain ⟨tb, t, h1, h2, h3, h4, h5, h6, h7⟩ := h
  have c := map_tree h1
  have P := hid (treePut_any h2 key val (by rw [← toList_length, h3]; exact hlen))
  have HH := hid (And.intro h1 (And.intro h3 (And.intro h4 (And.intro h5 (And.intro h6 h7)))))
  have H2 := hid h2
  clear h1 h2 h3 h4 h5 h6 h7 hlen
  go_enter Try.func77, Try.ntmps77
  go_wp2_with (go_at_call 108; refine P.out.mono ?_; rintro e w' ⟨rfl, hp⟩)
  go_end0
  obtain ⟨h1, h3, h4, h5, h6, h7⟩ := HH.out
  obtain ⟨t', ht', hl, hi, hk⟩ := hp
  have hmb := lt_of_heap h1
  refine ⟨rfl, ⟨tb, t', hk.get h1 ?_, ht', by rw [hl, h3], h4, fun e => ?_, h6, fun i hm => ?_⟩, own_from h6 h7 hk⟩
  · rintro (e | e); exact h4 e; exact h5 e
  · rcases hi mb e with e | e; exact h5 e; omega
  · rcases hi i hm with e | e; exact h7 i e; have := lt_of_heap H2.out.tree.head; omega

theorem mapRemove_any (h : Mp w B mb ob kind m L) (key : Int) (hlen : L.length ≤ 1000000) :
    Calls Try.prog 82 #[.pointer (some ⟨mb, 0, none⟩), .iface 3 (.int .i64 key)] w fun e w' =>
      e = .returned (.tuple #[]) ∧ Mp w' B mb ob kind m (del (ordf kind m) key L) ∧ KeepFrom B w w' := by
  obtain ⟨tb, t, h1, h2, h3, h4, h5, h6, h7⟩ := h
  have c := map_tree h1
  have P := hid (treeRemove_any h2 key (by rw [← toList_length, h3]; exact hlen))
  have HH := hid (And.intro h1 (And.intro h3 (And.intro h4 (And.intro h5 (And.intro h6 h7)))))
  clear h1 h2 h3 h4 h5 h6 h7 hlen
  go_enter Try.func82, Try.ntmps82
  go_wp2_with (go_at_call 111; refine P.out.mono ?_; rintro e w' ⟨rfl, hp⟩)
  go_end0
  obtain ⟨h1, h3, h4, h5, h6, h7⟩ := HH.out
  obtain ⟨t', ht', hl, hi, hk⟩ := hp
  refine ⟨rfl, ⟨tb, t', hk.get h1 ?_, ht', by rw [hl, h3], h4, fun e => h5 (hi mb e), h6, fun i hm => h7 i (hi i hm)⟩, own_from h6 h7 hk⟩
  rintro (e | e); exact h4 e; exact h5 e

theorem mapGet_any (h : Mp w B mb ob kind m L) (key : Int) :
    Calls Try.prog 56 #[.pointer (some ⟨mb, 0, none⟩), .iface 3 (.int .i64 key)] w fun e w' => e = .returned (getV (look (ordf kind m) key L)) ∧ ∃ k, w' = w.drewN k := by
  obtain ⟨tb, t, h1, h2, h3, h4, h5, h6, h7⟩ := h
  have c := map_tree h1
  have P := hid (treeGet_any h2 key)
  rw [h3] at P
  clear h1 h2 h3 h4 h5 h6 h7
  cases hl : look (ordf kind m) key L with
  | none =>
    rw [hl] at P
    have P : Hid (Calls Try.prog 84 #[.pointer (some ⟨tb, 0, none⟩), .iface 3 (.int .i64 key)] w fun e w' => e = .returned (.tuple #[.nilIface, .bool false]) ∧ ∃ k, w' = w.drewN k) := P
    clear hl
    go_enter Try.func56, Try.ntmps56
    go_wp2_with (go_at_call 84; refine P.out.mono ?_; rintro e w' ⟨rfl, k, rfl⟩)
    go_ret2
    exact ⟨rfl, k, rfl⟩
  | some q =>
    rw [hl] at P
    have P : Hid (Calls Try.prog 84 #[.pointer (some ⟨tb, 0, none⟩), .iface 3 (.int .i64 key)] w fun e w' => e = .returned (.tuple #[.iface 3 (.int .i64 q.2), .bool true]) ∧ ∃ k, w' = w.drewN k) := P
    clear hl
    go_enter Try.func56, Try.ntmps56
    go_wp2_with (go_at_call 84; refine P.out.mono ?_; rintro e w' ⟨rfl, k, rfl⟩)
    go_ret2
    exact ⟨rfl, k, rfl⟩

theorem mapClear_any (h : Mp w B mb ob kind m L) :
    Calls Try.prog 83 #[.pointer (some ⟨mb, 0, none⟩)] w fun e w' => e = .returned (.tuple #[]) ∧ Mp w' B mb ob kind m [] ∧ KeepFrom B w w' := by
  obtain ⟨tb, t, h1, h2, h3, h4, h5, h6, h7⟩ := h
  have c := map_tree h1
  have P := hid (treeClear_any h2.tree.head)
  have HH := hid (And.intro h1 (And.intro h3 (And.intro h4 (And.intro h5 (And.intro h6 h7)))))
  have H2 := hid h2
  clear h1 h2 h3 h4 h5 h6 h7
  go_enter Try.func83, Try.ntmps83
  go_wp2_with (go_at_call 112; refine P.out.mono ?_; rintro e w' ⟨rfl, hw⟩)
  go_end0
  obtain ⟨h1, h3, h4, h5, h6, h7⟩ := HH.out
  have h2 := H2.out
  have hk : Keep (fun i => i = tb) w w' := by rw [← hw]; exact ((Keep.refl (fun i => i = tb) w).setCell ⟨tb, 0, none⟩ (fun _ => rfl) _).setCell ⟨tb, 1, none⟩ (fun _ => rfl) _
  have hh : w'.heap[tb]? = some (treeObj none 0 (cmpV ob)) := by rw [← hw]; exact set_size (set_root h2.tree.head none) 0
  refine ⟨rfl, ⟨tb, .nil, hk.get h1 h4, ⟨⟨hh, trivial, by simp [ids_nil], by simp [ids_nil]⟩, hk.get h2.ord h2.ne, h2.ok, by simp [toList_nil, Srt], ⟨rfl, 0, rfl⟩, h2.ne, by simp [ids_nil]⟩, rfl, h4, by simp [ids_nil], h6, by simp [ids_nil]⟩, hk.mono fun i _ hi => by rw [hi]; exact h6⟩
end

theorem mapNew_any {w : World} {ob : Nat} {kind m : Int} (h : w.heap[ob]? = some (orderObj kind m)) (hok : OrdOk kind m) :
    Calls Try.prog 80 #[cmpV ob] w fun e w' => e = .returned (.pointer (some ⟨w.heap.size + 1, 0, none⟩)) ∧ Mp w' w.heap.size (w.heap.size + 1) ob kind m [] ∧ Keep (fun _ => False) w w' := by
  have P := hid (treeNew_any w ob)
  have P : Hid (Calls Try.prog 104 #[.func (.func 109) #[] #[.pointer (some ⟨ob, 0, none⟩)]] w fun e w' => e = .returned (.pointer (some ⟨w.heap.size, 0, none⟩)) ∧ w.alloc (treeObj none 0 (cmpV ob)) = w') := P
  have HH := hid (And.intro h hok)
  clear h hok
  show Calls Try.prog 80 #[.func (.func 109) #[] #[.pointer (some ⟨ob, 0, none⟩)]] w _
  go_enter Try.func80, Try.ntmps80
  go_wp2_with (go_at_call 104; refine P.out.mono ?_; rintro e w' ⟨rfl, rfl⟩)
  go_ret
  obtain ⟨h, hok⟩ := HH.out
  have hlt := lt_of_heap h
  have hk : Keep (fun _ => False) w ((w.alloc (treeObj none 0 (cmpV ob))).alloc (mapObj w.heap.size)) := ((Keep.refl _ _).alloc _).alloc _
  have e1 : ((w.alloc (treeObj none 0 (cmpV ob))).alloc (mapObj w.heap.size)).heap[w.heap.size]? = some (treeObj none 0 (cmpV ob)) := by
    rw [heap_old _ _ (by simp)]; exact heap_new _ _ _ rfl
  have e2 : ((w.alloc (treeObj none 0 (cmpV ob))).alloc (mapObj w.heap.size)).heap[w.heap.size + 1]? = some (mapObj w.heap.size) := heap_new _ _ _ (by simp)
  refine ⟨by simp, ⟨w.heap.size, .nil, e2, ⟨⟨e1, trivial, by simp [ids_nil], by simp [ids_nil]⟩, hk.get h id, hok, by simp [toList_nil, Srt], ⟨rfl, 0, rfl⟩, by omega, by simp [ids_nil]⟩, rfl, by omega, by simp [ids_nil], Nat.le_refl _, by simp [ids_nil]⟩, hk⟩

theorem by_any (w : World) (kind m : Int) : Calls Try.prog 81 #[.agg #[.int .i64 kind, .int .i64 m]] w fun e w' => e = .returned (cmpV w.heap.size) ∧ w.alloc (orderObj kind m) = w' := by
  go_enter Try.func81, Try.ntmps81
  go_wp2
  go_ret
  exact ⟨rfl, rfl⟩

end Go.Proofs.Ytdamfannmlncnaa
