/- The reference's small functions walked: rest, Compare, At, Has. -/
import Derived.Test.YtdamfannmlncnaaLaws
import Derived.Test.YtdamfannmlncnaaCleared
import Derived.Deep.RegionHeld3
import Derived.Deep.DrawnRows
namespace Go.Proofs.Ytdamfannmlncnaa
open Go.RowKit
set_option linter.unusedVariables false
set_option linter.unusedSimpArgs false
set_option maxHeartbeats 1600000
attribute [local go_sem ↓] Go.wp_at_zero Go.wp_at_succ

/-- A pair's cells. -/
def encP (e : Int × Int) : List Value := [.int .i64 e.1, .int .i64 e.2]
theorem encP_len (e : Int × Int) : (encP e).length = 2 := rfl
theorem encP_one (e : Int × Int) : ∀ u ∈ encP e, u.oneCell' = true := by simp [encP, Value.oneCell']
theorem pair_cells {w : World} {b off : Nat} {L : List (Int × Int)} (hc : ∀ j u, (L.flatMap encP)[j]? = some u → w.cell? ⟨b, off + j, none⟩ = some u) (i : Nat) (h : i < L.length) :
    w.cell? ⟨b, off + i * 2, none⟩ = some (.int .i64 L[i].1) ∧ w.cell? ⟨b, off + i * 2 + 1, none⟩ = some (.int .i64 L[i].2) :=
  ⟨hc (i * 2) _ (flat_get encP_len L i h 0 (by omega)), hc (i * 2 + 1) _ (flat_get encP_len L i h 1 (by omega))⟩

theorem srest_any (n m : Int) (h1 : 1 ≤ m) (h2 : m ≤ 1000) (w : World) : Calls Try.prog 63 #[.int .i64 n, .int .i64 m] w fun e w' => e = .returned (.int .i64 (n % m)) ∧ w = w' := by
  obtain ⟨b1, b2⟩ := tmod_bounds n m h1
  by_cases h0 : 0 ≤ n
  · have e1 : n.tmod m = n % m := Int.tmod_eq_emod_of_nonneg h0
    rw [e1] at b1 b2
    have b3 := Int.emod_nonneg n (show m ≠ 0 by omega)
    go_enter Try.func63, Try.ntmps63
    go_wp2
    go_ret
    exact ⟨rfl, rfl⟩
  · have e := rest_eq n m h1
    by_cases h3 : n.tmod m < 0
    · have e2 : n % m = n.tmod m + m := by
        rw [← e]
        have : (n.tmod m + m) % m = n.tmod m % m := by simp
        rw [← this]
        exact Int.emod_eq_of_lt (by omega) (by omega)
      have E := hid e2
      clear e e2 h0
      go_enter Try.func63, Try.ntmps63
      go_wp2
      go_ret
      exact ⟨ret_int E.out.symm, rfl⟩
    · have e2 : n % m = n.tmod m := by
        rw [← e]
        exact Int.emod_eq_of_lt (by omega) (by omega)
      have E := hid e2
      clear e e2 h0
      go_enter Try.func63, Try.ntmps63
      go_wp2
      go_ret
      exact ⟨ret_int E.out.symm, rfl⟩

theorem box2 (w : World) (kind m : Int) : (w.alloc (.cells #[.int .i64 kind, .int .i64 m] 23)).cell? ⟨w.heap.size, 0, none⟩ = some (.int .i64 kind) ∧ (w.alloc (.cells #[.int .i64 kind, .int .i64 m] 23)).cell? ⟨w.heap.size, 1, none⟩ = some (.int .i64 m) :=
  ⟨by rw [World.cell?_alloc_new]; rfl, by rw [World.cell?_alloc_new]; rfl⟩

theorem Compare_any {kind m : Int} (hok : OrdOk kind m) (a b : Int) (w : World) :
    Calls Try.prog 45 #[.agg #[.int .i64 kind, .int .i64 m], .int .i64 a, .int .i64 b] w fun e w' => e = .returned (.int .i64 (cmpI (ordf kind m a) (ordf kind m b))) ∧ Keep (fun _ => False) w w' := by
  rcases hok with rfl | rfl | ⟨rfl, h1, h2⟩
  · rcases Int.lt_trichotomy a b with h | h | h
    · go_enter Try.func45, Try.ntmps45
      go_wp2
      go_ret
      exact ⟨ret_int (cmpI_lt h).symm, (Keep.refl _ _).alloc _⟩
    · subst h
      go_enter Try.func45, Try.ntmps45
      go_wp2
      go_ret
      exact ⟨ret_int (cmpI_eq rfl).symm, (Keep.refl _ _).alloc _⟩
    · have h' : ¬ a < b := by omega
      go_enter Try.func45, Try.ntmps45
      go_wp2
      go_ret
      exact ⟨ret_int (cmpI_gt h).symm, (Keep.refl _ _).alloc _⟩
  · rcases Int.lt_trichotomy b a with h | h | h
    · go_enter Try.func45, Try.ntmps45
      go_wp2
      go_ret
      exact ⟨ret_int (by rw [show ordf 1 m a = -a from rfl, show ordf 1 m b = -b from rfl, cmpI_lt (by omega)]), (Keep.refl _ _).alloc _⟩
    · subst h
      go_enter Try.func45, Try.ntmps45
      go_wp2
      go_ret
      exact ⟨ret_int (cmpI_eq rfl).symm, (Keep.refl _ _).alloc _⟩
    · have h' : ¬ b < a := by omega
      go_enter Try.func45, Try.ntmps45
      go_wp2
      go_ret
      exact ⟨ret_int (by rw [show ordf 1 m a = -a from rfl, show ordf 1 m b = -b from rfl, cmpI_gt (by omega)]), (Keep.refl _ _).alloc _⟩
  · obtain ⟨x, hx⟩ : ∃ x, a % m = x := ⟨_, rfl⟩
    obtain ⟨y, hy⟩ : ∃ y, b % m = y := ⟨_, rfl⟩
    have C1 := fun W => srest_any a m h1 h2 W
    have C2 := fun W => srest_any b m h1 h2 W
    rw [hx] at C1
    rw [hy] at C2
    have C1 := hid C1
    have C2 := hid C2
    have E : Hid (ordf 2 m a = x ∧ ordf 2 m b = y) := ⟨hx, hy⟩
    obtain ⟨d0, d1⟩ := box2 w 2 m
    clear hx hy
    rcases Int.lt_trichotomy x y with h | h | h
    · go_enter Try.func45, Try.ntmps45
      go_wp2_with (fail)
      obtain ⟨w2, hw2⟩ : ∃ w2, w2 = w.alloc (.cells #[.int .i64 2, .int .i64 m] 23) := ⟨_, rfl⟩
      rw [← hw2]
      rw [← hw2] at d0 d1
      have HW := hid hw2
      clear hw2
      go_quiet (first | (go_at_call 63; (with_reducible exact q_of (C1.out _))) | (go_at_call 63; (with_reducible exact q_of (C2.out _))))
      go_wp2_with (fail)
      go_ret
      exact ⟨ret_int (by rw [E.out.1, E.out.2]; exact (cmpI_lt h).symm), by rw [HW.out]; exact ((Keep.refl _ _).alloc _).drewN _⟩
    · subst h
      go_enter Try.func45, Try.ntmps45
      go_wp2_with (fail)
      obtain ⟨w2, hw2⟩ : ∃ w2, w2 = w.alloc (.cells #[.int .i64 2, .int .i64 m] 23) := ⟨_, rfl⟩
      rw [← hw2]
      rw [← hw2] at d0 d1
      have HW := hid hw2
      clear hw2
      go_quiet (first | (go_at_call 63; (with_reducible exact q_of (C1.out _))) | (go_at_call 63; (with_reducible exact q_of (C2.out _))))
      go_wp2_with (fail)
      go_ret
      exact ⟨ret_int (by rw [E.out.1, E.out.2]; exact (cmpI_eq rfl).symm), by rw [HW.out]; exact ((Keep.refl _ _).alloc _).drewN _⟩
    · have h' : ¬ x < y := by omega
      go_enter Try.func45, Try.ntmps45
      go_wp2_with (fail)
      obtain ⟨w2, hw2⟩ : ∃ w2, w2 = w.alloc (.cells #[.int .i64 2, .int .i64 m] 23) := ⟨_, rfl⟩
      rw [← hw2]
      rw [← hw2] at d0 d1
      have HW := hid hw2
      clear hw2
      go_quiet (first | (go_at_call 63; (with_reducible exact q_of (C1.out _))) | (go_at_call 63; (with_reducible exact q_of (C2.out _))))
      go_wp2_with (fail)
      go_ret
      exact ⟨ret_int (by rw [E.out.1, E.out.2]; exact (cmpI_gt h).symm), by rw [HW.out]; exact ((Keep.refl _ _).alloc _).drewN _⟩

/-- What a comparison comes to, in a letter. -/
theorem Compare_is {kind m : Int} (hok : OrdOk kind m) {a b c : Int} (hc : cmpI (ordf kind m a) (ordf kind m b) = c) (w : World) :
    Calls Try.prog 45 #[.agg #[.int .i64 kind, .int .i64 m], .int .i64 a, .int .i64 b] w fun e w' => e = .returned (.int .i64 c) ∧ Keep (fun _ => False) w w' := by
  subst hc; exact Compare_any hok a b w

/-- Where At stands. -/
def AtRel (w : World) (kind m : Int) (r k : Nat) (wr : World) : Prop := k ≤ r ∧ Keep (fun _ => False) (w.alloc (.cells #[.int .i64 kind, .int .i64 m] 23)) wr

set_option maxRecDepth 100000 in
theorem At_any {w : World} {kind m : Int} {v : Value} {L : List (Int × Int)} (hok : OrdOk kind m) (h : RowIn w w.heap.size encP v L) (hlen : L.length ≤ 1000000) (key : Int) :
    Calls Try.prog 59 #[.agg #[.int .i64 kind, .int .i64 m], v, .int .i64 key] w fun e w' => e = .returned (.int .i64 (rank (ordf kind m) key L)) ∧ Keep (fun _ => False) w w' := by
  have K0 := hid (show Keep (fun _ => False) w (w.alloc (.cells #[.int .i64 kind, .int .i64 m] 23)) from (Keep.refl _ _).alloc _)
  have BX := hid (box2 w kind m)
  have hrl := rank_le (f := ordf kind m) key L
  obtain ⟨a0, c0, hv⟩ := h.len
  rcases h with ⟨rfl, -⟩ | ⟨b, off, cap, rfl, hb, hc⟩
  · subst hv
    clear hlen hrl
    have e0 : rank (ordf kind m) key [] = 0 := rfl
    rw [e0]
    clear e0
    go_enter Try.func59, Try.ntmps59
    go_wp2_with (fail)
    refine wp_loop_rounds 1 ?_
    rw [rounds_succ]
    go_wp2_with (fail)
    go_quiet (fail)
    go_wp2_with (fail)
    go_ret
    exact ⟨rfl, K0.out.drewN _⟩
  · clear hv
    obtain ⟨n, hn⟩ : ∃ n, n = L.length := ⟨_, rfl⟩
    obtain ⟨r, hr⟩ : ∃ r, r = rank (ordf kind m) key L := ⟨_, rfl⟩
    rw [← hr] at hrl ⊢
    rw [← hn] at hrl hlen ⊢
    have HN := hid (And.intro hn hr)
    have HC := hid (And.intro hb hc)
    have HOK := hid hok
    clear hn hr hb hc hok
    go_enter Try.func59, Try.ntmps59
    go_wp2_with (fail)
    go_loopw [7] (fun s wr => ∃ k : Nat, s = .int .i64 k ∧ AtRel w kind m r k wr) (fun s _ => n + 1 - (intOf s).toNat)
    case atStart => exact ⟨0, rfl, Nat.zero_le _, Keep.refl _ _⟩
    case round =>
      obtain ⟨k, rfl, hk, hkeep⟩ := hrel
      have KR := hid hkeep
      have KK := hid hk
      clear hkeep
      by_cases hlt : k < n
      · have hkL : k < L.length := by rw [← HN.out.1]; exact hlt
        obtain ⟨p, hp⟩ : ∃ p, L[k] = p := ⟨_, rfl⟩
        obtain ⟨x, y⟩ := p
        have cx := (pair_cells HC.out.2 k hkL).1
        rw [hp] at cx
        have HO : Hid (wr.cell? ⟨w.heap.size, 0, none⟩ = some (.int .i64 kind) ∧ wr.cell? ⟨w.heap.size, 1, none⟩ = some (.int .i64 m) ∧ wr.cell? ⟨b, off + k * 2, none⟩ = some (.int .i64 x)) :=
          ⟨KR.out.cell BX.out.1 id, KR.out.cell BX.out.2 id, (K0.out.trans KR.out).cell cx id⟩
        have b1 : (0 : Int) ≤ (k : Int) := by omega
        have b2 : (k : Int) < (n : Int) := by omega
        by_cases hkr : k < r
        · have CP := hid (Compare_is HOK.out (a := x) (b := key) (cmpI_lt (by have := rank_lt (f := ordf kind m) (k := key) (L := L) (i := k) (by rw [← HN.out.2]; exact hkr) hkL; rw [hp] at this; exact this)))
          clear hp cx hkL hk
          go_wp2_with (fail)
          go_region_held3 (fun w' => w'.cell? ⟨w.heap.size, 0, none⟩ = some (.int .i64 kind) ∧ w'.cell? ⟨w.heap.size, 1, none⟩ = some (.int .i64 m) ∧ w'.cell? ⟨b, off + k * 2, none⟩ = some (.int .i64 x))
            (first | exact HO.out | exact ⟨K2.out.cell HO.out.1 id, K2.out.cell HO.out.2.1 id, K2.out.cell HO.out.2.2 id⟩ | fail)
            (first | (go_at_call 45; refine (CP.out _).mono ?_; rintro e w2 ⟨rfl, hk2⟩; have K2 := hid (show Keep (fun _ => False) wr w2 from (by first | exact hk2 | exact hk2.undrew | exact hk2.undrewN | fail)); clear hk2) | fail)
          go_wp2_with (fail)
          go_roundw
          case rel => exact ⟨k + 1, by go_num, by omega, KR.out.trans K2.out⟩
          case measure => simp [intOf]; omega
        · obtain rfl : r = k := by omega
          obtain ⟨c, hc⟩ : ∃ c, cmpI (ordf kind m x) (ordf kind m key) = c := ⟨_, rfl⟩
          have hc0 : decide (c < 0) = false := by
            have := rank_stop (f := ordf kind m) (k := key) (L := L) (by rw [← HN.out.2]; exact hkL)
            simp only [← HN.out.2] at this
            rw [hp] at this
            rw [decide_eq_false_iff_not, ← hc]
            unfold cmpI
            rw [if_neg this]
            split <;> omega
          have CP := hid (Compare_is HOK.out hc)
          clear hp cx hkL hk hc hkr
          go_wp2_with (fail)
          go_region_held3 (fun w' => w'.cell? ⟨w.heap.size, 0, none⟩ = some (.int .i64 kind) ∧ w'.cell? ⟨w.heap.size, 1, none⟩ = some (.int .i64 m) ∧ w'.cell? ⟨b, off + r * 2, none⟩ = some (.int .i64 x))
            (first | exact HO.out | exact ⟨K2.out.cell HO.out.1 id, K2.out.cell HO.out.2.1 id, K2.out.cell HO.out.2.2 id⟩ | fail)
            (first | (go_at_call 45; refine (CP.out _).mono ?_; rintro e w2 ⟨rfl, hk2⟩; have K2 := hid (show Keep (fun _ => False) wr w2 from (by first | exact hk2 | exact hk2.undrew | exact hk2.undrewN | fail)); clear hk2) | fail)
          go_wp2_with (fail)
          go_ret
          exact ⟨rfl, K0.out.trans (KR.out.trans K2.out)⟩
      · obtain rfl : r = k := by have := KK.out; omega
        obtain rfl : n = r := by omega
        clear hk hlt hrl
        go_wp2_with (fail)
        go_quiet (fail)
        go_wp2_with (fail)
        go_ret
        exact ⟨rfl, (K0.out.trans KR.out).drewN _⟩

theorem hasA_of_lt {f : Int → Int} {k : Int} {L : List (Int × Int)} {r : Nat} (hr : r = rank f k L) (h : r < L.length) : hasA f k L = decide (cmpI (f (L[r]).1) (f k) = 0) := by
  subst hr
  unfold hasA
  rw [List.getElem?_eq_getElem h]
  simp only
  by_cases e : f (L[rank f k L]).1 = f k
  · rw [decide_eq_true e, cmpI_eq e]; rfl
  · rw [decide_eq_false e, decide_eq_false]
    unfold cmpI
    split
    · omega
    · split <;> omega
theorem hasA_of_ge {f : Int → Int} {k : Int} {L : List (Int × Int)} {r : Nat} (hr : r = rank f k L) (h : ¬ r < L.length) : hasA f k L = false := by
  subst hr
  unfold hasA
  rw [List.getElem?_eq_none (by omega)]

set_option maxRecDepth 100000 in
theorem Has_any {w : World} {kind m : Int} {v : Value} {L : List (Int × Int)} (hok : OrdOk kind m) (h : RowIn w w.heap.size encP v L) (hlen : L.length ≤ 1000000) (key : Int) {r : Nat} (hr : r = rank (ordf kind m) key L) :
    Calls Try.prog 60 #[.agg #[.int .i64 kind, .int .i64 m], v, .int .i64 r, .int .i64 key] w fun e w' => e = .returned (.bool (hasA (ordf kind m) key L)) ∧ Keep (fun _ => False) w w' := by
  have K0 := hid (show Keep (fun _ => False) w (w.alloc (.cells #[.int .i64 kind, .int .i64 m] 23)) from (Keep.refl _ _).alloc _)
  have BX := hid (box2 w kind m)
  by_cases hlt : r < L.length
  · rcases h with ⟨rfl, -⟩ | ⟨b, off, cap, rfl, hb, hc⟩
    · simp at hlt
    · obtain ⟨p, hp⟩ : ∃ p, L[r] = p := ⟨_, rfl⟩
      obtain ⟨x, y⟩ := p
      have cx := (pair_cells hc r hlt).1
      have HE := hid (hasA_of_lt hr hlt)
      rw [hp] at cx HE
      obtain ⟨c, hcc⟩ : ∃ c, cmpI (ordf kind m x) (ordf kind m key) = c := ⟨_, rfl⟩
      simp only [hcc] at HE
      have CP := hid (Compare_is hok hcc)
      have HO : Hid ((w.alloc (.cells #[.int .i64 kind, .int .i64 m] 23)).cell? ⟨w.heap.size, 0, none⟩ = some (.int .i64 kind) ∧ (w.alloc (.cells #[.int .i64 kind, .int .i64 m] 23)).cell? ⟨w.heap.size, 1, none⟩ = some (.int .i64 m) ∧ (w.alloc (.cells #[.int .i64 kind, .int .i64 m] 23)).cell? ⟨b, off + r * 2, none⟩ = some (.int .i64 x)) :=
        ⟨BX.out.1, BX.out.2, K0.out.cell cx id⟩
      obtain ⟨n, hn⟩ : ∃ n, n = L.length := ⟨_, rfl⟩
      rw [← hn] at hlt hlen ⊢
      have b1 : (0 : Int) ≤ (r : Int) := by omega
      have b2 : (r : Int) < (n : Int) := by omega
      obtain ⟨W, hW⟩ : ∃ W, W = w.alloc (.cells #[.int .i64 kind, .int .i64 m] 23) := ⟨_, rfl⟩
      rw [← hW] at K0 HO
      have HW := hid hW
      clear hp cx hr hb hc hn BX hok
      by_cases h0 : c = 0
      · subst h0
        have HE : Hid (hasA (ordf kind m) key L = true) := by have := HE.out; rw [decide_eq_true rfl] at this; exact this
        clear hcc
        go_enter Try.func60, Try.ntmps60
        go_wp2_with (fail)
        rw [← hW]
        clear hW
        go_region_held3 (fun w' => w'.cell? ⟨w.heap.size, 0, none⟩ = some (.int .i64 kind) ∧ w'.cell? ⟨w.heap.size, 1, none⟩ = some (.int .i64 m) ∧ w'.cell? ⟨b, off + r * 2, none⟩ = some (.int .i64 x))
          (first | exact HO.out | exact ⟨K2.out.cell HO.out.1 id, K2.out.cell HO.out.2.1 id, K2.out.cell HO.out.2.2 id⟩ | fail)
          (first | (go_at_call 45; refine (CP.out _).mono ?_; rintro e w2 ⟨rfl, hk2⟩; have K2 := hid (show Keep (fun _ => False) W w2 from (by first | exact hk2 | exact hk2.undrew | exact hk2.undrewN | fail)); clear hk2) | fail)
        go_wp2_with (fail)
        go_ret
        exact ⟨by rw [HE.out]; rfl, K0.out.trans K2.out⟩
      · have HE : Hid (hasA (ordf kind m) key L = false) := by have := HE.out; rw [decide_eq_false h0] at this; exact this
        have hd : (c == 0) = false := by simpa using h0
        clear hcc h0
        go_enter Try.func60, Try.ntmps60
        go_wp2_with (fail)
        rw [← hW]
        clear hW
        go_region_held3 (fun w' => w'.cell? ⟨w.heap.size, 0, none⟩ = some (.int .i64 kind) ∧ w'.cell? ⟨w.heap.size, 1, none⟩ = some (.int .i64 m) ∧ w'.cell? ⟨b, off + r * 2, none⟩ = some (.int .i64 x))
          (first | exact HO.out | exact ⟨K2.out.cell HO.out.1 id, K2.out.cell HO.out.2.1 id, K2.out.cell HO.out.2.2 id⟩ | fail)
          (first | (go_at_call 45; refine (CP.out _).mono ?_; rintro e w2 ⟨rfl, hk2⟩; have K2 := hid (show Keep (fun _ => False) W w2 from (by first | exact hk2 | exact hk2.undrew | exact hk2.undrewN | fail)); clear hk2) | fail)
        go_wp2_with (fail)
        go_ret
        exact ⟨by rw [HE.out]; rfl, K0.out.trans K2.out⟩
  · rw [hasA_of_ge hr hlt]
    obtain ⟨a0, c0, hv⟩ := h.len
    obtain ⟨n, hn⟩ : ∃ n, n = L.length := ⟨_, rfl⟩
    rw [← hn] at hlt hlen hv
    subst hv
    have hd : decide ((r : Int) < (n : Int)) = false := decide_eq_false (by omega)
    have hd2 : decide (r < n) = false := decide_eq_false (by omega)
    clear hn hr h hok
    go_enter Try.func60, Try.ntmps60
    go_wp2_with (fail)
    go_quiet (fail)
    go_wp2_with (fail)
    go_ret
    exact ⟨rfl, K0.out.drewN _⟩
end Go.Proofs.Ytdamfannmlncnaa
