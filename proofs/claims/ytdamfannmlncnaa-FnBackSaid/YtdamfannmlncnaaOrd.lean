/- The thin package's order: rest, compared, by and the comparator that by returns. -/
import Derived.Test.YtdamfannmlncnaaIns
namespace Go.Proofs.Ytdamfannmlncnaa
open Go.RowKit
set_option linter.unusedVariables false
set_option linter.unusedSimpArgs false

theorem ret_int {k : IntKind} {a b : Int} (h : a = b) : Ending.returned (.int k a) = .returned (.int k b) := by rw [h]

/-- -1, 0 or 1. -/
def cmpI (a b : Int) : Int := if a < b then -1 else if b < a then 1 else 0
theorem cmpI_lt {a b : Int} (h : a < b) : cmpI a b = -1 := by simp [cmpI, h]
theorem cmpI_gt {a b : Int} (h : b < a) : cmpI a b = 1 := by simp [cmpI, h]; omega
theorem cmpI_eq {a b : Int} (h : a = b) : cmpI a b = 0 := by simp [cmpI, h]

theorem cmpI_neg (a b : Int) : cmpI b a = cmpI (-a) (-b) := by
  by_cases h1 : b < a
  · rw [cmpI_lt h1, cmpI_lt (by omega)]
  · by_cases h2 : a < b
    · rw [cmpI_gt h2, cmpI_gt (by omega)]
    · rw [cmpI_eq (by omega), cmpI_eq (by omega)]

/-- The number by which an order sorts a key. -/
def ordf (kind m x : Int) : Int := if kind = 1 then -x else if kind = 2 then x % m else x
def OrdOk (kind m : Int) : Prop := kind = 0 ∨ kind = 1 ∨ kind = 2 ∧ 1 ≤ m ∧ m ≤ 1000

theorem compared_any (a b : Int) (w : World) : Calls Try.prog 110 #[.int .i64 a, .int .i64 b] w fun e w' => e = .returned (.int .i64 (cmpI a b)) ∧ w = w' := by
  by_cases h1 : a < b
  · go_enter Try.func110, Try.ntmps110
    go_wp2
    go_ret
    exact ⟨ret_int (cmpI_lt h1).symm, rfl⟩
  · by_cases h2 : b < a
    · go_enter Try.func110, Try.ntmps110
      go_wp2
      go_ret
      exact ⟨ret_int (cmpI_gt h2).symm, rfl⟩
    · go_enter Try.func110, Try.ntmps110
      go_wp2
      go_ret
      exact ⟨ret_int (cmpI_eq (by omega)).symm, rfl⟩

theorem tmod_bounds (n m : Int) (h1 : 1 ≤ m) : -m < n.tmod m ∧ n.tmod m < m := by
  have h := Int.tmod_lt_of_pos n (show 0 < m by omega)
  have h' := Int.tmod_lt_of_pos (-n) (show 0 < m by omega)
  rw [Int.neg_tmod] at h'
  omega
theorem emod_same (n m : Int) : n % m % m = n % m := Int.emod_emod_of_dvd _ (Int.dvd_refl m)
theorem rest_eq (n m : Int) (h1 : 1 ≤ m) : n.tmod m % m = n % m := by
  rw [Int.tmod_eq_emod]
  split
  · simp
  · have : (m.natAbs : Int) = m := by omega
    rw [this, Int.sub_emod, Int.emod_self, emod_same]
    simp
theorem rest_any (n m : Int) (h1 : 1 ≤ m) (h2 : m ≤ 1000) (w : World) : Calls Try.prog 69 #[.int .i64 n, .int .i64 m] w fun e w' => e = .returned (.int .i64 (n % m)) ∧ w = w' := by
  obtain ⟨b1, b2⟩ := tmod_bounds n m h1
  by_cases h0 : 0 ≤ n
  · have e1 : n.tmod m = n % m := Int.tmod_eq_emod_of_nonneg h0
    rw [e1] at b1 b2
    have b3 := Int.emod_nonneg n (show m ≠ 0 by omega)
    go_enter Try.func69, Try.ntmps69
    go_wp2
    go_ret
    exact ⟨ret_int (by simp), rfl⟩
  · go_enter Try.func69, Try.ntmps69
    go_wp2
    go_ret
    exact ⟨ret_int (rest_eq n m h1), rfl⟩
/-- A contract of a callee that leaves the world alone, met in a region that draws. -/
theorem q_of {P : Program} {f : FuncId} {args : Array Value} {w : World} {n : Nat} {v : Value}
    (h : Calls P f args (w.drewN n) fun e w' => e = .returned v ∧ w.drewN n = w') : Calls P f args (w.drewN n) fun e w'' => e = .returned v ∧ ∃ m, w'' = w.drewN m :=
  h.mono fun _ _ ⟨he, hm⟩ => ⟨he, n, hm.symm⟩
/-- .. of one that draws. -/
theorem q_dr {P : Program} {f : FuncId} {args : Array Value} {w : World} {n : Nat} {v : Value}
    (h : Calls P f args (w.drewN n) fun e w' => e = .returned v ∧ ∃ m, w' = (w.drewN n).drewN m) : Calls P f args (w.drewN n) fun e w'' => e = .returned v ∧ ∃ m, w'' = w.drewN m :=
  Calls.quiet_of h

@[go_sem] theorem run_assert_int (n : Int) (w : World) : (Instr.typeAssert (.iface 3 (.int .i64 n)) 20 3 false).run Try.prog w = .ok (.int .i64 n) w := by kernel_rfl

def orderObj (kind m : Int) : Obj := .cells #[.int .i64 kind, .int .i64 m] 23 (0, 0)
/-- The comparator that by returns for the order in block ob. -/
def cmpV (ob : Nat) : Value := .func (.func 109) #[] #[.pointer (some ⟨ob, 0, none⟩)]

theorem order_kind {w : World} {ob : Nat} {kind m : Int} (h : w.heap[ob]? = some (orderObj kind m)) : w.cell? ⟨ob, 0, none⟩ = some (.int .i64 kind) := by simp [World.cell?, h, orderObj]
theorem order_m {w : World} {ob : Nat} {kind m : Int} (h : w.heap[ob]? = some (orderObj kind m)) : w.cell? ⟨ob, 1, none⟩ = some (.int .i64 m) := by simp [World.cell?, h, orderObj]

set_option maxHeartbeats 800000 in
theorem comparator_any {w : World} {ob : Nat} {kind m : Int} (h : w.heap[ob]? = some (orderObj kind m)) (hok : OrdOk kind m) (a b : Int) :
    Calls Try.prog 109 #[.iface 3 (.int .i64 a), .iface 3 (.int .i64 b), .pointer (some ⟨ob, 0, none⟩)] w fun e w' =>
      e = .returned (.int .i64 (cmpI (ordf kind m a) (ordf kind m b))) ∧ ∃ k, w' = w.drewN k := by
  have c0 := order_kind h
  have c1 := order_m h
  clear h
  rcases hok with rfl | rfl | ⟨rfl, h1, h2⟩
  · go_enter Try.func109, Try.ntmps109
    go_wp2_with (fail)
    go_quiet (fail)
    go_wp2_with (go_at_call 110; refine (compared_any _ _ _).mono ?_; rintro e w' ⟨rfl, rfl⟩)
    go_ret
    exact ⟨rfl, _, rfl⟩
  · go_enter Try.func109, Try.ntmps109
    go_wp2_with (fail)
    go_quiet (fail)
    go_wp2_with (go_at_call 110; refine (compared_any _ _ _).mono ?_; rintro e w' ⟨rfl, rfl⟩)
    go_ret
    exact ⟨ret_int (cmpI_neg a b), _, rfl⟩
  · go_enter Try.func109, Try.ntmps109
    go_wp2_with (fail)
    go_quiet (fail)
    obtain ⟨w2, hw2⟩ : ∃ w2, w2 = w.drewN nq := ⟨_, rfl⟩
    rw [← hw2]
    have d0 : w2.cell? ⟨ob, 0, none⟩ = some (.int .i64 2) := by rw [hw2]; exact c0
    have d1 : w2.cell? ⟨ob, 1, none⟩ = some (.int .i64 m) := by rw [hw2]; exact c1
    have HW := hid hw2
    clear hw2 c0 c1
    go_wp2_with (fail)
    go_quiet (first | (go_at_call 69; exact q_of (rest_any _ _ h1 h2 _)) | (go_at_call 110; exact q_of (compared_any _ _ _)))
    go_wp2_with (fail)
    go_ret
    exact ⟨rfl, _, by rw [HW.out, World.drewN_drewN]⟩
end Go.Proofs.Ytdamfannmlncnaa
