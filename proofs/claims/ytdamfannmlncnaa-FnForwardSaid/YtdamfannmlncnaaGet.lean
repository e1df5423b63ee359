/- MapGet, Plain, walked. -/
import Derived.Test.YtdamfannmlncnaaBuilt
namespace Go.Proofs.Ytdamfannmlncnaa
open Go.RowKit
set_option linter.unusedVariables false
set_option linter.unusedSimpArgs false

/-- What MapGet returns. -/
def getR : Option (Int × Int) → Int × Bool
  | none => (0, false)
  | some q => (q.2, true)
def mget (kind m : Int) (acts : List Act3) (key : Int) : Int × Bool := getR (look (ordf kind m) key (runA (ordf kind m) acts))

set_option maxHeartbeats 800000 in
theorem MapGet_any {w : World} {B : Nat} {kind m : Int} {v : Value} {acts : List Act3} (key : Int) (hok : OrdOk kind m) (ha : ActsIn w B v acts) (hB : B ≤ w.heap.size) (hlen : acts.length ≤ 100000) :
    Calls Try.prog 27 #[.agg #[.int .i64 kind, .int .i64 m], v, .int .i64 key] w fun e w' =>
      e = .returned (.tuple #[.int .i64 (mget kind m acts key).1, .bool (mget kind m acts key).2]) ∧ KeepFrom w.heap.size w w' := by
  have K0 : KeepFrom w.heap.size w (w.alloc (.cells #[.int .i64 kind, .int .i64 m] 23)) := (Keep.refl _ _).alloc _
  have BU := hid (built_any (w := w.alloc (.cells #[.int .i64 kind, .int .i64 m] 23)) hok (ha.keep ((Keep.refl (fun _ => False) w).alloc _) fun _ _ => id) (by simp; omega) hlen)
  have K0 := hid K0
  clear ha hB hlen hok
  go_enter Try.func27, Try.ntmps27
  go_wp2_with (fail)
  refine BU.out.mono ?_
  rintro e w1 ⟨mb, ob, rfl, hm, hk⟩
  have K1 : KeepFrom w.heap.size w w1 := K0.out.then hk fun i hi h => by simp at h; omega
  have K1 := hid K1
  have HM := hid hm
  clear hm hk
  go_wp2_with (fail)
  have HG := mapGet_any HM.out key
  cases hl : look (ordf kind m) key (runA (ordf kind m) acts) with
  | none =>
    rw [hl] at HG
    refine HG.mono ?_
    rintro e w2 ⟨rfl, k, rfl⟩
    simp only [getV]
    have HL := hid hl
    clear HG hl
    go_wp2_with (fail)
    go_ret2
    exact ⟨by rw [show mget kind m acts key = (0, false) from by unfold mget; rw [HL.out]; rfl]; rfl, K1.out.drewN k⟩
  | some q =>
    rw [hl] at HG
    refine HG.mono ?_
    rintro e w2 ⟨rfl, k, rfl⟩
    simp only [getV]
    have HL := hid hl
    clear HG hl
    go_wp2_with (fail)
    go_ret2
    exact ⟨by rw [show mget kind m acts key = (q.2, true) from by unfold mget; rw [HL.out]; rfl]; rfl, K1.out.drewN k⟩

theorem Plain_any (kind m : Int) (w : World) : Calls Try.prog 26 #[.agg #[.int .i64 kind, .int .i64 m]] w fun e w' => e = .returned (.bool (decide (kind = 0 ∨ kind = 1))) ∧ Keep (fun _ => False) w w' := by
  by_cases h0 : kind = 0
  · subst h0
    go_enter Try.func26, Try.ntmps26
    go_wp2
    go_ret
    exact ⟨rfl, (Keep.refl _ _).alloc _⟩
  · by_cases h1 : kind = 1
    · subst h1
      go_enter Try.func26, Try.ntmps26
      go_wp2
      go_ret
      exact ⟨rfl, (Keep.refl _ _).alloc _⟩
    · have b0 : (kind == 0) = false := by simpa using h0
      have b1 : (kind == 1) = false := by simpa using h1
      have hd : decide (kind = 0 ∨ kind = 1) = false := by simp [h0, h1]
      rw [hd]
      clear h0 h1 hd
      go_enter Try.func26, Try.ntmps26
      go_wp2
      go_ret
      exact ⟨rfl, (Keep.refl _ _).alloc _⟩

end Go.Proofs.Ytdamfannmlncnaa
