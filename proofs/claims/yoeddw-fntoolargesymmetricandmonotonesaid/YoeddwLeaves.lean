/-
  The leaves of the two laws on 'tooLarge': tooLarge, ZZtooLarge and zzMag, each by a contract over the plain functions 'big' and 'mag'.
-/
import Derived.Test.YoeddwRows
import Derived.WalkKit
namespace Go.Proofs.Yoeddw
open Go.RowKit

/-- Is the magnitude of x above a million? -/
def big (x : Int) : Bool := decide (1000000 < x ∨ x < -1000000)
/-- The magnitude of x. -/
def mag (x : Int) : Int := if 0 ≤ x then x else -x

theorem big_hi {x : Int} (h : 1000000 < x) : big x = true := by simp [big, h]
theorem big_lo {x : Int} (h : x < -1000000) : big x = true := by simp [big, h]
theorem big_no {x : Int} (h0 : -1000000 ≤ x) (h1 : x ≤ 1000000) : big x = false := by
  simp only [big, decide_eq_false_iff_not]; omega
theorem mag_pos {x : Int} (h : 0 ≤ x) : mag x = x := by simp [mag, h]
theorem mag_neg {x : Int} (h : x < 0) : mag x = -x := by rw [mag, if_neg (by omega)]

theorem ret_bool {a b : Bool} (h : a = b) : Ending.returned (.bool a) = .returned (.bool b) := by rw [h]
theorem ret_int {k : IntKind} {a b : Int} (h : a = b) : Ending.returned (.int k a) = .returned (.int k b) := by rw [h]

/-- formatter.go: tooLarge. -/
theorem tooLarge_any (x : Int) (w : World) :
    Calls Eddg.prog 7 #[.int .i64 x] w fun e w' => e = .returned (.bool (big x)) ∧ w' = w := by
  by_cases h : 1000000 < x
  · rw [big_hi h]
    go_enter Eddg.func7, Eddg.ntmps7
    go_wp2
    go_ret
    exact ⟨rfl, rfl⟩
  · by_cases h2 : x < -1000000
    · rw [big_lo h2]
      go_enter Eddg.func7, Eddg.ntmps7
      go_wp2
      go_ret
      exact ⟨rfl, rfl⟩
    · rw [big_no (by omega) (by omega)]
      go_enter Eddg.func7, Eddg.ntmps7
      go_wp2
      go_ret
      exact ⟨rfl, rfl⟩

/-- zzexport.go: ZZtooLarge. -/
theorem zzTooLarge_any (x : Int) (w : World) :
    Calls Eddg.prog 5 #[.int .i64 x] w fun e w' => e = .returned (.bool (big x)) ∧ w' = w := by
  go_enter Eddg.func5, Eddg.ntmps5
  go_wp2_with (go_at_call 7; refine (tooLarge_any _ _).mono ?_; rintro e w' ⟨rfl, rfl⟩)
  go_ret
  exact ⟨rfl, rfl⟩

/-- laws_root_b2.go: zzMag, at every int: the magnitude, as a uint64. -/
theorem zzMag_any (x : Int) (h0 : -9223372036854775808 ≤ x) (h1 : x ≤ 9223372036854775807) (w : World) :
    Calls Eddg.prog 6 #[.int .i64 x] w fun e w' => e = .returned (.int .u64 (mag x)) ∧ w' = w := by
  by_cases h : 0 ≤ x
  · rw [mag_pos h]
    go_enter Eddg.func6, Eddg.ntmps6
    go_wp2
    go_ret
    exact ⟨rfl, rfl⟩
  · rw [mag_neg (by omega)]
    go_enter Eddg.func6, Eddg.ntmps6
    go_wp2
    go_ret
    exact ⟨ret_int (by omega), rfl⟩
#print axioms zzMag_any
#print axioms zzTooLarge_any
end Go.Proofs.Yoeddw
