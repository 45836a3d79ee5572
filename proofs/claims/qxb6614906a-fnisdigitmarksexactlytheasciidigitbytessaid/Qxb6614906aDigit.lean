/-
  Seat b6614906a: the contracts of isDigit and ZZisDigit, shared by the seat's two laws.
-/
import Derived.Test.Qxb6614906aProg
import Derived.WalkKit
namespace Go.Proofs.Qxb6614906a
open Go.RowKit

/-- Is the rune one of the ten ASCII digits? -/
def isD (x : Int) : Bool := decide (48 ≤ x) && decide (x ≤ 57)

theorem isD_true {x : Int} (h1 : 48 ≤ x) (h2 : x ≤ 57) : isD x = true := by simp [isD, h1, h2]
theorem isD_false {x : Int} (h : ¬ (48 ≤ x ∧ x ≤ 57)) : isD x = false := by simp [isD]; omega

theorem isDigit_any (x : Int) (w : World) :
    Calls Try.prog 17 #[.int .i32 x] w fun e w' => e = .returned (.bool (isD x)) ∧ w' = w := by
  by_cases h1 : 48 ≤ x
  · by_cases h2 : x ≤ 57
    · rw [isD_true h1 h2]
      go_enter Try.func17, Try.ntmps17
      go_wp2
      go_ret
      exact ⟨rfl, rfl⟩
    · rw [isD_false (by omega)]
      go_enter Try.func17, Try.ntmps17
      go_wp2
      go_ret
      exact ⟨rfl, rfl⟩
  · rw [isD_false (by omega)]
    go_enter Try.func17, Try.ntmps17
    go_wp2
    go_ret
    exact ⟨rfl, rfl⟩

theorem zzIsDigit_any (x : Int) (w : World) :
    Calls Try.prog 8 #[.int .i32 x] w fun e w' => e = .returned (.bool (isD x)) ∧ w' = w := by
  go_enter Try.func8, Try.ntmps8
  go_wp2_with (go_at_call 17; refine (isDigit_any _ _).mono ?_; rintro e w' ⟨rfl, rfl⟩)
  go_ret
  exact ⟨rfl, rfl⟩

end Go.Proofs.Qxb6614906a
