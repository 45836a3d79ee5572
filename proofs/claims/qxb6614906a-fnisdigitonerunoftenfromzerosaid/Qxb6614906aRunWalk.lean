/-
  Seat b6614906a: the walk of FnIsDigitOneRunOfTenFromZero.
-/
import Derived.Test.Qxb6614906aDigit
import Derived.WalkKit
import Derived.OpenShut
namespace Go.Proofs.Qxb6614906a.fnIsDigitOneRunOfTenFromZero
open Go.RowKit

/-! ### THE PLAIN LAW -/
/-- Are the k runes from r on all digits? -/
def allD (r : Int) : Nat → Bool
  | 0 => true
  | k + 1 => allD r k && isD (r + k)

theorem allD_succ_true {r : Int} {k : Nat} (h : isD (r + k) = true) : allD r (k + 1) = allD r k := by simp [allD, h]
theorem allD_succ_false {r : Int} {k : Nat} (h : isD (r + k) = false) : allD r (k + 1) = false := by simp [allD, h]

theorem allD_ten (r : Int) : allD r 10 = (r == 48) := by
  rw [Bool.eq_iff_iff]
  simp [allD, isD]
  omega

theorem ends (r : Int) :
    ((r == 48) = true ∧ (r == 47) = false ∧ (r == 57) = false ∧ isD r = true ∧ isD (r + 1) = true) ∨
    ((r == 48) = false ∧ (r == 47) = true ∧ (r == 57) = false ∧ isD r = false ∧ isD (r + 1) = true) ∨
    ((r == 48) = false ∧ (r == 47) = false ∧ (r == 57) = true ∧ isD r = true ∧ isD (r + 1) = false) ∨
    ((r == 48) = false ∧ (r == 47) = false ∧ (r == 57) = false ∧ isD r = true ∧ isD (r + 1) = true) ∨
    ((r == 48) = false ∧ (r == 47) = false ∧ (r == 57) = false ∧ isD r = false ∧ isD (r + 1) = false) := by
  simp [isD]
  omega

/-! ### THE WALK -/
theorem walk (a0 : Int) (w0 : (Lit.int .i32 a0).wf = true) (w : World) :
    Calls Try.prog 4 #[.int .i32 a0] w fun e w' => e = .returned (.bool true) ∧ Grown w w' := by
  have hb := bounds_i32 w0
  obtain ⟨hlo, hhi⟩ := hb
  by_cases hbig : 2147483637 < a0
  · go_enter Try.func4, Try.ntmps4
    go_wp2
    go_ret
    exact ⟨rfl, Grown.refl _⟩
  · go_enter Try.func4, Try.ntmps4
    go_wp2
    go_loop [3, 4] (fun t i => ∃ k : Nat, k ≤ 10 ∧ i = .int .i32 k ∧ t = .bool (allD a0 k)) (fun _ i => 10 - (intOf i).toNat)
    case atStart => exact ⟨0, by omega, rfl, rfl⟩
    case round =>
      obtain ⟨k, hk, rfl, rfl⟩ := hrel
      by_cases hlt : k < 10
      · by_cases hd : isD (a0 + k) = true
        · have H := allD_succ_true hd
          have H2 : Hid (allD a0 (k + 1) = allD a0 k) := H
          clear H
          go_wp2_with (go_at_call 8; refine (zzIsDigit_any _ _).mono ?_; rintro e w' ⟨rfl, rfl⟩)
          go_round
          case rel => exact ⟨k + 1, by omega, by go_num, by rw [H2.out]⟩
          case measure => simp [intOf]; omega
        · have hd' : isD (a0 + k) = false := by simpa using hd
          clear hd
          have H := allD_succ_false hd'
          have H2 : Hid (allD a0 (k + 1) = false) := H
          clear H
          go_wp2_with (go_at_call 8; refine (zzIsDigit_any _ _).mono ?_; rintro e w' ⟨rfl, rfl⟩)
          go_round
          case rel => exact ⟨k + 1, by omega, by go_num, by rw [H2.out]⟩
          case measure => simp [intOf]; omega
      · obtain rfl : k = 10 := by omega
        rw [allD_ten]
        clear hlt hk
        rcases ends a0 with ⟨h48, h47, h57, hd, hd1⟩ | ⟨h48, h47, h57, hd, hd1⟩ | ⟨h48, h47, h57, hd, hd1⟩ | ⟨h48, h47, h57, hd, hd1⟩ | ⟨h48, h47, h57, hd, hd1⟩
        all_goals
          go_wp2_with (go_at_call 8; refine (zzIsDigit_any _ _).mono ?_; rintro e w' ⟨rfl, rfl⟩)
          go_ret
          exact ⟨rfl, Grown.refl _⟩

end Go.Proofs.Qxb6614906a.fnIsDigitOneRunOfTenFromZero
