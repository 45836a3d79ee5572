/-
  Seat b6615065a: plain arithmetic of package time's fields: masks, the whole and the rest of a count of nanoseconds.
-/
import Derived.WalkKit
namespace Go.Proofs.Qxb6615065a
open Go.RowKit

theorem mask30 {n : Int} (h0 : 0 ≤ n) (h1 : n < 1000000000) : bits .and .u64 n 1073741823 = n := by
  obtain ⟨a, rfl⟩ := Int.eq_ofNat_of_zero_le h0
  have h := bits_and_u64_nat a 1073741823 (by omega) (by omega)
  have e : a &&& 1073741823 = a := by
    have := Nat.and_two_pow_sub_one_eq_mod a 30
    have h2 : (2 : Nat) ^ 30 - 1 = 1073741823 := by decide
    rw [h2] at this
    rw [this]
    omega
  rw [e] at h
  exact h

theorem mono0 {n : Int} (h0 : 0 ≤ n) (h1 : n < 1000000000) : bits .and .u64 n 9223372036854775808 = 0 := by
  obtain ⟨a, rfl⟩ := Int.eq_ofNat_of_zero_le h0
  have h := bits_and_u64_nat a 9223372036854775808 (by omega) (by omega)
  have e : a &&& 9223372036854775808 = 0 := by
    have h2 : (2 : Nat) ^ 63 = 9223372036854775808 := by decide
    rw [← h2]
    apply Nat.eq_of_testBit_eq
    intro i
    rw [Nat.testBit_and, Nat.testBit_two_pow, Nat.zero_testBit]
    by_cases hi : 63 = i
    · subst hi
      rw [Nat.testBit_lt_two_pow (by omega)]
      rfl
    · simp [hi]
  rw [e] at h
  exact h

theorem and_self {n : Int} (h0 : 0 ≤ n) (h1 : n < 1000000000) : bits .and .u64 n n = n := by
  obtain ⟨a, rfl⟩ := Int.eq_ofNat_of_zero_le h0
  have h := bits_and_u64_nat a a (by omega) (by omega)
  rw [Nat.and_self] at h
  exact h

theorem and_zero {n : Int} (h0 : 0 ≤ n) (h1 : n < 1000000000) : bits .and .u64 n 0 = 0 := by
  obtain ⟨a, rfl⟩ := Int.eq_ofNat_of_zero_le h0
  have h := bits_and_u64_nat a 0 (by omega) (by omega)
  rw [Nat.and_zero] at h
  exact h

theorem zero_or {n : Int} (h0 : 0 ≤ n) (h1 : n < 1000000000) : bits .or .u64 0 n = n := by
  obtain ⟨a, rfl⟩ := Int.eq_ofNat_of_zero_le h0
  have h := bits_or_u64_nat 0 a (by omega) (by omega)
  rw [Nat.zero_or] at h
  exact h

theorem zero_andNot : bits .andNot .u64 0 1073741823 = 0 := by decide
theorem zero_and (x : Int) (h : x = 9223372036854775808) : bits .and .u64 0 x = 0 := by subst h; decide

/-- What remains of d beneath a second, and the seconds (rounded down). -/
def rest (d : Int) : Int := d % 1000000000
def secs (d : Int) : Int := d / 1000000000

theorem rest_lo (d : Int) : 0 ≤ rest d := by unfold rest; omega
theorem rest_hi (d : Int) : rest d < 1000000000 := by unfold rest; omega
theorem secs_bd {d : Int} (h0 : -9223372036854775808 ≤ d) (h1 : d ≤ 9223372036854775807) : -9223372037 ≤ secs d ∧ secs d ≤ 9223372036 := by unfold secs; omega

theorem back {d : Int} (h0 : -9223372036854775808 ≤ d) (h1 : d ≤ 9223372036854775807) : wrap64 (wrap64 (secs d * 1000000000) + rest d) = d := by
  unfold wrap64 secs rest
  omega

end Go.Proofs.Qxb6615065a
