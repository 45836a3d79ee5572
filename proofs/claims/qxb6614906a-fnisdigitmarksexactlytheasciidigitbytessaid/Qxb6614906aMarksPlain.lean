/-
  Seat b6614906a: what FnIsDigitMarksExactlyTheASCIIDigitBytes leans on, with no Go text in sight: how many of the first k bytes are digits; that a range's step skips no digit.
-/
import Derived.Laws.RangeAny
import Derived.Test.Qxb6614906aDigit
namespace Go.Proofs.Qxb6614906a

/-- How many of the first k bytes of s are ASCII digits. -/
def cntB (s : ByteArray) : Nat → Nat
  | 0 => 0
  | k + 1 => cntB s k + if isD ((s.get! k).toNat : Int) then 1 else 0

theorem cntB_le (s : ByteArray) : ∀ k, cntB s k ≤ k
  | 0 => Nat.le_refl _
  | k + 1 => by have := cntB_le s k; unfold cntB; split <;> omega

theorem cntB_skip (s : ByteArray) (pos : Nat) : ∀ n, (∀ j, pos ≤ j → j < pos + n → 128 ≤ (s.get! j).toNat) → cntB s (pos + n) = cntB s pos
  | 0, _ => rfl
  | n + 1, h => by
    have ih := cntB_skip s pos n (fun j h1 h2 => h j h1 (by omega))
    have h1 := h (pos + n) (by omega) (by omega)
    show cntB s (pos + n) + (if isD ((s.get! (pos + n)).toNat : Int) then 1 else 0) = _
    rw [ih, isD_false (by omega)]
    rfl

theorem high_all (s : ByteArray) (pos : Nat) (h : pos < s.size) (ha : 128 ≤ (s.get! pos).toNat) :
    pos + (Utf8.decode s pos).2 ≤ s.size ∧ ∀ j, pos ≤ j → j < pos + (Utf8.decode s pos).2 → 128 ≤ (s.get! j).toNat := by
  have e0 : pos + 0 = pos := rfl
  have hn : ¬ (s.get! (pos + 0)).toNat < 128 := by rw [e0]; omega
  have one : pos + 1 ≤ s.size ∧ ∀ j, pos ≤ j → j < pos + 1 → 128 ≤ (s.get! j).toNat :=
    ⟨by omega, fun j h1 h2 => by obtain rfl : j = pos := by omega
                                 exact ha⟩
  simp only [Utf8.decode, hn, if_false]
  split
  · rename_i hc
    simp only [Bool.and_eq_true, decide_eq_true_eq, beq_iff_eq] at hc
    split
    · refine ⟨by dsimp only; omega, fun j h1 h2 => ?_⟩
      dsimp only at h2
      rcases (show j = pos ∨ j = pos + 1 by omega) with rfl | rfl <;> omega
    · exact one
  · split
    · rename_i hc
      simp only [Bool.and_eq_true, decide_eq_true_eq, beq_iff_eq] at hc
      split
      · refine ⟨by dsimp only; omega, fun j h1 h2 => ?_⟩
        dsimp only at h2
        rcases (show j = pos ∨ j = pos + 1 ∨ j = pos + 2 by omega) with rfl | rfl | rfl <;> omega
      · exact one
    · split
      · rename_i hc
        simp only [Bool.and_eq_true, decide_eq_true_eq, beq_iff_eq] at hc
        split
        · refine ⟨by dsimp only; omega, fun j h1 h2 => ?_⟩
          dsimp only at h2
          rcases (show j = pos ∨ j = pos + 1 ∨ j = pos + 2 ∨ j = pos + 3 by omega) with rfl | rfl | rfl | rfl <;> omega
        · exact one
      · exact one

/-- ONE STEP OF A RANGE OVER s: it goes on, stays within s, its rune is a digit just where the byte is, and no digit is skipped. -/
theorem step (s : ByteArray) (pos : Nat) (h : pos < s.size) :
    1 ≤ (Utf8.decode s pos).2 ∧ pos + (Utf8.decode s pos).2 ≤ s.size ∧ isD ((Utf8.decode s pos).1 : Int) = isD ((s[pos]'h).toNat : Int) ∧
    cntB s (pos + (Utf8.decode s pos).2) = cntB s pos + if isD ((s[pos]'h).toNat : Int) then 1 else 0 := by
  have eg : s.get! pos = s[pos]'h := get_at s pos h
  by_cases ha : (s[pos]'h).toNat < 128
  · rw [decode_ascii s pos h ha]
    refine ⟨Nat.le_refl _, h, rfl, ?_⟩
    show cntB s pos + _ = _
    rw [eg]
  · have hh := decode_high s pos h (by omega)
    have hg : 128 ≤ (s.get! pos).toNat := by rw [eg]; omega
    have hal := high_all s pos h hg
    refine ⟨hh.2, hal.1, ?_, ?_⟩
    · rw [isD_false (by omega), isD_false (by omega)]
    · rw [cntB_skip s pos _ hal.2, isD_false (by omega)]
      rfl

end Go.Proofs.Qxb6614906a
