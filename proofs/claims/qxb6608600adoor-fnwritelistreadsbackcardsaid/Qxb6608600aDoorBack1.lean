/-
  Seat b6608600aD: what lies between open and close, byte by byte.
-/
import Derived.Test.Qxb6608600aDoorBack0
import Derived.Laws.DeepStrings4
namespace Go.Proofs.Qxb6608600aDoor

/-- Where name k begins. -/
def offs (xs : List ByteArray) (k : Nat) : Nat := sumSz xs k + 2 * k

theorem join_more (xs : List ByteArray) (k : Nat) : ∀ d, ∃ t, joinTo xs (k + 1 + d) = joinTo xs (k + 1) ++ t ∧ (d = 0 → t = []) ∧ (0 < d → ∃ t', t = 44 :: 32 :: t')
  | 0 => ⟨[], by simp, fun _ => rfl, fun h => absurd h (Nat.not_lt_zero _)⟩
  | d + 1 => by
    obtain ⟨t, h1, h2, h3⟩ := join_more xs k d
    have hne : ¬ k + 1 + d = 0 := by omega
    have e : joinTo xs (k + 1 + (d + 1)) = joinTo xs (k + 1 + d) ++ ([44, 32] ++ (xs.getD (k + 1 + d) ⟨#[]⟩).data.toList) := by
      show joinTo xs (k + 1 + d) ++ ((if k + 1 + d = 0 then [] else [44, 32]) ++ (xs.getD (k + 1 + d) ⟨#[]⟩).data.toList) = _
      rw [if_neg hne]
    refine ⟨t ++ ([44, 32] ++ (xs.getD (k + 1 + d) ⟨#[]⟩).data.toList), by rw [e, h1, List.append_assoc], fun h => by omega, fun _ => ?_⟩
    by_cases hd : d = 0
    · rw [h2 hd]; exact ⟨_, rfl⟩
    · obtain ⟨t', ht⟩ := h3 (by omega)
      rw [ht]; exact ⟨_, rfl⟩

theorem join_at {xs : List ByteArray} {k : Nat} (hk : k < xs.length) : ∃ pre t : List UInt8, joinTo xs xs.length = pre ++ (xs[k].data.toList ++ t) ∧ pre.length = offs xs k ∧ (k + 1 = xs.length → t = []) ∧ (k + 1 < xs.length → ∃ t', t = 44 :: 32 :: t') := by
  obtain ⟨t, h1, h2, h3⟩ := join_more xs k (xs.length - (k + 1))
  rw [show k + 1 + (xs.length - (k + 1)) = xs.length by omega] at h1
  refine ⟨joinTo xs k ++ (if k = 0 then [] else [44, 32]), t, ?_, ?_, fun h => h2 (by omega), fun h => h3 (by omega)⟩
  · rw [h1]
    have := joinTo_succ hk []
    simp only [List.nil_append] at this
    rw [this]
    simp
  · rw [List.length_append, joinTo_length]
    unfold offs
    by_cases h0 : k = 0
    · subst h0; simp
    · simp [h0]; omega

/-- The middle, at name k. -/
theorem mid_at {xs : List ByteArray} {M : ByteArray} (hM : (⟨(joinTo xs xs.length).toArray⟩ : ByteArray) = M) {k : Nat} (hk : k < xs.length) :
    M.extract (offs xs k) (offs xs k + xs[k].size) = xs[k] ∧ offs xs k + xs[k].size ≤ M.size ∧
    (∀ i (h : i < M.size) (j : Nat) (hj : j < xs[k].size), i = offs xs k + j → M[i] = xs[k][j]) ∧
    (k + 1 = xs.length → M.size = offs xs k + xs[k].size) ∧
    (k + 1 < xs.length → offs xs k + xs[k].size + 1 < M.size ∧ offs xs (k + 1) = offs xs k + xs[k].size + 2 ∧ (∀ i (h : i < M.size), i = offs xs k + xs[k].size → M[i] = 44) ∧ ∀ i (h : i < M.size), i = offs xs k + xs[k].size + 1 → M[i] = 32) := by
  obtain ⟨pre, t, h1, h2, h3, h4⟩ := join_at hk
  rw [h1] at hM
  subst hM
  have hl : xs[k].data.toList.length = xs[k].size := data_len _
  have hsz : (⟨(pre ++ (xs[k].data.toList ++ t)).toArray⟩ : ByteArray).size = pre.length + (xs[k].size + t.length) := by
    rw [← data_len]; simp [hl]
  have hget : ∀ i (h : i < (⟨(pre ++ (xs[k].data.toList ++ t)).toArray⟩ : ByteArray).size), (⟨(pre ++ (xs[k].data.toList ++ t)).toArray⟩ : ByteArray)[i] = (pre ++ (xs[k].data.toList ++ t))[i]'(by rw [hsz] at h; simp [hl]; omega) := fun i h => rfl
  refine ⟨?_, by rw [hsz]; omega, ?_, fun h => by rw [hsz, h3 h]; simp; omega, fun h => ?_⟩
  · rw [ByteArray.extract_mk, ← h2, List.drop_left]
    apply ba_ext
    rw [show pre.length + xs[k].size - pre.length = xs[k].size by omega, ← hl, List.take_left]
  · intro i h j hj e
    rw [hget]
    subst e
    rw [List.getElem_append_right (by omega), List.getElem_append_left (by rw [hl]; omega)]
    simp only [h2, Nat.add_sub_cancel_left]
    rfl
  · obtain ⟨t', rfl⟩ := h4 h
    refine ⟨by rw [hsz]; simp; omega, by unfold offs; rw [sumSz_succ hk]; omega, fun i hi e => ?_, fun i hi e => ?_⟩
    · rw [hget]
      subst e
      rw [List.getElem_append_right (by omega), List.getElem_append_right (by rw [hl]; omega)]
      simp [h2, hl]
    · rw [hget]
      subst e
      rw [List.getElem_append_right (by omega), List.getElem_append_right (by rw [hl]; omega)]
      simp only [h2, hl]
      have e2 : offs xs k + xs[k].size + 1 - offs xs k - xs[k].size = 1 := by omega
      simp [e2]

end Go.Proofs.Qxb6608600aDoor
