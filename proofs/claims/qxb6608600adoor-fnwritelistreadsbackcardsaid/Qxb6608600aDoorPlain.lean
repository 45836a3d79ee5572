/-
  Seat b6608600aD: the plain law of the cut: the text of a list laid end to end; its length.
-/
import Derived.Test.Qxb6608600aDoorZz
namespace Go.Proofs.Qxb6608600aDoor

def sepOf (xa xb : List ByteArray) : ByteArray := if xa.length = 0 ∨ xb.length = 0 then ⟨#[]⟩ else ⟨#[44, 32]⟩

theorem joinTo_left (xa xb : List ByteArray) : ∀ k, k ≤ xa.length → joinTo (xa ++ xb) k = joinTo xa k
  | 0, _ => rfl
  | k + 1, h => by
    have e : (xa ++ xb).getD k ⟨#[]⟩ = xa.getD k ⟨#[]⟩ := by simp [List.getD, List.getElem?_append_left (show k < xa.length by omega)]
    simp only [joinTo, joinTo_left xa xb k (by omega), e]

theorem joinTo_cut (xa xb : List ByteArray) : ∀ m, m ≤ xb.length → joinTo (xa ++ xb) (xa.length + m) = joinTo xa xa.length ++ ((if xa.length = 0 ∨ m = 0 then [] else [44, 32]) ++ joinTo xb m)
  | 0, _ => by simp [joinTo, joinTo_left xa xb xa.length (Nat.le_refl _)]
  | m + 1, h => by
    have e : (xa ++ xb).getD (xa.length + m) ⟨#[]⟩ = xb.getD m ⟨#[]⟩ := by
      simp only [List.getD]
      rw [List.getElem?_append_right (by omega), Nat.add_sub_cancel_left]
    have ih := joinTo_cut xa xb m (by omega)
    show joinTo (xa ++ xb) (xa.length + m) ++ ((if xa.length + m = 0 then [] else [44, 32]) ++ ((xa ++ xb).getD (xa.length + m) ⟨#[]⟩).data.toList) = _
    rw [ih, e]
    by_cases h0 : xa.length = 0
    · have hx : xa = [] := List.eq_nil_of_length_eq_zero h0
      subst hx
      simp [joinTo]
    · by_cases hm : m = 0
      · subst hm
        simp [joinTo, h0]
      · simp [joinTo, h0, hm]

theorem ba_ext {a b : ByteArray} (h : a.data.toList = b.data.toList) : a = b := by
  cases a; cases b
  simpa using Array.toList_inj.1 h

theorem ba_app (a b : ByteArray) : (a ++ b).data.toList = a.data.toList ++ b.data.toList := by simp

theorem written_data (p o c : ByteArray) (xs : List ByteArray) : (written p o xs c).data.toList = p.data.toList ++ o.data.toList ++ joinTo xs xs.length ++ c.data.toList := rfl

theorem written_cut (p o c : ByteArray) (xa xb : List ByteArray) : written p o (xa ++ xb) c = written p o xa ⟨#[]⟩ ++ sepOf xa xb ++ written ⟨#[]⟩ ⟨#[]⟩ xb c := by
  apply ba_ext
  rw [ba_app, ba_app, written_data, written_data, written_data, List.length_append, joinTo_cut xa xb xb.length (Nat.le_refl _)]
  have hs : (sepOf xa xb).data.toList = if xa.length = 0 ∨ xb.length = 0 then [] else [44, 32] := by unfold sepOf; split <;> rfl
  rw [hs]
  simp

/-- The bytes of the first k names. -/
def sumSz (xs : List ByteArray) : Nat → Nat
  | 0 => 0
  | k + 1 => sumSz xs k + (xs.getD k ⟨#[]⟩).size

theorem joinTo_length (xs : List ByteArray) : ∀ k, (joinTo xs k).length = sumSz xs k + 2 * (k - 1)
  | 0 => rfl
  | k + 1 => by
    have ih := joinTo_length xs k
    have h2 : (xs.getD k ⟨#[]⟩).data.toList.length = (xs.getD k ⟨#[]⟩).size := data_len _
    simp only [joinTo, List.length_append, ih, sumSz, h2]
    by_cases hk : k = 0
    · subst hk; simp
    · simp [hk]; omega

theorem written_size (p o c : ByteArray) (xs : List ByteArray) : (written p o xs c).size = p.size + o.size + c.size + sumSz xs xs.length + 2 * (xs.length - 1) := by
  rw [← data_len, written_data, List.length_append, List.length_append, List.length_append, data_len, data_len, data_len, joinTo_length]
  omega

theorem sumSz_le {xs : List ByteArray} (h : ∀ s ∈ xs, s.size ≤ 1048576) : ∀ k, sumSz xs k ≤ k * 1048576
  | 0 => Nat.zero_le _
  | k + 1 => by
    have ih := sumSz_le h k
    have h2 : (xs.getD k ⟨#[]⟩).size ≤ 1048576 := by
      by_cases hk : k < xs.length
      · have h3 : xs.getD k ⟨#[]⟩ = xs[k] := by simp [List.getD, hk]
        rw [h3]; exact h _ (List.getElem_mem hk)
      · have h3 : xs.getD k ⟨#[]⟩ = ⟨#[]⟩ := by simp [List.getD, hk]
        rw [h3]; exact Nat.zero_le _
    simp only [sumSz]
    omega

theorem sumSz_succ {xs : List ByteArray} {k : Nat} (h : k < xs.length) : sumSz xs (k + 1) = sumSz xs k + xs[k].size := by
  have h3 : xs.getD k ⟨#[]⟩ = xs[k] := by simp [List.getD, h]
  simp only [sumSz, h3]

end Go.Proofs.Qxb6608600aDoor
