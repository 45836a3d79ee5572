/-
  Seat b6608600aD: the plain law of reading back.
-/
import Derived.Test.Qxb6608600aDoorPlain
namespace Go.Proofs.Qxb6608600aDoor

/-- None of the first m bytes is a comma. -/
def NoComma (s : ByteArray) (m : Nat) : Prop := ∀ j (h : j < s.size), j < m → ((s[j].toNat : Int) == 44) = false
theorem noComma_step {s : ByteArray} {m : Nat} (h : NoComma s m) (hm : m < s.size) (hq : ((s[m].toNat : Int) == 44) = false) : NoComma s (m + 1) := fun j hj hjm => by
  by_cases e : j = m
  · subst e; exact hq
  · exact h j hj (by omega)

/-- The first k names hold no comma. -/
def Clean (xs : List ByteArray) (k : Nat) : Prop := ∀ j (h : j < xs.length), j < k → NoComma xs[j] xs[j].size
theorem clean_step {xs : List ByteArray} {k : Nat} (h : Clean xs k) (hk : k < xs.length) (hs : NoComma xs[k] xs[k].size) : Clean xs (k + 1) := fun j hj hjk => by
  by_cases e : j = k
  · subst e; exact hs
  · exact h j hj (by omega)

theorem written_mid (p o c : ByteArray) (xs : List ByteArray) : written p o xs c = p ++ o ++ (⟨(joinTo xs xs.length).toArray⟩ : ByteArray) ++ c := by
  apply ba_ext
  rw [ba_app, ba_app, ba_app, written_data]

end Go.Proofs.Qxb6608600aDoor
