/-
  Seat b6614942a: from what the row's frame says of a slice of bytes that came in ('IsRow': the kit's shell's own word) to 'Src'.
-/
import Derived.Test.Qxb6614942aBytes
import Derived.OpenShut
namespace Go.Proofs.Qxb6614942a
open Go.RowKit

/-- WHAT THE WALK IS TOLD OF A SLICE OF INTEGERS THAT CAME IN: it is nil; or it leads to a row of 'cap' cells, the numbers 'zs' (the first 'len' are its elements, the rest its spare room), each fitting its kind. -/
def IsRow (k : IntKind) (w : World) (a : Option Addr) (len cap : Nat) (zs : List Int) : Prop :=
  (a = none ∧ len = 0 ∧ cap = 0 ∧ zs = []) ∨
  ∃ x, a = some x ∧ len ≤ cap ∧ cap ≤ maxLen ∧ zs.length = cap ∧ (∀ i, i < zs.length → w.cell? (x.add i) = some (.int k (zs.getD i 0))) ∧ ∀ n ∈ zs, (Lit.int k n).wf = true

theorem src_of_row {w : World} {a : Option Addr} {len cap : Nat} {zs : List Int} (h : IsRow .u8 w a len cap zs) :
    ∃ ys : List Int, ys.length = len ∧ Src w (.slice a len cap) ys := by
  rcases h with ⟨rfl, rfl, rfl, rfl⟩ | ⟨x, rfl, h1, h2, h3, h4, -⟩
  · exact ⟨[], rfl, src_nil w⟩
  · have hl : (zs.take len).length = len := by rw [List.length_take]; omega
    refine ⟨zs.take len, hl, some x, cap, by rw [hl], by rw [hl]; exact h1, h2, (fun h => by cases h), fun hz => ?_⟩
    have hp : 0 < zs.length := by
      have : 0 < (zs.take len).length := List.length_pos_iff.2 hz
      rw [hl] at this
      omega
    obtain ⟨b, off, rfl, hc⟩ := ints_at h4 hp
    refine ⟨b, off, rfl, fun j hj => ?_⟩
    have hj' : j < zs.length := by
      rw [hl] at hj
      omega
    rw [hc j hj']
    simp [List.getElem_take, hj']

end Go.Proofs.Qxb6614942a
