/-
  Seat b6615065a: the items that came in, the turns built of them.
-/
import Derived.Test.Qxb6615065aTurn2
import Derived.Deep.OwnRows
namespace Go.Proofs.Qxb6615065a
open Go.RowKit
attribute [local go_sem ↓] Go.wp_at_zero Go.wp_at_succ

/-- One taken item: its source, its id, whether it is unreadable. -/
abbrev Item := ByteArray × ByteArray × Bool

/-- The items that came in. -/
def Items (w : World) (v : Value) (xs : List Item) : Prop :=
  ∃ ao c, v = .slice ao xs.length c ∧ xs.length ≤ c ∧ c ≤ maxLen ∧
    (0 < xs.length → ∃ g o, ao = some ⟨g, o, none⟩ ∧ ∀ j (h : j < xs.length), w.cell? ⟨g, o + j * 3, none⟩ = some (.string xs[j].1) ∧ w.cell? ⟨g, o + j * 3 + 1, none⟩ = some (.string xs[j].2.1) ∧ w.cell? ⟨g, o + j * 3 + 2, none⟩ = some (.bool xs[j].2.2))

/-- The turns built so far: k of them, in a row of n pointers in block R. -/
def Turns (w : World) (R : Nat) (xs : List Item) (has ran : Bool) (k : Nat) : Prop :=
  ∃ C : Array Value, w.heap[R]? = some (.cells C 57 (0, 0)) ∧ C.size = xs.length ∧ (∀ x ∈ C, ∃ p, x = .pointer p) ∧
    ∀ j (h : j < xs.length), j < k → ∃ T, C[j]? = some (.pointer (some ⟨T, 0, none⟩)) ∧ TurnAt w T xs[j].1 xs[j].2.1 xs[j].2.2 (decide (j + 1 = xs.length) && has) ran

theorem info57 : (Try.prog.info? 57).map (fun i => (i.zero, i.size, i.bytes)) = some (some (.pointer none), 1, 8) := by kernel_rfl

theorem turns_start (w : World) (xs : List Item) (has ran : Bool) : Turns (w.alloc (.cells (madeCells #[.pointer none] xs.length) 57)) w.heap.size xs has ran 0 :=
by
  refine ⟨_, (MapKept.heap_alloc w _).1, size_madeCells _ _, ?_, fun _ _ h => absurd h (Nat.not_lt_zero _)⟩
  intro x hx
  simp only [madeCells, Array.mem_map] at hx
  obtain ⟨i, -, rfl⟩ := hx
  exact ⟨none, by simp [Nat.mod_one]⟩

theorem Turns.stay {w w' : World} {R k : Nat} {xs : List Item} {has ran : Bool} (h : Turns w R xs has ran k) (hb : Below w.heap.size w w') : Turns w' R xs has ran k := by
  obtain ⟨C, h1, h2, hp, h3⟩ := h
  refine ⟨C, by rw [hb.block R (Array.getElem?_eq_some_iff.1 h1).1]; exact h1, h2, hp, fun j hj hk => ?_⟩
  obtain ⟨T, h4, h5⟩ := h3 j hj hk
  exact ⟨T, h4, h5.stay hb⟩

/-- A store into the row of pointers leaves a turn as it was. -/
theorem TurnAt.row {w : World} {T R i : Nat} {src id : ByteArray} {un has ran : Bool} {C : Array Value} {v : Value} (h : TurnAt w T src id un has ran) (hR : w.heap[R]? = some (.cells C 57 (0, 0)))
    (hC : ∀ x ∈ C, ∃ p, x = .pointer p) : TurnAt (w.setCell ⟨R, i, none⟩ v) T src id un has ran := by
  have hp : ∀ j x, w.cell? ⟨R, j, none⟩ = some x → ∃ p, x = .pointer p := fun j x hx => by
    rw [cell_of_row w R j C 57 (0, 0) hR] at hx
    exact hC x (Array.mem_of_getElem? hx)
  have k : ∀ {b j : Nat} {x : Value}, b ≠ R → w.cell? ⟨b, j, none⟩ = some x → (w.setCell ⟨R, i, none⟩ v).cell? ⟨b, j, none⟩ = some x := fun hb hx => by
    rw [World.cell?_setCell_other _ _ _ _ (fun e => by have := congrArg Addr.block e; simp at this; omega)]; exact hx
  obtain ⟨h1, h2, h3, h4, h5, h6, h7, h8⟩ := h
  have hT : T ≠ R := by
    intro e
    subst e
    obtain ⟨p, hq⟩ := hp _ _ h1
    cases hq
  refine ⟨k hT h1, k hT h2, k hT h3, k hT h4, fun e => k hT (h5 e), fun e => ?_, fun e => k hT (h7 e), fun e => ?_⟩
  · obtain ⟨p, hq⟩ := h6 e; exact ⟨p, k hT hq⟩
  · obtain ⟨S, hS, hc⟩ := h8 e
    have hSR : S ≠ R := by
      intro e2
      subst e2
      obtain ⟨p, hq⟩ := hp _ _ hc
      cases hq
    exact ⟨S, k hT hS, k hSR hc⟩

theorem turns_step {w : World} {R k T : Nat} {xs : List Item} {has ran : Bool} (h : Turns w R xs has ran k) (hk : k < xs.length) (hT : TurnAt w T xs[k].1 xs[k].2.1 xs[k].2.2 (decide (k + 1 = xs.length) && has) ran) :
    Turns (w.setCell ⟨R, k, none⟩ (.pointer (some ⟨T, 0, none⟩))) R xs has ran (k + 1) := by
  obtain ⟨C, h1, h2, hp, h3⟩ := h
  refine ⟨_, heap_setCell_same w R k C 57 _ h1, by simp [h2], ?_, fun j hj hjk => ?_⟩
  · intro x hx
    rcases Array.mem_or_eq_of_mem_setIfInBounds hx with hx | rfl
    · exact hp x hx
    · exact ⟨_, rfl⟩
  · by_cases e : j = k
    · subst e
      exact ⟨T, by rw [Array.getElem?_setIfInBounds_self_of_lt (by omega)], hT.row h1 hp⟩
    · obtain ⟨T', h4, h5⟩ := h3 j hj (by omega)
      exact ⟨T', by rw [Array.getElem?_setIfInBounds_ne (by omega)]; exact h4, h5.row h1 hp⟩

theorem id' {p : Prop} (h : p) : p := h

theorem after_call {wr w5 : World} {g p0 p1 p2 R k n : Nat} {v0 v1 v2 : Value} {C : Array Value} (hb : Below wr.heap.size wr w5) (c0 : wr.cell? ⟨g, p0, none⟩ = some v0) (c1 : wr.cell? ⟨g, p1, none⟩ = some v1) (c2 : wr.cell? ⟨g, p2, none⟩ = some v2)
    (hC : wr.heap[R]? = some (.cells C 57 (0, 0))) (hs : C.size = n) (hk : k < n) (hgR : g < R) :
    (∀ v, (w5.setCell ⟨R, k, none⟩ v).cell? ⟨g, p0, none⟩ = some v0) ∧ (∀ v, (w5.setCell ⟨R, k, none⟩ v).cell? ⟨g, p1, none⟩ = some v1) ∧ (∀ v, (w5.setCell ⟨R, k, none⟩ v).cell? ⟨g, p2, none⟩ = some v2) ∧ w5.cell? ⟨g, p0, none⟩ = some v0 ∧ w5.cell? ⟨g, p1, none⟩ = some v1 ∧ w5.cell? ⟨g, p2, none⟩ = some v2 ∧ w5.frozen? ⟨R, k, none⟩ = false ∧ ∃ pv, w5.cell? ⟨R, k, none⟩ = some pv := by
  have kk : ∀ {j : Nat} {x : Value}, wr.cell? ⟨g, j, none⟩ = some x → w5.cell? ⟨g, j, none⟩ = some x := fun hx => by rw [hb.cell (World.block_lt_of_cell? _ _ hx)]; exact hx
  have hC5 : w5.heap[R]? = some (.cells C 57 (0, 0)) := by rw [hb.block R (Array.getElem?_eq_some_iff.1 hC).1]; exact hC
  have ks : ∀ {j : Nat} {x : Value}, w5.cell? ⟨g, j, none⟩ = some x → ∀ v, (w5.setCell ⟨R, k, none⟩ v).cell? ⟨g, j, none⟩ = some x := fun hx v => by
    rw [World.cell?_setCell_other _ _ _ _ (fun e => by have := congrArg Addr.block e; simp at this; omega)]; exact hx
  exact ⟨ks (kk c0), ks (kk c1), ks (kk c2), kk c0, kk c1, kk c2, frozen_of_row w5 R k C 57 hC5, C[k], by rw [cell_of_row w5 R k C 57 (0, 0) hC5]; exact Array.getElem?_eq_getElem (by omega)⟩

end Go.Proofs.Qxb6615065a
