/-
  Seat b6608600aD: a copy of the names; the names laid end to end by append.
-/
import Derived.Test.Qxb6608600aDoorBytes
import Derived.Deep.DeepCutAuto
import Derived.Lib.JoinLaws
import Derived.Laws.CopyOwn
namespace Go.Proofs.Qxb6608600aDoor
open Go.RowKit

theorem info9 : (Tryd.prog.info? 9).map (fun i => (i.zero, i.size, i.bytes)) = some (some (.string ⟨#[]⟩), 1, 16) := by kernel_rfl
theorem size9 : (Tryd.prog.info? 9).map (·.size) = some 1 := by kernel_rfl

/-- A row that begins with the names. -/
theorem names_row {w : World} {g n cap : Nat} {cur : Array Value} {xs : List ByteArray} (hg : w.heap[g]? = some (.cells cur 9 (0, 0))) (hn : xs.length = n) (hc : n ≤ cap) (hm : cap ≤ maxLen) (ht : cur.toList.take n = xs.map Value.string) :
    Names w (.slice (some ⟨g, 0, none⟩) n cap) xs := by
  subst hn
  refine ⟨_, cap, rfl, hc, hm, fun hp => ⟨g, 0, rfl, fun j hj => ?_⟩⟩
  rw [cell_of_row w g _ cur 9 (0, 0) hg, Nat.zero_add]
  have h1 : (cur.toList.take xs.length)[j]? = some (.string xs[j]) := by rw [ht]; simp [hj]
  rw [List.getElem?_take_of_lt hj] at h1
  simpa using h1

theorem copy_names {w : World} {ad : Addr} {xs : List ByteArray} {ca : Nat} (h : Names w (.slice (some ad) xs.length ca) xs) :
    ∃ W2, (Builtin.copy_ #[22, 22] 3 #[.slice (some ⟨w.heap.size, 0, none⟩) xs.length xs.length, .slice (some ad) xs.length ca]).run Tryd.prog (w.alloc (.cells (madeCells #[.string ⟨#[]⟩] xs.length) 9)) = .ok (.int .i64 xs.length) W2 ∧
      Hid (Names W2 (.slice (some ⟨w.heap.size, 0, none⟩) xs.length xs.length) xs) ∧ Hid (Below w.heap.size w W2) := by
  obtain ⟨ao, c, he, hc1, hc2, hcell⟩ := h
  cases he
  have hg := (MapKept.heap_alloc w (.cells (madeCells #[.string ⟨#[]⟩] xs.length) 9)).1
  have hsz : (madeCells #[.string ⟨#[]⟩] xs.length).size = xs.length := size_madeCells _ _
  have hsrc : ∀ j v, (xs.map Value.string)[j]? = some v → (w.alloc (.cells (madeCells #[.string ⟨#[]⟩] xs.length) 9)).cell? (ad.add j) = some v := by
    intro j v hv
    have hj : j < xs.length := by simpa using (List.getElem?_eq_some_iff.1 hv).1
    obtain ⟨g, o, hao, hit⟩ := hcell (by omega)
    cases hao
    have hgw : g < w.heap.size := World.block_lt_of_cell? _ _ (hit j hj)
    rw [Go.WideShapes.add_plain, World.cell?_alloc_lt _ _ _ hgw, hit j hj]
    simpa [hj] using hv
  have hrun := run_copy_row (P := Tryd.prog) _ 22 22 3 9 w.heap.size 0 xs.length xs.length ad xs.length ca _ 9 (xs.map Value.string) Tryd.underlying22 size9 hg (by simp) hsrc (by simp [hsz]) (by simp; intros; rfl)
  rw [List.length_map] at hrun
  refine ⟨_, hrun, ?_, below_setRow ((Below.refl _ w).alloc (Nat.le_refl _) _) (Nat.le_refl _) _⟩
  refine names_row (setRow_heap _ _ _ _ 9 (0, 0) hg) rfl (Nat.le_refl _) (Nat.le_trans hc1 hc2) ?_
  simp

/-- What append has built reads as the names. -/
theorem names_own {w : World} {B n : Nat} {v : Value} {xs : List ByteArray} (h : w.ownsRow B 9 1 v n (xs.map Value.string)) : Names w v xs := by
  obtain ⟨hl, h⟩ := h
  have hn : xs.length = n := by simpa using hl
  rcases h with ⟨rfl, h0⟩ | ⟨g, cap, cur, rfl, -, hg, hc, hm, hs, ht⟩
  · have hx : xs = [] := List.eq_nil_of_length_eq_zero (by omega)
    subst hx
    exact ⟨none, 0, rfl, Nat.le_refl _, Nat.zero_le _, fun h => absurd h (Nat.not_lt_zero _)⟩
  · rw [Nat.mul_one] at ht
    exact names_row hg hn hc hm ht

theorem own_start (w : World) (N : Nat) (hN : N ≤ maxLen) : (w.alloc (.cells (madeCells #[.string ⟨#[]⟩] N) 9)).ownsRow w.heap.size 9 1 (.slice (some ⟨w.heap.size, 0, none⟩) 0 N) 0 [] :=
  ⟨rfl, .inr ⟨w.heap.size, N, _, rfl, Nat.le_refl _, (MapKept.heap_alloc w _).1, Nat.zero_le _, hN, by rw [size_madeCells]; simp, rfl⟩⟩

/-- The first k of the names, as cells. -/
def taken (xs : List ByteArray) (k : Nat) : List Value := (xs.take k).map Value.string

theorem taken_snoc {xs : List ByteArray} {k : Nat} {y : ByteArray} (h : xs[k]? = some y) : taken xs k ++ [.string y] = taken xs (k + 1) := by
  unfold taken
  rw [List.take_add_one, List.map_append, h]
  rfl

theorem taken_all (xs : List ByteArray) : taken xs xs.length = xs.map Value.string := by
  unfold taken
  rw [List.take_length]

theorem Names.cell {w w' : World} {v : Value} {xs : List ByteArray} (h : Names w v xs) (hb : Below w.heap.size w w') (k : Nat) (hk : k < xs.length) :
    ∃ g o c, v = .slice (some ⟨g, o, none⟩) xs.length c ∧ w'.cell? ⟨g, o + k, none⟩ = some (.string xs[k]) := by
  obtain ⟨ao, c, rfl, hc1, hc2, hcell⟩ := h
  obtain ⟨g, o, rfl, hit⟩ := hcell (by omega)
  have hgw : g < w.heap.size := World.block_lt_of_cell? _ _ (hit k hk)
  exact ⟨g, o, c, rfl, by rw [hb.cell (p := ⟨g, o + k, none⟩) hgw]; exact hit k hk⟩

end Go.Proofs.Qxb6608600aDoor
