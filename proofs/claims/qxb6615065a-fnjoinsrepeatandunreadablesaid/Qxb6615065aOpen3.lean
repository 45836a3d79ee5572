/-
  Seat b6615065a: the taken items as they came in; the proof of 'Rows.FnJoinsRepeatAndUnreadableSaid'.
-/
import Derived.Test.Qxb6615065aLaw3
import Derived.Deep.Slices
import Derived.ProofKit
import Derived.OpenShut
namespace Go.Proofs.Qxb6615065a
open Go.RowKit Go.WideShapes Go.ChangeShapes

theorem cells26 : Try.prog.cellsOf 26 = 3 := by kernel_rfl
theorem cells9 : Try.prog.cellsOf 9 = 1 := by kernel_rfl
theorem cells4 : Try.prog.cellsOf 4 = 1 := by kernel_rfl

theorem each3 {H : Type} {enc : TypeId × Value → H} {P : Program} {w : World} {base : Nat} {spare : Nat → Bool} {held : Bool} {e : TypeId} {f0 f1 f2 : Field} {n i : Nat} {a : Addr} {cs' : List Value} {y : DataW H × List MemPlace}
    (he : P.underlying e = some (.struct #[f0, f1, f2])) (o0 : f0.offset = 0) (o1 : f1.offset = 1) (o2 : f2.offset = 2) (c0 : P.cellsOf f0.type = 1) (c1 : P.cellsOf f1.type = 1) (c2 : P.cellsOf f2.type = 1)
    (t0 : P.underlying f0.type = some .string) (t1 : P.underlying f1.type = some .string) (t2 : P.underlying f2.type = some .bool)
    (h1 : w.cells? base (a.add (i * 3)) 3 = some cs') (h2 : DataW.trod enc P w base spare held n e cs' = some y) :
    ∃ it : Item, w.cell? (a.add (i * 3)) = some (.string it.1) ∧ w.cell? (a.add (i * 3 + 1)) = some (.string it.2.1) ∧ w.cell? (a.add (i * 3 + 2)) = some (.bool it.2.2) := by
  obtain ⟨_, hlen, hcell⟩ := World.cells?_some h1
  obtain ⟨xs, k, hk, hxy, _, hxl, hf⟩ := DataW.trod_struct he h2
  match xs, hxl, cs', hlen with
  | [y0, y1, y2], _, [v0, v1, v2], _ =>
    have g0 := hf 0 f0 rfl
    have g1 := hf 1 f1 rfl
    have g2 := hf 2 f2 rfl
    simp [o0, o1, o2, c0, c1, c2] at g0 g1 g2
    have e0 := hcell 0 (by omega)
    have e1 := hcell 1 (by omega)
    have e2 := hcell 2 (by omega)
    rw [Go.Deep.add_add] at e0 e1 e2
    obtain ⟨s0, q0, -, -⟩ := DataW.trod_string t0 g0
    obtain ⟨s1, q1, -, -⟩ := DataW.trod_string t1 g1
    obtain ⟨s2, q2, -⟩ := DataW.trod_bool t2 g2
    simp only [List.cons.injEq, and_true] at q0 q1 q2
    subst q0 q1 q2
    exact ⟨(s0, s1, s2), by simpa using e0, by simpa using e1, by simpa using e2⟩

theorem open_items {H : Type} {enc : TypeId × Value → H} {W : World} {base : Nat} {a : Option Addr} {len cap : Nat} {d : DataW H} {p : List MemPlace}
    (h : DataW.Trod enc Try.prog W base (fun _ => true) true 22 (.slice a len cap) d p) : ∃ xs : List Item, Items W (.slice a len cap) xs := by
  obtain ⟨fuel, hf⟩ := h
  rcases Go.Deep.open_slice Try.underlying22 hf with ⟨hcs, _⟩ | ⟨x, l, c, m, n, D, Pl, hcs, _, hl, hm, hmm, _, hx⟩
  · simp [Value.cells] at hcs
    obtain ⟨rfl, rfl, rfl⟩ := hcs
    exact ⟨[], none, 0, rfl, Nat.le_refl _, Nat.zero_le _, fun h => absurd h (Nat.not_lt_zero _)⟩
  · simp [Value.cells] at hcs
    obtain ⟨rfl, rfl, rfl⟩ := hcs
    rw [cells26] at hx
    have hlm : len ≤ m := by rw [hmm]; simpa using hl
    have each : ∀ i, i < len → ∃ it : Item, W.cell? (x.add (i * 3)) = some (.string it.1) ∧ W.cell? (x.add (i * 3 + 1)) = some (.string it.2.1) ∧ W.cell? (x.add (i * 3 + 2)) = some (.bool it.2.2) := by
      intro i hi
      obtain ⟨cs', h1, h2⟩ := hx i (by omega)
      exact each3 Try.underlying26 rfl rfl rfl cells9 cells9 cells4 Try.underlying9 Try.underlying9 Try.underlying4 h1 h2
    obtain ⟨f, hfx⟩ := Go.Deep.choose_lt each
    have hle : ((List.range len).map f).length = len := by simp
    refine ⟨(List.range len).map f, some x, cap, by rw [hle], by rw [hle]; exact hl, hm, fun hp => ?_⟩
    rw [hle] at hp
    obtain ⟨b, off, spot⟩ := x
    have hspot : spot = none := by simpa [Addr.add] using World.cell?_spot (hfx 0 hp).1
    subst hspot
    refine ⟨b, off, rfl, fun j hj => ?_⟩
    have hj' : j < len := by rw [hle] at hj; exact hj
    have h3 := hfx j hj'
    simp only [Go.WideShapes.add_plain] at h3
    simpa [Nat.add_assoc] using h3

end Go.Proofs.Qxb6615065a
