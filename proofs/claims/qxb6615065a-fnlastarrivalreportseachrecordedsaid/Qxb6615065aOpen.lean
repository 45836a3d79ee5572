/-
  Seat b6615065a: an array of 32 int64 that came in by value; a slice of int64 that came in.
-/
import Derived.Test.Qxb6615065aArrive
import Derived.ProofKit
import Derived.OpenShut
namespace Go.Proofs.Qxb6615065a
open Go.RowKit Go.WideShapes

theorem cells53 : Try.prog.cellsOf 53 = 32 := by kernel_rfl
theorem cells2 : Try.prog.cellsOf 2 = 1 := by kernel_rfl

theorem okWide_arr {P : Program} {w : World} {r : Reach} {base : Nat} {t e : TypeId} {n : Nat} {v : Value} (ht : P.underlying t = some (.array n e)) (h : Value.okWide P w r base t v) : ∃ cs, v = .agg cs ∧ cs.size = P.cellsOf t := by
  simp only [Value.okWide, ht] at h
  obtain ⟨cs, h1, h2, _⟩ := h
  exact ⟨cs, h1, h2⟩

theorem wf_i64 {z : Int} (h : (Lit.int .i64 z).wf = true) : -9223372036854775808 ≤ z ∧ z ≤ 9223372036854775807 := bounds_i64 h

set_option maxRecDepth 100000 in
theorem open_arr32 {H : Type} {enc : TypeId × Value → H} {W : World} {r : Reach} {b0 base : Nat} {spare : Nat → Bool} {held : Bool} {v : Value} {d : DataW H} {p : List MemPlace}
    (hv : Value.okWide Try.prog W r b0 53 v) (h : DataW.Trod enc Try.prog W base spare held 53 v d p) :
    ∃ zs : List Int, v = .agg (I64 zs) ∧ zs.length = 32 ∧ ∀ j, -9223372036854775808 ≤ zs.getD j 0 ∧ zs.getD j 0 ≤ 9223372036854775807 := by
  obtain ⟨cs, rfl, hsz⟩ := okWide_arr Try.underlying53 hv
  rw [cells53] at hsz
  obtain ⟨fuel, hf⟩ := h
  obtain ⟨xs, m, -, -, -, hxl, hx⟩ := DataW.trod_array Try.underlying53 hf
  have hall : ∀ i (hi : i < cs.size), ∃ z, cs[i] = .int .i64 z ∧ (Lit.int .i64 z).wf = true := by
    intro i hi
    have h1 := hx i (by omega)
    rw [List.getElem?_eq_getElem (by omega)] at h1
    obtain ⟨z, hz, -, hw⟩ := DataW.trod_int Try.underlying2 h1
    rw [cells2, Nat.mul_one] at hz
    simp only [Value.cells] at hz
    rw [List.drop_eq_getElem_cons (by simpa using hi)] at hz
    simp at hz
    exact ⟨z, hz, hw⟩
  refine ⟨cs.toList.map intOf, ?_, by simp [hsz], ?_⟩
  · congr 1
    apply Array.ext'
    simp only [I64]
    apply List.ext_getElem
    · simp
    · intro i h1 h2
      obtain ⟨z, hz, -⟩ := hall i (by simpa using h1)
      simp [hz, intOf]
  · intro j
    by_cases hj : j < cs.size
    · obtain ⟨z, hz, hw⟩ := hall j hj
      have : (cs.toList.map intOf).getD j 0 = z := by simp [List.getD, hj, hz, intOf]
      rw [this]
      exact wf_i64 hw
    · have : (cs.toList.map intOf).getD j 0 = 0 := by simp [List.getD, hj]
      rw [this]
      omega

theorem open_s64 {H : Type} {enc : TypeId × Value → H} {W : World} {base : Nat} {a : Option Addr} {len cap : Nat} {d : DataW H} {p : List MemPlace}
    (h : DataW.Trod enc Try.prog W base (fun _ => true) true 54 (.slice a len cap) d p) :
    ∃ ts : List Int, ts.length = len ∧ S64 W (.slice a len cap) ts ∧ (∀ j, -9223372036854775808 ≤ ts.getD j 0 ∧ ts.getD j 0 ≤ 9223372036854775807) ∧ len ≤ maxLen := by
  obtain ⟨fuel, hf⟩ := h
  rcases Go.ChangeShapes.open_ints Try.underlying54 Try.underlying2 (by kernel_rfl) hf with ⟨hcs, _⟩ | ⟨x, l, c, zs, hcs, _, hl, hm, hz, _, hcell, hwz⟩
  · simp [Value.cells] at hcs
    obtain ⟨rfl, rfl, rfl⟩ := hcs
    exact ⟨[], rfl, ⟨none, 0, rfl, Nat.le_refl _, Nat.zero_le _, fun h => absurd h (Nat.not_lt_zero _)⟩, fun j => by simp, Nat.zero_le _⟩
  · simp [Value.cells] at hcs
    obtain ⟨rfl, rfl, rfl⟩ := hcs
    have hz' : zs.length = cap := by simpa using hz
    have hle : (zs.take len).length = len := by rw [List.length_take]; omega
    refine ⟨zs.take len, hle, ⟨some x, cap, by rw [hle], by rw [hle]; exact hl, hm, fun hp => ?_⟩, fun j => ?_, Nat.le_trans hl hm⟩
    · rw [hle] at hp
      obtain ⟨b, off, rfl, hc⟩ := ints_at hcell (by omega)
      refine ⟨b, off, rfl, fun j hj => ?_⟩
      rw [hle] at hj
      rw [hc j (by omega)]
      simp [List.getD, hj]
    · by_cases hj : j < len
      · have hj' : j < zs.length := by omega
        have : (zs.take len).getD j 0 = zs[j] := by simp [List.getD, hj, hj']
        rw [this]
        exact wf_i64 (hwz _ (List.getElem_mem hj'))
      · have : (zs.take len).getD j 0 = 0 := by
          simp only [List.getD]
          rw [List.getElem?_eq_none (by rw [hle]; omega)]
          rfl
        rw [this]
        omega

end Go.Proofs.Qxb6615065a
