/-
  The proof of 'Rows.FnLastArrivalReportsEachRecordedSaid': the frame after the kit's shells, typed for an array by value, an int and a slice of int64; the walk out of the texts that it imports.
-/
import Derived.Test.Qxb6615065aRows
import Derived.WalkKit
import Derived.ProofKit
import Derived.OpenShut
import Derived.ShutString
import Derived.ChangeOld
import Derived.Below
import Derived.Test.Qxb6615065aOpen
namespace Go.Proofs.Qxb6615065a.fnLastArrivalReportsEachRecorded
open Go.ChangeShapes Go.WideShapes Go.ChangeAt Go.RowKit
set_option linter.unusedVariables false

theorem own : ownKnob Try.prog.godebug = none := by kernel_rfl
theorem laidOut : laidOutB Try.prog = true := by kernel_rfl

theorem walk (zs : List Int) (n : Int) (a : Option Addr) (len cap : Nat) (ts : List Int) (w : World) (hz : zs.length = 32) (hin : ∀ j, -9223372036854775808 ≤ zs.getD j 0 ∧ zs.getD j 0 ≤ 9223372036854775807)
    (hl : ts.length = len) (hs : S64 w (.slice a len cap) ts) (hti : ∀ j, -9223372036854775808 ≤ ts.getD j 0 ∧ ts.getD j 0 ≤ 9223372036854775807) (hm : len ≤ maxLen) :
    Calls Try.prog 4 #[.agg (I64 zs), .int .i64 n, .slice a len cap] w fun e w' => e = .returned (.bool true) ∧ Below w.heap.size w w' := by
  by_cases hbig : 4096 < len ∨ n < 0 ∨ 32 ≤ n
  · exact law_big zs hz n a len cap hm hbig
  · have hn : n = ((n.toNat : Nat) : Int) := by omega
    have h := law_small (w := w) zs hz hin n.toNat (by omega) (.slice a len cap) ts hs (by omega) hti
    rw [← hn] at h
    exact h

set_option maxRecDepth 100000 in
theorem lifted (os : Os) (started : os.Started) (H : Type) (enc : TypeId × Value → H) :
    ReturnsInHanded {} Try.checked os 4 .any (Rows.fnLastArrivalReportsEachRecordedSpec.pre6 enc Try.prog Try.f4 Rows.fnLastArrivalReportsEachRecordedRow.domain false) (Rows.fnLastArrivalReportsEachRecordedSpec.post enc Try.prog Try.f4 false true false false) := by
  refine returnsInHanded_of_change (C := Try.checked) own started (by kernel_rfl) Try.func4
    (ChangeSpec.witness6 (enc := enc) (C := Try.checked) false ⟨#[], #[.agg (I64 (List.replicate 32 0)), .int .i64 0, .slice none 0 0], []⟩ 8 (by kernel_rfl) (by kernel_rfl) (by kernel_rfl) (by kernel_rfl)) ?_
  intro W base args ds gs before hval0 hW hcnd _
  have hval : ∀ (j : Nat) t v, Try.f4.params[j]? = some t → args[j]? = some v → Value.okWide Try.prog W .any base t v := hval0
  have hW' := hW
  obtain ⟨p, q, hA0, hV, rfl, hfz, hnd⟩ := hW
  have hA : DataW.TrodAll enc Try.prog W 0 (fun _ => true) true Try.f4.params.toList args.toList ds p := hA0
  rw [Try.params4] at hA hval
  obtain ⟨v0, vs0, d0, ds0, p0, q0, hargs, rfl, rfl, h0, r0⟩ := trodAll_cons hA
  obtain ⟨v1, vs1, d1, ds1, p1, q1, rfl, rfl, rfl, h1, r1⟩ := trodAll_cons r0
  obtain ⟨v2, vs2, d2, ds2, p2, q2, rfl, rfl, rfl, h2, r2⟩ := trodAll_cons r1
  obtain ⟨rfl, rfl, rfl⟩ := trodAll_nil r2
  obtain rfl : args = #[v0, v1, v2] := by cases args; simp_all
  obtain ⟨rfl, rfl⟩ := trodVars_none hV
  have k0 := h0
  have lt0 : ∀ x ∈ p0, x.block < W.heap.size := by obtain ⟨m, hm⟩ := k0; exact DataW.trod_lt m _ _ _ hm
  obtain ⟨zs, rfl, hz, hin⟩ := open_arr32 (hval 0 53 v0 rfl rfl) h0
  obtain ⟨n, rfl, rfl, rfl, w1⟩ := open_int Try.underlying3 (hval 1 3 v1 rfl rfl) h1
  obtain ⟨a2, len2, cap2, rfl⟩ := okWide_slice Try.underlying54 (hval 2 54 v2 rfl rfl)
  have k2 := h2
  have lt2 : ∀ x ∈ p2, x.block < W.heap.size := by obtain ⟨m, hm⟩ := k2; exact DataW.trod_lt m _ _ _ hm
  obtain ⟨ts, hl, hs, hti, hm⟩ := open_s64 h2
  clear hA0 hval0
  refine (walk zs n a2 len2 cap2 ts W hz hin hl hs hti hm).mono fun e W' ⟨he, bel⟩ => ?_
  subst he
  exact ⟨_, rfl, _, _, _, [], _, [], hW', trodAll_mk1 (shut_bool Try.underlying4 _), (trodAll_cons_mk (Below.trod laidOut (by kernel_rfl) (of_decide_eq_true (by kernel_rfl)) k0 bel lt0) (trodAll_cons_mk (shut_int Try.underlying3 w1) (trodAll_cons_mk (Below.trod laidOut (by kernel_rfl) (of_decide_eq_true (by kernel_rfl)) k2 bel lt2) trodAll_mk0))), rfl, bel.frame _, fun h => by cases h⟩

theorem over : Rows.fnLastArrivalReportsEachRecordedRow.holds Try.pinned (OpenSpec.ofChange Rows.fnLastArrivalReportsEachRecordedSpec) :=
  OpenClaim.holds_of_wide 4 Try.f4 rfl rfl rfl rfl rfl rfl rfl ⟨rfl, rfl, rfl, rfl, rfl⟩ rfl rfl rfl rfl rfl (by kernel_rfl) Try.func4 (by kernel_rfl)
    (of_decide_eq_true (by kernel_rfl)) (by unfold Func.isWrapper; first | (rw [if_pos (by decide +kernel)]; kernel_rfl) | (rw [if_neg (by decide +kernel)]; exact ⟨rfl, rfl⟩))
    (fun os started H enc _ => lifted os started H enc)

/-- The statement. -/
theorem proved : Rows.FnLastArrivalReportsEachRecordedSaid := over
end Go.Proofs.Qxb6615065a.fnLastArrivalReportsEachRecorded

namespace Go.Proofs.Qxb6615065a
theorem fnLastArrivalReportsEachRecorded_proved : Rows.FnLastArrivalReportsEachRecordedSaid := fnLastArrivalReportsEachRecorded.proved
end Go.Proofs.Qxb6615065a
