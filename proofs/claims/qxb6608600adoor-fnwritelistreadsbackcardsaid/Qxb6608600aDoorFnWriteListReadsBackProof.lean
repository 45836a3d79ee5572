/-
  The proof of 'Rows.FnWriteListReadsBackCardSaid': the row out of the walk; the tied card by the builder's one call, the tie as given.
-/
import Derived.Test.Qxb6608600aDoorBack
import Derived.Test.Qxb6608600aDoorOpen
import Derived.Test.Qxb6608600aDoorTie
import Derived.Test.Qxb6608600aDoorCards
import Derived.SevenTiedAt
namespace Go.Proofs.Qxb6608600aDoor
open Go Go.ChangeShapes Go.WideShapes Go.ChangeAt Go.RowKit
set_option linter.unusedVariables false

set_option maxRecDepth 100000 in
theorem lifted4 (walk : ∀ (p o c : ByteArray) (va : Value) (xa : List ByteArray) (w : World), Names w va xa → Calls Tryd.prog 4 #[.string p, .string o, va, .string c] w fun e w' => e = .returned (.bool true) ∧ Below w.heap.size w w')
    (os : Os) (started : os.Started) (H : Type) (enc : TypeId × Value → H) :
    ReturnsInHanded {} Tryd.checked os 4 .any (fun w args => (Rows.fnWriteListReadsBackSpec.pre enc Tryd.prog Tryd.f4 [] false w args ∧ laidMetH Tryd.prog laidL w) ∧ sizedMet enc Tryd.prog Tryd.f4 (OpenSpec.ofChange Rows.fnWriteListReadsBackSpec) false w args)
      (Rows.fnWriteListReadsBackSpec.post enc Tryd.prog Tryd.f4 false true false false) := by
  refine returnsInHanded_of_change_and (C := Tryd.checked) (X := fun w _ => laidMetH Tryd.prog laidL w) (fun _ _ _ hh h => h.of_heap hh) own started (by kernel_rfl) Tryd.func4
    (ChangeSpec.witness_shaped (enc := enc) (C := Tryd.checked) (os := os) (X := fun w _ => laidMetH Tryd.prog laidL w) false (World.laidAll Tryd.prog os laidL) #[.string ByteArray.empty, .string ByteArray.empty, .slice none 0 0, .string ByteArray.empty] 8 (World.laidAll_os _ _ _)
      (World.shaped_of_ZipB (by kernel_rfl) (by kernel_rfl)) (by kernel_rfl) (by kernel_rfl) (by kernel_rfl) (laid_met os _)) ?_
  intro W base args ds gs before hval0 hW _ _ hL _
  have hval : ∀ (j : Nat) t v, Tryd.f4.params[j]? = some t → args[j]? = some v → Value.okWide Tryd.prog W .any base t v := hval0
  have hW' := hW
  obtain ⟨p, q, hA0, hV0, rfl, hfz, hnd⟩ := hW
  have hA : DataW.TrodAll enc Tryd.prog W 0 (fun _ => true) true Tryd.f4.params.toList args.toList ds p := hA0
  have hV : DataW.TrodVars enc Tryd.prog W (fun _ => true) Rows.fnWriteListReadsBackSpec.vars gs q := hV0
  rw [Tryd.params4] at hA hval
  obtain ⟨v0, vs0, d0, ds0, p0, q0, hargs, rfl, rfl, h0, r0⟩ := trodAll_cons hA
  obtain ⟨v1, vs1, d1, ds1, p1, q1, rfl, rfl, rfl, h1, r1⟩ := trodAll_cons r0
  obtain ⟨v2, vs2, d2, ds2, p2, q2, rfl, rfl, rfl, h2, r2⟩ := trodAll_cons r1
  obtain ⟨v3, vs3, d3, ds3, p3, q3, rfl, rfl, rfl, h3, r3⟩ := trodAll_cons r2
  obtain ⟨rfl, rfl, rfl⟩ := trodAll_nil r3
  obtain rfl : args = #[v0, v1, v2, v3] := by cases args; simp_all
  obtain ⟨s0, rfl, rfl, rfl, w0⟩ := Go.ChangeMaps.open_string Tryd.underlying9 (hval 0 9 v0 rfl rfl) h0
  obtain ⟨s1, rfl, rfl, rfl, w1⟩ := Go.ChangeMaps.open_string Tryd.underlying9 (hval 1 9 v1 rfl rfl) h1
  obtain ⟨a2, len2, cap2, rfl⟩ := okWide_slice Tryd.underlying22 (hval 2 22 v2 rfl rfl)
  have lt2 : ∀ x ∈ p2, x.block < W.heap.size := by obtain ⟨m, hm⟩ := h2; exact DataW.trod_lt m _ _ _ hm
  obtain ⟨xa, hNa⟩ := open_names h2
  obtain ⟨s3, rfl, rfl, rfl, w3⟩ := Go.ChangeMaps.open_string Tryd.underlying9 (hval 3 9 v3 rfl rfl) h3
  obtain ⟨g1, rfl⟩ : ∃ g1, gs = [g1] := by
    match gs, hV with
    | [g1], _ => exact ⟨g1, rfl⟩
    | [], h => exact h.elim
    | _ :: _ :: _, ⟨_, _, _, _, _, _, _, _, _, _, h, _⟩ => exact h.elim
  clear hA0 hval0 hV0
  refine (walk s0 s1 s3 _ xa W hNa).mono fun e W' ⟨he, bel⟩ => ?_
  subst he
  exact ⟨_, rfl, _, _, _, [], _, _, hW', trodAll_mk1 (shut_bool Tryd.underlying4 _),
    (trodAll_cons_mk (Below.trod laidOut (by kernel_rfl) (of_decide_eq_true (by kernel_rfl)) h0 bel (fun x hx => by cases hx))
      (trodAll_cons_mk (Below.trod laidOut (by kernel_rfl) (of_decide_eq_true (by kernel_rfl)) h1 bel (fun x hx => by cases hx))
        (trodAll_cons_mk (Below.trod laidOut (by kernel_rfl) (of_decide_eq_true (by kernel_rfl)) h2 bel lt2)
          (trodAll_cons_mk (Below.trod laidOut (by kernel_rfl) (of_decide_eq_true (by kernel_rfl)) h3 bel (fun x hx => by cases hx)) trodAll_mk0)))),
    Below.trodVars laidOut bel (by kernel_rfl) hV, bel.frame _, fun h => by cases h⟩

theorem fnWriteListReadsBack_row : Rows.FnWriteListReadsBackSaid :=
  OpenClaim.holds_of_wide 4 Tryd.f4 rfl rfl rfl rfl rfl rfl rfl ⟨rfl, rfl, rfl, rfl, rfl⟩ rfl rfl rfl rfl rfl (by kernel_rfl) Tryd.func4 (by kernel_rfl)
    (of_decide_eq_true (by kernel_rfl)) (by unfold Func.isWrapper; first | (rw [if_pos (by decide +kernel)]; kernel_rfl) | (rw [if_neg (by decide +kernel)]; exact ⟨rfl, rfl⟩))
    (fun os started H enc _ => lifted4 (fun p o c va xa w => law_back p o c va xa w) os started H enc)

/-- The statement. -/
theorem fnWriteListReadsBack_card : Rows.FnWriteListReadsBackCardSaid :=
  Claim7.holds_tied_plain_at .later [] [.data, .data, .data, .wider] true Rows.fnWriteListReadsBackCard.stood.harness true
    fnWriteListReadsBack_row (fun _ h => by cases h) (by kernel_rfl) (fun _ h => by cases h) fnWriteListReadsBack_row_tie rfl ⟨rfl, rfl⟩ (by kernel_rfl) rfl
    (fun f fn hf hfn => by
      obtain rfl : f = 4 := Option.some.inj ((show Tryd.prog.funcNamed Rows.fnWriteListReadsBackRow.func = some 4 by kernel_rfl).symm.trans hf) |>.symm
      obtain rfl : fn = Tryd.f4 := (Option.some.inj (Tryd.func4.symm.trans hfn)).symm
      exact ⟨by kernel_rfl, fun j t ht => by
        rw [Tryd.params4] at ht
        have hm : t ∈ [9, 9, 22, 9] := by simpa using Array.mem_of_getElem? ht
        have hall : ([9, 9, 22, 9].all fun u => !Tryd.prog.wantsStandIn u) = true := by kernel_rfl
        exact (show Tryd.prog.wantsStandIn t = false by simpa using List.all_eq_true.1 hall t hm)⟩)
    (by kernel_rfl)
end Go.Proofs.Qxb6608600aDoor
