/-
  Seat b6615065a: the law FnJoinsRepeatAndUnreadable answers true.
-/
import Derived.Test.Qxb6615065aBuild
import Derived.Test.Qxb6615065aJoins
import Derived.Test.Qxb6615065aPart
import Derived.Test.Qxb6615065aSizes
namespace Go.Proofs.Qxb6615065a
open Go.RowKit

theorem Items.stay {w w' : World} {v : Value} {xs : List Item} (h : Items w v xs) (hb : Below w.heap.size w w') : Items w' v xs := by
  obtain ⟨ao, c, rfl, hc1, hc2, hcell⟩ := h
  refine ⟨ao, c, rfl, hc1, hc2, fun hp => ?_⟩
  obtain ⟨g, o, rfl, hit⟩ := hcell hp
  have hgw : g < w.heap.size := World.block_lt_of_cell? _ _ (hit 0 hp).1
  have hbc : ∀ j x, w.cell? ⟨g, j, none⟩ = some x → w'.cell? ⟨g, j, none⟩ = some x := fun j x hx => by rw [hb.cell (p := ⟨g, j, none⟩) hgw]; exact hx
  exact ⟨g, o, rfl, fun j hj => ⟨hbc _ _ (hit j hj).1, hbc _ _ (hit j hj).2.1, hbc _ _ (hit j hj).2.2⟩⟩

theorem Items.at {w : World} {v : Value} {xs : List Item} (h : Items w v xs) (k : Nat) (hk : k < xs.length) :
    ∃ g o c, v = .slice (some ⟨g, o, none⟩) xs.length c ∧ c ≤ maxLen ∧ g < w.heap.size ∧ w.cell? ⟨g, o + k * 3, none⟩ = some (.string xs[k].1) ∧ w.cell? ⟨g, o + k * 3 + 1, none⟩ = some (.string xs[k].2.1) ∧ w.cell? ⟨g, o + k * 3 + 2, none⟩ = some (.bool xs[k].2.2) := by
  obtain ⟨ao, c, rfl, hc1, hc2, hcell⟩ := h
  obtain ⟨g, o, rfl, hit⟩ := hcell (by omega)
  exact ⟨g, o, c, rfl, hc2, World.block_lt_of_cell? _ _ (hit k hk).1, hit k hk⟩

set_option maxHeartbeats 2000000 in
theorem law_any (name : ByteArray) (v : Value) (xs : List Item) (has ran : Bool) (i : Int) (w : World) (h : Items w v xs) :
    Calls Try.prog 3 #[.string name, v, .bool has, .bool ran, .int .i64 i] w fun e w' => e = .returned (.bool true) ∧ Below w.heap.size w w' := by
  have hI : Hid (Items w v xs) := h
  obtain ⟨ao, c, rfl, hc1, hc2, hcell⟩ := h
  clear hcell
  unfold maxLen at hc2
  go_enter Try.func3, Try.ntmps3
  go_wp2_with fail
  refine (zzBytes5 name _ xs has ran i w hI.out).mono ?_
  rintro e w1 ⟨⟨r, rfl⟩, rfl⟩
  cases r
  · go_wp2
    go_ret
    exact ⟨rfl, Below.refl _ _⟩
  go_wp2_with fail
  by_cases hl : 65536 < xs.length
  · refine (tooBig_big name ao _ c w hl (by unfold maxLen; omega)).mono ?_
    rintro e w1 ⟨rfl, hb⟩
    have HB := Lib.hid hb
    clear hb
    go_wp2
    go_ret
    exact ⟨rfl, HB.out⟩
  refine (tooBig_any name _ xs w hI.out (by omega)).mono ?_
  rintro e w1 ⟨⟨r, rfl⟩, hb1⟩
  have HB1 := Lib.hid hb1
  cases r
  rotate_left
  · clear hb1
    go_wp2
    go_ret
    exact ⟨rfl, HB1.out⟩
  have HI1 := Lib.hid (hI.out.stay hb1)
  clear hb1
  by_cases h0 : xs.length = 0
  · have h0' : ((xs.length : Int) == 0) = true := by rw [h0]; rfl
    go_wp2
    all_goals
      go_ret
      exact ⟨rfl, HB1.out⟩
  have h0' : ((xs.length : Int) == 0) = false := beq_eq_false_iff_ne.2 (by omega)
  by_cases hi0 : i < 0
  · go_wp2
    all_goals
      go_ret
      exact ⟨rfl, HB1.out⟩
  by_cases hi1 : (xs.length : Int) ≤ i
  · go_wp2
    all_goals
      go_ret
      exact ⟨rfl, HB1.out⟩
  obtain ⟨k, rfl⟩ : ∃ k : Nat, i = (k : Int) := ⟨i.toNat, by omega⟩
  have hk : k < xs.length := by omega
  clear hi0
  go_wp2_with fail
  refine (build_any HI1.out (by omega) (by omega) has ran).mono ?_
  rintro e w2 ⟨R, rfl, hRs, hT2, hb2⟩
  have HT2 := Lib.hid hT2
  have HB2 := Lib.hid hb2
  clear hT2 hb2 hRs
  go_wp2_with fail
  refine (newPart_any name w2).mono ?_
  rintro e w3 ⟨p, rfl, hb3⟩
  have HB3 := Lib.hid hb3
  clear hb3
  have hb13 : Below w1.heap.size w1 w3 := HB2.out.trans (HB3.out.mono HB2.out.size)
  have HB13 := Lib.hid hb13
  obtain ⟨g, o, c', hv, hc', hgw, c0, c1, c2⟩ := (HI1.out.stay hb13).at k hk
  clear hb13
  cases hv
  obtain ⟨x, HX⟩ : ∃ x, Hid (xs[k] = x) := ⟨xs[k], show xs[k] = xs[k] from rfl⟩
  rw [HX.out] at c0 c1 c2
  obtain ⟨src, id, un⟩ := x
  dsimp only at c0 c1 c2
  have hki : (k : Int) < (xs.length : Int) := by omega
  go_wp2_with fail
  have HT3 := Lib.hid (HT2.out.stay HB3.out)
  refine (newDelivery_unread src id w3).mono ?_
  rintro e w4 ⟨q, rfl, hb4⟩
  have HB4 := Lib.hid hb4
  have HT4 := Lib.hid (HT3.out.stay hb4)
  clear hb4 c0 c1
  go_wp2_with fail
  refine (zz_unread (.pointer p) R xs has ran src id q w4 HT4.out (by omega) (by omega)).mono ?_
  rintro e w5 ⟨u, rfl, hu, hb5⟩
  have HB5 := Lib.hid hb5
  have HT5 := Lib.hid (HT4.out.stay hb5)
  clear hb5
  go_wp2_with fail
  refine (newDelivery_read src id w5).mono ?_
  rintro e w6 ⟨rfl, hb6⟩
  have HB6 := Lib.hid hb6
  have HT6 := Lib.hid (HT5.out.stay hb6)
  clear hb6
  go_wp2_with fail
  refine (zz_read (.pointer p) R xs has ran src id w6 HT6.out (by omega) (by omega)).mono ?_
  rintro e w7 ⟨r, rfl, ⟨hm, hh⟩, hb7⟩
  have hb37 : Below w3.heap.size w3 w7 := by
    have a := HB4.out
    have b := HB5.out.mono a.size
    have a2 := a.trans b
    have b2 := HB6.out.mono a2.size
    have a3 := a2.trans b2
    exact a3.trans (hb7.mono a3.size)
  have hfin : Below w.heap.size w w7 := by
    have a := HB1.out.trans (HB13.out.mono HB1.out.size)
    exact a.trans (hb37.mono a.size)
  have HF := Lib.hid hfin
  have d2 : w7.cell? ⟨g, o + k * 3 + 2, none⟩ = some (.bool un) := by rw [hb37.cell hgw]; exact c2
  have hun : un = false → r = false := fun e => hm k ⟨hk, by rw [HX.out]; exact e, by rw [HX.out], by rw [HX.out]⟩
  clear hb37 hfin hb7 c2 hm HB1 HB2 HB3 HB4 HB5 HB6 HT2 HT3 HT4 HT5 HT6 HI1 hI HX HB13
  cases has <;> cases ran <;> cases un <;> cases r <;> first | exact absurd (hun rfl) (by decide) | exact absurd (hh rfl) (by decide) | (obtain rfl : u = true := hu) | (obtain rfl : u = false := hu)
  all_goals
    go_wp2
    go_ret
    exact ⟨rfl, HF.out⟩

end Go.Proofs.Qxb6615065a
