/-
  Seat b6608600aD: the law FnWriteListCutAnywhere answers true.
-/
import Derived.Test.Qxb6608600aDoorCutB
namespace Go.Proofs.Qxb6608600aDoor
open Go.RowKit

set_option maxRecDepth 100000 in
set_option maxHeartbeats 40000000 in
theorem law_cut (p o c : ByteArray) (va vb : Value) (xa xb : List ByteArray) (w : World) (ha : Names w va xa) (hb : Names w vb xb) :
    Calls Tryd.prog 3 #[.string p, .string o, va, vb, .string c] w fun e w' => e = .returned (.bool true) ∧ Below w.heap.size w w' := by
  have HNa := Lib.hid ha
  have HNb := Lib.hid hb
  obtain ⟨ao, ca, rfl, ha1, ha2, ha3⟩ := ha
  obtain ⟨bo, cb, rfl, hb1, hb2, hb3⟩ := hb
  have ha2' : ca ≤ 9223372036854775807 := ha2
  have hb2' : cb ≤ 9223372036854775807 := hb2
  clear ha3 hb3
  go_enter Tryd.func3, Tryd.ntmps3
  go_wp2_with fail
  refine (zzBytes5 p o c _ _ xa xb w HNa.out HNb.out).mono ?_
  rintro e w1 ⟨⟨r, rfl, hr⟩, rfl⟩
  cases r
  · go_wp2
    go_ret
    exact ⟨rfl, Below.refl _ _⟩
  have HR := Lib.hid (hr rfl)
  clear hr
  by_cases g1 : (1048576 : Int) < (p.size : Int)
  · go_wp2
    all_goals (go_ret; exact ⟨rfl, Below.refl _ _⟩)
  by_cases g2 : (1048576 : Int) < (o.size : Int)
  · go_wp2
    all_goals (go_ret; exact ⟨rfl, Below.refl _ _⟩)
  by_cases g3 : (1048576 : Int) < (c.size : Int)
  · go_wp2
    all_goals (go_ret; exact ⟨rfl, Below.refl _ _⟩)
  by_cases g4 : (65536 : Int) < (xa.length : Int)
  · go_wp2
    all_goals (go_ret; exact ⟨rfl, Below.refl _ _⟩)
  by_cases g5 : (65536 : Int) < (xb.length : Int)
  · go_wp2
    all_goals (go_ret; exact ⟨rfl, Below.refl _ _⟩)
  have hnea : ∀ w, (binOp BinOp.neq 22 (.slice ao xa.length ca) (.slice none 0 0)).run Tryd.prog w = .ok (.bool ao.isSome) w := fun w => by cases ao <;> rfl
  have hneb : ∀ w, (binOp BinOp.neq 22 (.slice bo xb.length cb) (.slice none 0 0)).run Tryd.prog w = .ok (.bool bo.isSome) w := fun w => by cases bo <;> rfl
  go_upto_if 56 with fail
  go_cut [2] (fun s2 wx => Hid (Names wx s2 xa) ∧ Hid (Below w.heap.size w wx))
  case first =>
    clear hneb hnea
    cases ao with
    | none =>
      go_wp2
      go_meet
      case rel => exact ⟨HNa, Below.refl _ _⟩
    | some ad =>
      have hmk := run_make_row' (P := Tryd.prog) 22 9 (.string ⟨#[]⟩) 16 Tryd.underlying22 info9 rfl .i64 .i64 xa.length (by omega) (by omega)
      obtain ⟨W2, hcp, HN2, HB2⟩ := copy_names HNa.out
      go_wp2
      go_meet
      case rel => exact ⟨HN2, HB2⟩
  case rest =>
    clear hnea
    obtain ⟨HA1, HB1⟩ := hcut
    have HNb1 := Lib.hid (HNb.out.stay HB1.out)
    clear HNa HNb
    go_upto_if 65 with fail
    go_cut [3] (fun s3 wx => Hid (Names wx u2 xa) ∧ Hid (Names wx s3 xb) ∧ Hid (Below w.heap.size w wx))
    case first =>
      clear hneb
      cases bo with
      | none =>
        go_wp2
        go_meet
        case rel => exact ⟨HA1, HNb1, HB1⟩
      | some ad =>
        have hmk := run_make_row' (P := Tryd.prog) 22 9 (.string ⟨#[]⟩) 16 Tryd.underlying22 info9 rfl .i64 .i64 xb.length (by omega) (by omega)
        obtain ⟨W2, hcp, HN2, HB2⟩ := copy_names HNb1.out
        have HA2 := Lib.hid (HA1.out.stay HB2.out)
        have HB3 : Hid (Below w.heap.size w W2) := HB1.out.trans (HB2.out.mono HB1.out.size)
        go_wp2
        go_meet
        case rel => exact ⟨HA2, HN2, HB3⟩
    case rest =>
      clear hneb HA1 HB1 HNb1
      obtain ⟨HA2, HN2, HB2⟩ := hcut
      obtain ⟨ao2, ca2, rfl, hx1, hx2, -⟩ := id HA2.out
      obtain ⟨bo2, cb2, rfl, hy1, hy2, -⟩ := id HN2.out
      exact (by assumption : ∀ (a : Act) (w : World), Code.wp Tryd.prog _ _ a w → _) _ _
        (cut_mid (p := p) (o := o) (c := c) (xa := xa) (xb := xb) (w := w) (wc := _) (ao2 := ao2) (bo2 := bo2) (ca2 := ca2) (cb2 := cb2) (HR := HR) (g1 := by omega) (g2 := by omega) (g3 := by omega) (g4 := by omega) (g5 := by omega) (HA2 := HA2) (HN2 := HN2) (HB2 := HB2) (hx1 := hx1) (hx2 := hx2) (hy1 := hy1) (hy2 := hy2) (hcd := rfl))
end Go.Proofs.Qxb6608600aDoor
