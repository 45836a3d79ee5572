/-
  Seat b6608600aD: the law FnWriteListReadsBack answers true.
-/
import Derived.Test.Qxb6608600aDoorBackE
import Derived.Deep.CutBlock
namespace Go.Proofs.Qxb6608600aDoor
open Go.RowKit
set_option linter.unusedVariables false

set_option maxRecDepth 100000 in
set_option maxHeartbeats 40000000 in
theorem law_back (p o c : ByteArray) (va : Value) (xa : List ByteArray) (w : World) (ha : Names w va xa) :
    Calls Tryd.prog 4 #[.string p, .string o, va, .string c] w fun e w' => e = .returned (.bool true) ∧ Below w.heap.size w w' := by
  have HNa := Lib.hid ha
  obtain ⟨ao, ca, rfl, ha1, ha2, ha3⟩ := ha
  have ha2' : ca ≤ 9223372036854775807 := ha2
  clear ha3
  go_enter Tryd.func4, Tryd.ntmps4
  go_wp2_with fail
  refine (zzBytes7 p o c _ xa w HNa.out).mono ?_
  rintro e w1 ⟨⟨r, rfl, hr⟩, rfl⟩
  cases r
  · go_wp2
    go_ret
    exact ⟨rfl, Below.refl _ _⟩
  have HR := Lib.hid (hr rfl)
  clear hr
  by_cases g1 : (1048576 : Int) < (p.size : Int)
  · go_wp2
    all_goals (go_ret; exact ⟨rfl, Below.refl _ _⟩)
  by_cases g2 : (1048576 : Int) < (o.size : Int)
  · go_wp2
    all_goals (go_ret; exact ⟨rfl, Below.refl _ _⟩)
  by_cases g3 : (1048576 : Int) < (c.size : Int)
  · go_wp2
    all_goals (go_ret; exact ⟨rfl, Below.refl _ _⟩)
  by_cases g4 : (65536 : Int) < (xa.length : Int)
  · go_wp2
    all_goals (go_ret; exact ⟨rfl, Below.refl _ _⟩)
  have hnea : ∀ w, (binOp BinOp.neq 22 (.slice ao xa.length ca) (.slice none 0 0)).run Tryd.prog w = .ok (.bool ao.isSome) w := fun w => by cases ao <;> rfl
  go_upto_if 47 with fail
  go_cut [2] (fun s2 wx => Hid (Names wx s2 xa) ∧ Hid (Below w.heap.size w wx))
  case first =>
    clear hnea
    cases ao with
    | none =>
      go_wp2
      go_meet
      case rel => exact ⟨HNa, Below.refl _ _⟩
    | some ad =>
      have hmk := run_make_row' (P := Tryd.prog) 22 9 (.string ⟨#[]⟩) 16 Tryd.underlying22 info9 rfl .i64 .i64 xa.length (by omega) (by omega)
      obtain ⟨W2, hcp, HN2, HB2⟩ := copy_names HNa.out
      go_wp2
      go_meet
      case rel => exact ⟨HN2, HB2⟩
  case rest =>
    clear hnea HNa
    obtain ⟨HA2, HB2⟩ := hcut
    obtain ⟨ao2, ca2, rfl, hx1, hx2, -⟩ := id HA2.out
    have hx2' : ca2 ≤ 9223372036854775807 := hx2
    go_wp2
    any_goals (go_ret; exact ⟨rfl, HB2.out⟩)
    go_loop [10, 11] (fun n j => ∃ (z : Int) (k : Nat), k ≤ xa.length ∧ n = .int .i64 z ∧ j = .int .i64 k) (fun _ j => xa.length - (intOf j).toNat)
    case atStart => exact ⟨_, 0, Nat.zero_le _, rfl, rfl⟩
    case round =>
      obtain ⟨z, k, hk, rfl, rfl⟩ := hrel
      by_cases hlt : k < xa.length
      · obtain ⟨g, off, c', hv, c0⟩ := HA2.out.cell (Below.refl _ _) k hlt
        cases hv
        have hlt' : (k : Int) < (xa.length : Int) := by omega
        go_wp2
        any_goals (go_ret; exact ⟨rfl, HB2.out⟩)
        all_goals
          go_round
          case rel => exact ⟨_, k + 1, by omega, rfl, by go_num⟩
          case measure => simp [intOf]; omega
      · obtain rfl : k = xa.length := by omega
        go_upto_block 2 with fail
        go_cut [12] (fun _ wx => Hid (Clean xa xa.length) ∧ wc = wx)
        case rest =>
          obtain ⟨HCl, rfl⟩ := hcut
          exact (by assumption : ∀ (a : Act) (w : World), Code.wp Tryd.prog _ _ a w → _) _ _
            (back_end (p := p) (o := o) (c := c) (xs := xa) (w := w) (wc := _) (ao2 := ao2) (ca2 := ca2) (HR := HR) (g1 := by omega) (g2 := by omega) (g3 := by omega) (g4 := by omega) (HA2 := HA2) (HB2 := HB2) (HCl := HCl) (hcd := rfl))
        case first =>
          go_wp2
          go_loop [12] (fun j => ∃ k : Nat, k ≤ xa.length ∧ j = .int .i64 k ∧ Hid (Clean xa k)) (fun j => xa.length - (intOf j).toNat)
          case atStart => exact ⟨0, Nat.zero_le _, rfl, fun _ _ h => absurd h (Nat.not_lt_zero _)⟩
          case round =>
            obtain ⟨k, hk2, rfl, HCl⟩ := hrel
            by_cases hlt : k < xa.length
            · obtain ⟨g, off, c', hv, c0⟩ := HA2.out.cell (Below.refl _ _) k hlt
              cases hv
              have hlt' : (k : Int) < (xa.length : Int) := by omega
              obtain ⟨s, HS⟩ : ∃ s, Hid (xa[k] = s) := ⟨xa[k], show xa[k] = xa[k] from rfl⟩
              rw [HS.out] at c0
              have hsz : s.size ≤ 1048576 := by rw [← HS.out]; exact HR.out k hlt hlt
              go_wp2
              go_loop [14] (fun j => ∃ m : Nat, m ≤ s.size ∧ j = .int .i64 m ∧ Hid (NoComma s m)) (fun j => s.size - (intOf j).toNat)
              case atStart => exact ⟨0, Nat.zero_le _, rfl, fun _ _ h => absurd h (Nat.not_lt_zero _)⟩
              case round =>
                obtain ⟨m, hm, rfl, HM⟩ := hrel
                by_cases hlm : m < s.size
                · have hlm' : (m : Int) < (s.size : Int) := by omega
                  by_cases hq : ((s[m].toNat : Int) == 44) = true
                  · go_wp2
                    go_ret
                    exact ⟨rfl, HB2.out⟩
                  · have hq' : ((s[m].toNat : Int) == 44) = false := by simpa using hq
                    have HM' := Lib.hid (noComma_step HM.out hlm hq')
                    go_wp2
                    go_round
                    case rel => exact ⟨m + 1, by omega, by go_num, HM'⟩
                    case measure => simp [intOf]; omega
                · obtain rfl : m = s.size := by omega
                  have HCl' := Lib.hid (clean_step HCl.out hlt (by rw [HS.out]; exact HM.out))
                  go_wp2
                  go_round
                  case rel => exact ⟨k + 1, by omega, by go_num, HCl'⟩
                  case measure => simp [intOf]; omega
            · obtain rfl : k = xa.length := by omega
              go_wp2
              go_meet
              case rel => exact ⟨HCl, rfl⟩
end Go.Proofs.Qxb6608600aDoor
