/-
  Seat b6608600aD: the guards on sizes: where they answer true every name is short.
-/
import Derived.Test.Qxb6608600aDoorZz
namespace Go.Proofs.Qxb6608600aDoor
open Go.RowKit

/-- A truth value came back; where it is true p holds. -/
def Tells (p : Prop) (e : Ending) : Prop := ∃ r, e = .returned (.bool r) ∧ (r = true → p)
theorem Tells.no (p : Prop) : Tells p (.returned (.bool false)) := ⟨false, rfl, fun h => by cases h⟩
theorem Tells.yes {p : Prop} (h : p) : Tells p (.returned (.bool true)) := ⟨true, rfl, fun _ => h⟩

/-- The first k of the names are short. -/
def Short (xs : List ByteArray) (k : Nat) : Prop := ∀ j (h : j < xs.length), j < k → xs[j].size ≤ 1048576
theorem short_step {xs : List ByteArray} {k : Nat} (h : Short xs k) (hk : k < xs.length) (hs : xs[k].size ≤ 1048576) : Short xs (k + 1) := fun j hj hjk => by
  by_cases e : j = k
  · subst e; exact hs
  · exact h j hj (by omega)
theorem short_all {xs : List ByteArray} (h : Short xs xs.length) : ∀ s ∈ xs, s.size ≤ 1048576 := fun s hs => by
  obtain ⟨j, hj, rfl⟩ := List.getElem_of_mem hs
  exact h j hj hj

set_option maxHeartbeats 4000000 in
theorem zzBytes7 (p o c : ByteArray) (v : Value) (xs : List ByteArray) (w : World) (h : Names w v xs) :
    Calls Tryd.prog 7 #[.string p, .string o, v, .string c] w fun e w' => Tells (Short xs xs.length) e ∧ w = w' := by
  obtain ⟨ao, cp, rfl, hc1, hc2, hcell⟩ := h
  have hc2' : cp ≤ 9223372036854775807 := hc2
  have HC := Lib.hid hcell
  clear hcell
  go_enter Tryd.func7, Tryd.ntmps7
  go_wp2
  any_goals (go_ret; exact ⟨Tells.no _, rfl⟩)
  go_loop [9, 10] (fun n j => ∃ (z : Int) (k : Nat), k ≤ xs.length ∧ n = .int .i64 z ∧ j = .int .i64 k ∧ Hid (Short xs k)) (fun _ j => xs.length - (intOf j).toNat)
  case atStart => exact ⟨_, 0, Nat.zero_le _, rfl, rfl, fun _ _ h => absurd h (Nat.not_lt_zero _)⟩
  case round =>
    obtain ⟨z, k, hk, rfl, rfl, HS⟩ := hrel
    by_cases hlt : k < xs.length
    · obtain ⟨g, off, rfl, hit⟩ := HC.out (by omega)
      have c0 := hit k hlt
      have hlt' : (k : Int) < (xs.length : Int) := by omega
      clear hit
      by_cases hs : (1048576 : Int) < (xs[k].size : Int)
      · go_wp2
        go_ret
        exact ⟨Tells.no _, rfl⟩
      · have HN := Lib.hid (short_step HS.out hlt (by omega))
        go_wp2
        any_goals (go_ret; exact ⟨Tells.no _, rfl⟩)
        all_goals
          go_round
          case rel => exact ⟨_, k + 1, by omega, rfl, by go_num, HN⟩
          case measure => simp [intOf]; omega
    · obtain rfl : k = xs.length := by omega
      go_wp2
      all_goals
        go_ret
        first | exact ⟨Tells.no _, rfl⟩ | exact ⟨Tells.yes HS.out, rfl⟩

set_option maxHeartbeats 4000000 in
theorem zzBytes5 (p o c : ByteArray) (va vb : Value) (xa xb : List ByteArray) (w : World) (h : Names w va xa) (h2 : Names w vb xb) :
    Calls Tryd.prog 5 #[.string p, .string o, va, vb, .string c] w fun e w' => Tells (Short xa xa.length ∧ Short xb xb.length) e ∧ w = w' := by
  obtain ⟨ao, cp, rfl, hc1, hc2, hcell⟩ := h
  obtain ⟨bo, bp, rfl, hd1, hd2, hdell⟩ := h2
  have hc2' : cp ≤ 9223372036854775807 := hc2
  have hd2' : bp ≤ 9223372036854775807 := hd2
  have HC := Lib.hid hcell
  have HD := Lib.hid hdell
  clear hcell hdell
  go_enter Tryd.func5, Tryd.ntmps5
  go_wp2
  any_goals (go_ret; exact ⟨Tells.no _, rfl⟩)
  go_loop [11, 12] (fun n j => ∃ (z : Int) (k : Nat), k ≤ xa.length ∧ n = .int .i64 z ∧ j = .int .i64 k ∧ Hid (Short xa k)) (fun _ j => xa.length - (intOf j).toNat)
  case atStart => exact ⟨_, 0, Nat.zero_le _, rfl, rfl, fun _ _ h => absurd h (Nat.not_lt_zero _)⟩
  case round =>
    obtain ⟨z, k, hk, rfl, rfl, HS⟩ := hrel
    by_cases hlt : k < xa.length
    · obtain ⟨g, off, rfl, hit⟩ := HC.out (by omega)
      have c0 := hit k hlt
      have hlt' : (k : Int) < (xa.length : Int) := by omega
      clear hit
      by_cases hs : (1048576 : Int) < (xa[k].size : Int)
      · go_wp2
        go_ret
        exact ⟨Tells.no _, rfl⟩
      · have HN := Lib.hid (short_step HS.out hlt (by omega))
        go_wp2
        any_goals (go_ret; exact ⟨Tells.no _, rfl⟩)
        all_goals
          go_round
          case rel => exact ⟨_, k + 1, by omega, rfl, by go_num, HN⟩
          case measure => simp [intOf]; omega
    · obtain rfl : k = xa.length := by omega
      go_wp2
      any_goals (go_ret; exact ⟨Tells.no _, rfl⟩)
      go_loop [11, 13] (fun n j => ∃ (z : Int) (k : Nat), k ≤ xb.length ∧ n = .int .i64 z ∧ j = .int .i64 k ∧ Hid (Short xb k)) (fun _ j => xb.length - (intOf j).toNat)
      case atStart => exact ⟨_, 0, Nat.zero_le _, rfl, rfl, fun _ _ h => absurd h (Nat.not_lt_zero _)⟩
      case round =>
        obtain ⟨z, k, hk, rfl, rfl, HS2⟩ := hrel
        by_cases hlt : k < xb.length
        · obtain ⟨g, off, rfl, hit⟩ := HD.out (by omega)
          have c0 := hit k hlt
          have hlt' : (k : Int) < (xb.length : Int) := by omega
          clear hit
          by_cases hs : (1048576 : Int) < (xb[k].size : Int)
          · go_wp2
            go_ret
            exact ⟨Tells.no _, rfl⟩
          · have HN := Lib.hid (short_step HS2.out hlt (by omega))
            go_wp2
            any_goals (go_ret; exact ⟨Tells.no _, rfl⟩)
            all_goals
              go_round
              case rel => exact ⟨_, k + 1, by omega, rfl, by go_num, HN⟩
              case measure => simp [intOf]; omega
        · obtain rfl : k = xb.length := by omega
          go_wp2
          all_goals
            go_ret
            first | exact ⟨Tells.no _, rfl⟩ | exact ⟨Tells.yes ⟨HS.out, HS2.out⟩, rfl⟩

end Go.Proofs.Qxb6608600aDoor
