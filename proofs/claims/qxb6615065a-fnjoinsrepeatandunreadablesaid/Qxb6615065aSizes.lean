/-
  Seat b6615065a: the two guards on sizes, of which the law needs no more than that they answer.
-/
import Derived.Test.Qxb6615065aTurns
namespace Go.Proofs.Qxb6615065a
open Go.RowKit

/-- A truth value came back. -/
def Yes (e : Ending) : Prop := ∃ r, e = .returned (.bool r)

set_option maxHeartbeats 1000000 in
theorem zzBytes5 (name : ByteArray) (v : Value) (xs : List Item) (p q : Bool) (i : Int) (w : World) (h : Items w v xs) :
    Calls Try.prog 5 #[.string name, v, .bool p, .bool q, .int .i64 i] w fun e w' => Yes e ∧ w = w' := by
  obtain ⟨ao, c, rfl, hc1, hc2, hcell⟩ := h
  unfold maxLen at hc2
  go_enter Try.func5, Try.ntmps5
  go_wp2
  any_goals (go_ret; exact ⟨⟨_, rfl⟩, rfl⟩)
  go_loop [11, 12] (fun n j => ∃ (z : Int) (k : Nat), k ≤ xs.length ∧ n = .int .i64 z ∧ j = .int .i64 k) (fun _ j => xs.length - (intOf j).toNat)
  case atStart => exact ⟨_, 0, Nat.zero_le _, rfl, rfl⟩
  case round =>
    obtain ⟨z, k, hk, rfl, rfl⟩ := hrel
    by_cases hlt : k < xs.length
    · obtain ⟨g, o, rfl, hit⟩ := hcell (by omega)
      obtain ⟨c0, c1, -⟩ := hit k hlt
      generalize xs[k] = x at c0 c1
      have hlt' : (k : Int) < (xs.length : Int) := by omega
      clear hit hcell
      go_wp2
      any_goals (go_ret; exact ⟨⟨_, rfl⟩, rfl⟩)
      all_goals
        go_round
        case rel => exact ⟨_, k + 1, by omega, rfl, by go_num⟩
        case measure => simp [intOf]; omega
    · go_wp2
      go_ret
      exact ⟨⟨_, rfl⟩, rfl⟩

set_option maxHeartbeats 1000000 in
theorem tooBig_any (name : ByteArray) (v : Value) (xs : List Item) (w : World) (h : Items w v xs) (hl : xs.length ≤ 65536) :
    Calls Try.prog 6 #[.string name, v, .agg #[.string ⟨#[]⟩, .string ⟨#[]⟩, .bool false]] w fun e w' => Yes e ∧ Below w.heap.size w w' := by
  obtain ⟨ao, c, rfl, hc1, hc2, hcell⟩ := h
  unfold maxLen at hc2
  have hl' : ¬ (65536 : Int) < (xs.length : Int) := by omega
  have hb : Below w.heap.size w (w.alloc (.cells #[.string ⟨#[]⟩, .string ⟨#[]⟩, .bool false] 26)) := (Below.refl _ _).alloc (Nat.le_refl _) _
  have HB : Hid (Below w.heap.size w (w.alloc (.cells #[.string ⟨#[]⟩, .string ⟨#[]⟩, .bool false] 26))) := hb
  clear hb
  by_cases hn : (1048576 : Int) < (name.size : Int)
  · go_enter Try.func6, Try.ntmps6
    go_wp2
    all_goals
      go_ret
      exact ⟨⟨_, rfl⟩, HB.out⟩
  · go_enter Try.func6, Try.ntmps6
    go_wp2
    go_loop [7, 8] (fun n j => ∃ (z : Int) (k : Nat), k ≤ xs.length ∧ n = .int .i64 z ∧ j = .int .i64 k) (fun _ j => xs.length - (intOf j).toNat)
    case atStart => exact ⟨_, 0, Nat.zero_le _, rfl, rfl⟩
    case round =>
      obtain ⟨z, k, hk, rfl, rfl⟩ := hrel
      by_cases hlt : k < xs.length
      · obtain ⟨g, o, rfl, hit⟩ := hcell (by omega)
        obtain ⟨c0, c1, -⟩ := hit k hlt
        have hgw : g < w.heap.size := World.block_lt_of_cell? _ _ c0
        generalize xs[k] = x at c0 c1
        have d0 : ∀ O, (w.alloc O).cell? ⟨g, o + k * 3, none⟩ = some (.string x.1) := fun O => by rw [World.cell?_alloc_lt _ _ _ hgw]; exact c0
        have d1 : ∀ O, (w.alloc O).cell? ⟨g, o + k * 3 + 1, none⟩ = some (.string x.2.1) := fun O => by rw [World.cell?_alloc_lt _ _ _ hgw]; exact c1
        have hlt' : (k : Int) < (xs.length : Int) := by omega
        clear hit hcell
        go_wp2
        any_goals (go_ret; exact ⟨⟨_, rfl⟩, HB.out⟩)
        all_goals
          go_round
          case rel => exact ⟨_, k + 1, by omega, rfl, by go_num⟩
          case measure => simp [intOf]; omega
      · go_wp2
        go_ret
        exact ⟨⟨_, rfl⟩, HB.out⟩

set_option maxHeartbeats 1000000 in
theorem tooBig_big (name : ByteArray) (ao : Option Addr) (l c : Nat) (w : World) (hl : 65536 < l) (hc : l ≤ maxLen) :
    Calls Try.prog 6 #[.string name, .slice ao l c, .agg #[.string ⟨#[]⟩, .string ⟨#[]⟩, .bool false]] w fun e w' => e = .returned (.bool true) ∧ Below w.heap.size w w' := by
  unfold maxLen at hc
  have hl' : (65536 : Int) < (l : Int) := by omega
  go_enter Try.func6, Try.ntmps6
  go_wp2
  go_ret
  exact ⟨rfl, (Below.refl _ _).alloc (Nat.le_refl _) _⟩

end Go.Proofs.Qxb6615065a
