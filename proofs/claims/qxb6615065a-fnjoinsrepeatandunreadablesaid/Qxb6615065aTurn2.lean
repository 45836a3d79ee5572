/-
  Seat b6615065a: ZZnewTurn.
-/
import Derived.Test.Qxb6615065aTurn
namespace Go.Proofs.Qxb6615065a
open Go.RowKit
attribute [local go_sem ↓] Go.wp_at_zero Go.wp_at_succ

/-- A turn in block T. -/
def TurnAt (w : World) (T : Nat) (src id : ByteArray) (un has ran : Bool) : Prop :=
  w.cell? ⟨T, 2, none⟩ = some (.string id) ∧ w.cell? ⟨T, 3, none⟩ = some (.string src) ∧ w.cell? ⟨T, 14, none⟩ = some .nilFunc ∧ w.cell? ⟨T, 15, none⟩ = some (.bool false) ∧
  (un = false → w.cell? ⟨T, 17, none⟩ = some .nilIface) ∧ (un = true → ∃ p, w.cell? ⟨T, 17, none⟩ = some (.iface 105 p)) ∧
  (has = false → w.cell? ⟨T, 16, none⟩ = some (.pointer none)) ∧
  (has = true → ∃ S, w.cell? ⟨T, 16, none⟩ = some (.pointer (some ⟨S, 0, none⟩)) ∧ w.cell? ⟨S, 0, none⟩ = some (.int .u32 (if ran then 1 else 0)))

/-- A turn's cells. -/
def tcells (src id : ByteArray) (st U : Value) : Array Value :=
  #[.string ⟨#[]⟩, .slice none 0 0, .string id, .string src, .string ⟨#[]⟩, .string ⟨#[]⟩, .int .u64 0, .int .i64 0, .pointer none, .string ⟨#[]⟩, .string ⟨#[]⟩, .slice none 0 0, .map none, .string ⟨#[]⟩, .nilFunc, .bool false, st, U, .nilFunc, .string ⟨#[]⟩, .bool false, .bool false]

theorem turn_mk {w : World} {T : Nat} {src id : ByteArray} {st U : Value} {un has ran : Bool} (h : w.heap[T]? = some (.cells (tcells src id st U) 82 (0, 0)))
    (h1 : un = false → U = .nilIface) (h2 : un = true → ∃ p, U = .iface 105 p) (h3 : has = false → st = .pointer none) (h4 : has = true → ∃ S, st = .pointer (some ⟨S, 0, none⟩) ∧ w.cell? ⟨S, 0, none⟩ = some (.int .u32 (if ran then 1 else 0))) :
    TurnAt w T src id un has ran := by
  have c : ∀ j, w.cell? ⟨T, j, none⟩ = (tcells src id st U)[j]? := fun j => cell_of_row w T j _ 82 (0, 0) h
  refine ⟨c 2, c 3, c 14, c 15, fun e => ?_, fun e => ?_, fun e => ?_, fun e => ?_⟩
  · rw [c 17]; show some U = _; rw [h1 e]
  · obtain ⟨p, hp⟩ := h2 e; exact ⟨p, by rw [c 17]; show some U = _; rw [hp]⟩
  · rw [c 16]; show some st = _; rw [h3 e]
  · obtain ⟨S, hS, hc⟩ := h4 e; exact ⟨S, by rw [c 16]; show some st = _; rw [hS], hc⟩

theorem TurnAt.stay {w w' : World} {T : Nat} {src id : ByteArray} {un has ran : Bool} (h : TurnAt w T src id un has ran) (hb : Below w.heap.size w w') : TurnAt w' T src id un has ran := by
  have k : ∀ {a : Addr} {v : Value}, w.cell? a = some v → w'.cell? a = some v := fun hc => by rw [hb.cell (World.block_lt_of_cell? _ _ hc)]; exact hc
  obtain ⟨h1, h2, h3, h4, h5, h6, h7, h8⟩ := h
  refine ⟨k h1, k h2, k h3, k h4, fun e => k (h5 e), fun e => ?_, fun e => k (h7 e), fun e => ?_⟩
  · obtain ⟨p, hp⟩ := h6 e; exact ⟨p, k hp⟩
  · obtain ⟨S, hS, hc⟩ := h8 e; exact ⟨S, k hS, k hc⟩

/-- The flag laid and stored, its address put into the turn. -/
theorem turn_flag (w1 : World) (src id : ByteArray) (U : Value) (r : Bool) :
    ((w1.alloc (.cells (tcells src id (.pointer (some ⟨w1.heap.size + 1, 0, none⟩)) U) 82)).alloc (.cells #[.int .u32 (if r then 1 else 0)] 85)).drew.heap[w1.heap.size]? = some (.cells (tcells src id (.pointer (some ⟨w1.heap.size + 1, 0, none⟩)) U) 82 (0, 0)) ∧
    ((w1.alloc (.cells (tcells src id (.pointer (some ⟨w1.heap.size + 1, 0, none⟩)) U) 82)).alloc (.cells #[.int .u32 (if r then 1 else 0)] 85)).drew.cell? ⟨w1.heap.size + 1, 0, none⟩ = some (.int .u32 (if r then 1 else 0)) := by
  refine ⟨heap_alloc2_old w1 _ _, ?_⟩
  exact cell_of_row _ (w1.heap.size + 1) 0 _ 85 (0, 0) (heap_alloc2_new w1 _ _)

set_option maxHeartbeats 400000 in
set_option maxRecDepth 100000 in
theorem newTurn_bare (src id : ByteArray) (un ran : Bool) (w : World) :
    Calls Try.prog 14 #[.string src, .string id, .bool un, .bool false, .bool ran] w fun e w' => ∃ T, e = .returned (.pointer (some ⟨T, 0, none⟩)) ∧ w.heap.size ≤ T ∧ TurnAt w' T src id un false ran ∧ Below w.heap.size w w' := by
  cases un
  · go_enter Try.func14, Try.ntmps14
    go_wp2_with (go_at_call 10; refine (newDelivery_read src id w).mono ?_; rintro e w1 ⟨rfl, hb1⟩; unfold dcells)
    go_ret
    exact ⟨_, rfl, hb1.size, turn_mk (st := .pointer none) (U := .nilIface) (MapKept.heap_alloc w1 _).1 (fun _ => rfl) (fun h => by cases h) (fun _ => rfl) (fun h => by cases h), hb1.alloc hb1.size _⟩
  · go_enter Try.func14, Try.ntmps14
    go_wp2_with (go_at_call 10; refine (newDelivery_unread src id w).mono ?_; rintro e w1 ⟨p, rfl, hb1⟩; unfold dcells)
    go_ret
    exact ⟨_, rfl, hb1.size, turn_mk (st := .pointer none) (U := .iface 105 p) (MapKept.heap_alloc w1 _).1 (fun h => by cases h) (fun _ => ⟨p, rfl⟩) (fun _ => rfl) (fun h => by cases h), hb1.alloc hb1.size _⟩

set_option maxHeartbeats 400000 in
set_option maxRecDepth 100000 in
theorem newTurn_flag (src id : ByteArray) (un ran : Bool) (w : World) :
    Calls Try.prog 14 #[.string src, .string id, .bool un, .bool true, .bool ran] w fun e w' => ∃ T, e = .returned (.pointer (some ⟨T, 0, none⟩)) ∧ w.heap.size ≤ T ∧ TurnAt w' T src id un true ran ∧ Below w.heap.size w w' := by
  cases un
  · cases ran
    · go_enter Try.func14, Try.ntmps14
      go_wp2_with (first | (go_at_call 10; refine (newDelivery_read src id w).mono ?_; rintro e w1 ⟨rfl, hb1⟩; unfold dcells) | (go_at_call 21; refine (store_any (w1.heap.size + 1) false 0 _ (by simp) (by simp)).mono ?_; rintro e w2 ⟨rfl, rfl⟩))
      go_ret
      exact ⟨_, rfl, hb1.size, turn_mk (st := .pointer (some ⟨w1.heap.size + 1, 0, none⟩)) (U := .nilIface) (turn_flag w1 src id (.nilIface) false).1 (fun _ => rfl) (fun h => by cases h) (fun h => by cases h) (fun _ => ⟨w1.heap.size + 1, rfl, (turn_flag w1 src id (.nilIface) false).2⟩), ((hb1.alloc hb1.size _).alloc (Nat.le_trans hb1.size (by simp)) _).drew⟩
    · go_enter Try.func14, Try.ntmps14
      go_wp2_with (first | (go_at_call 10; refine (newDelivery_read src id w).mono ?_; rintro e w1 ⟨rfl, hb1⟩; unfold dcells) | (go_at_call 21; refine (store_any (w1.heap.size + 1) true 0 _ (by simp) (by simp)).mono ?_; rintro e w2 ⟨rfl, rfl⟩))
      go_ret
      exact ⟨_, rfl, hb1.size, turn_mk (st := .pointer (some ⟨w1.heap.size + 1, 0, none⟩)) (U := .nilIface) (turn_flag w1 src id (.nilIface) true).1 (fun _ => rfl) (fun h => by cases h) (fun h => by cases h) (fun _ => ⟨w1.heap.size + 1, rfl, (turn_flag w1 src id (.nilIface) true).2⟩), ((hb1.alloc hb1.size _).alloc (Nat.le_trans hb1.size (by simp)) _).drew⟩
  · cases ran
    · go_enter Try.func14, Try.ntmps14
      go_wp2_with (first | (go_at_call 10; refine (newDelivery_unread src id w).mono ?_; rintro e w1 ⟨p, rfl, hb1⟩; unfold dcells) | (go_at_call 21; refine (store_any (w1.heap.size + 1) false 0 _ (by simp) (by simp)).mono ?_; rintro e w2 ⟨rfl, rfl⟩))
      go_ret
      exact ⟨_, rfl, hb1.size, turn_mk (st := .pointer (some ⟨w1.heap.size + 1, 0, none⟩)) (U := .iface 105 p) (turn_flag w1 src id (.iface 105 p) false).1 (fun h => by cases h) (fun _ => ⟨p, rfl⟩) (fun h => by cases h) (fun _ => ⟨w1.heap.size + 1, rfl, (turn_flag w1 src id (.iface 105 p) false).2⟩), ((hb1.alloc hb1.size _).alloc (Nat.le_trans hb1.size (by simp)) _).drew⟩
    · go_enter Try.func14, Try.ntmps14
      go_wp2_with (first | (go_at_call 10; refine (newDelivery_unread src id w).mono ?_; rintro e w1 ⟨p, rfl, hb1⟩; unfold dcells) | (go_at_call 21; refine (store_any (w1.heap.size + 1) true 0 _ (by simp) (by simp)).mono ?_; rintro e w2 ⟨rfl, rfl⟩))
      go_ret
      exact ⟨_, rfl, hb1.size, turn_mk (st := .pointer (some ⟨w1.heap.size + 1, 0, none⟩)) (U := .iface 105 p) (turn_flag w1 src id (.iface 105 p) true).1 (fun h => by cases h) (fun _ => ⟨p, rfl⟩) (fun h => by cases h) (fun _ => ⟨w1.heap.size + 1, rfl, (turn_flag w1 src id (.iface 105 p) true).2⟩), ((hb1.alloc hb1.size _).alloc (Nat.le_trans hb1.size (by simp)) _).drew⟩

theorem newTurn_any (src id : ByteArray) (un has ran : Bool) (w : World) :
    Calls Try.prog 14 #[.string src, .string id, .bool un, .bool has, .bool ran] w fun e w' => ∃ T, e = .returned (.pointer (some ⟨T, 0, none⟩)) ∧ w.heap.size ≤ T ∧ TurnAt w' T src id un has ran ∧ Below w.heap.size w w' := by
  cases has
  · exact newTurn_bare src id un ran w
  · exact newTurn_flag src id un ran w

end Go.Proofs.Qxb6615065a
