/-
  Seat b6615065a: ZZnewParticipant.
-/
import Derived.Test.Qxb6615065aProg
import Derived.WalkKit
import Derived.BigQuiet
import Derived.BigRegion
import Derived.RegionTactic
import Derived.WalkSpells
import Derived.Deep.DrawnRows
namespace Go.Proofs.Qxb6615065a
open Go.RowKit

theorem mkchan (w : World) : (Instr.makeChan 90 (.int .i64 1)).run Try.prog w = .ok (.chan (some w.heap.size)) (w.alloc (.chan 1 #[] false 0 0 false)) := by kernel_rfl

/-! ### The participant's many fields, put together and boxed as one step each -/
def build103 (ps : Array (Nat × Value)) : Sem Next := do pure (.value (← Instr.build 103 ps))
def box103 (v : Value) : Sem Next := do pure (.value (← Instr.box 103 v))
theorem execOp_build103 (ρ : Operand → Value) (dst : Option Tmp) (parts : Array (Nat × Operand)) (ty : TypeId) (pos : String) (after : Array Edge) (guard : Option (Nat × Bool)) :
    execOp ρ { dst, op := .build 103 parts, type := ty, pos, after, guard } = build103 (parts.map fun (i, x) => (i, ρ x)) := rfl
theorem execOp_box103 (ρ : Operand → Value) (dst : Option Tmp) (x : Operand) (ty : TypeId) (pos : String) (after : Array Edge) (guard : Option (Nat × Bool)) :
    execOp ρ { dst, op := .box 103 x, type := ty, pos, after, guard } = box103 (ρ x) := rfl
attribute [local go_sem ↓] Go.wp_at_zero Go.wp_at_succ
attribute [local go_sem ↓] execOp_build103 execOp_box103

def parts103 (name : ByteArray) (m c1 c2 : Nat) : Array (Nat × Value) :=
  #[(1, .int .i64 4), (3, .int .i64 100000000), (4, .int .i64 5), (5, .int .i64 1000000000), (6, .int .i64 30000000000), (7, .int .i64 1800000000000), (8, .int .i64 60000000000), (9, .int .i64 8), (10, .int .i64 604800000000000), (11, .int .i64 60000000000), (12, .string name), (13, .nilIface), (14, .nilIface), (15, .map (some m)), (20, .chan (some c1)), (21, .chan (some c2))]

theorem built103 (name : ByteArray) (m c1 c2 : Nat) : (Try.prog.built 103 (parts103 name m c1 c2).toList).isSome = true := by kernel_rfl

theorem run_build103 (name : ByteArray) : ∃ cells : Nat → Nat → Nat → Array Value, ∀ m c1 c2 w, (build103 (parts103 name m c1 c2)).run Try.prog w = .ok (.value (.agg (cells m c1 c2))) w := by
  refine ⟨fun m c1 c2 => (Try.prog.built 103 (parts103 name m c1 c2).toList).getD #[], fun m c1 c2 w => ?_⟩
  obtain ⟨cs, hcs⟩ := Option.isSome_iff_exists.1 (built103 name m c1 c2)
  have h := run_build w 103 (parts103 name m c1 c2) cs hcs
  simp only [hcs, Option.getD_some, build103, Sem.run_bind, Sem.run_pure, Result.andThen_ok, h]

theorem run_box103 (cs : Array Value) (w : World) : (box103 (.agg cs)).run Try.prog w = .ok (.value (.pointer (some ⟨w.heap.size, 0, none⟩))) (w.alloc (.cells cs 103)) := rfl

set_option maxHeartbeats 400000 in
set_option maxRecDepth 100000 in
theorem newPart_in (name : ByteArray) (w : World) :
    Calls Try.prog 15 #[.string name, .nilIface, .nilIface] w fun e w' => ∃ p, e = .returned (.pointer p) ∧ Below w.heap.size w w' := by
  have hmm := @run_makeMap Try.prog
  have hch := fun w => mkchan w
  obtain ⟨cells, hbd⟩ := run_build103 name
  unfold parts103 at hbd
  have hbx := fun cs w => run_box103 cs w
  go_enter Try.func15, Try.ntmps15
  go_wp2
  go_region
  all_goals
    go_wp2
    go_ret
    exact ⟨_, rfl, (((((Below.refl _ _).drew.alloc (Nat.le_refl _) _).alloc (by simp) _).alloc (by simp; omega) _).alloc (by simp; omega) _)⟩

theorem newPart_any (name : ByteArray) (w : World) :
    Calls Try.prog 8 #[.string name] w fun e w' => ∃ p, e = .returned (.pointer p) ∧ Below w.heap.size w w' := by
  go_enter Try.func8, Try.ntmps8
  go_wp2_with (go_at_call 15; refine (newPart_in name w).mono ?_; rintro e w1 ⟨p, rfl, hb⟩)
  go_ret
  exact ⟨p, rfl, hb⟩

end Go.Proofs.Qxb6615065a
