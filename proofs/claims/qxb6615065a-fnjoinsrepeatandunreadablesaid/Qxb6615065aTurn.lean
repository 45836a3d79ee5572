/-
  Seat b6615065a: deliveries and turns: ZZnewDelivery, ZZnewTurn, the atomic flag.
-/
import Derived.Test.Qxb6615065aProg
import Derived.WalkKit
import Derived.BigQuiet
import Derived.Deep.RegionWith
import Derived.Laws.LoneSync
import Derived.Laws.EntriesVeiled
import Derived.RegionCalls
import Derived.WalkSpells
import Derived.Deep.DrawnRows
import Derived.Laws.CopyOwn
namespace Go.Proofs.Qxb6615065a
open Go.RowKit

/-! ### A whole delivery (19 cells), loaded and stored as one step -/
def load51 (v : Value) : Sem Next := do pure (.value (← Instr.loadAt 51 v))
def store51 (v x : Value) : Sem Next := do Instr.storeAt 51 v x; pure .skip

theorem execOp_load51 (ρ : Operand → Value) (dst : Option Tmp) (x : Operand) (ty : TypeId) (pos : String) (after : Array Edge) (guard : Option (Nat × Bool)) :
    execOp ρ { dst, op := .load 51 x, type := ty, pos, after, guard } = load51 (ρ x) := rfl
theorem execOp_store51 (ρ : Operand → Value) (dst : Option Tmp) (x y : Operand) (ty : TypeId) (pos : String) (after : Array Edge) (guard : Option (Nat × Bool)) :
    execOp ρ { dst, op := .store 51 x y, type := ty, pos, after, guard } = store51 (ρ x) (ρ y) := rfl
attribute [local go_sem ↓] Go.wp_at_zero Go.wp_at_succ
attribute [local go_sem ↓] execOp_load51 execOp_store51

theorem size51 : (Try.prog.info? 51).map (·.size) = some 19 := by kernel_rfl

theorem run_load51 {w : World} {g : Nat} {cs : Array Value} {t : TypeId} {fr : Nat × Nat} (hg : w.heap[g]? = some (.cells cs t fr)) (hz : cs.size = 19) :
    (load51 (.pointer (some ⟨g, 0, none⟩))).run Try.prog w = .ok (.value (.agg cs)) w := by
  have h := run_loadVar_row (P := Try.prog) w g t 51 cs fr _ hg Try.underlying51 rfl (by rw [hz]; exact size51)
  simp only [load51, Instr.loadAt, Instr.sureAddr, Sem.run_bind, Sem.run_pure, Result.andThen_ok, h]

theorem run_store51 {w : World} {g : Nat} {old cs : Array Value} (hg : w.heap[g]? = some (.cells old 51 (0, 0))) (ho : old.size = 19) (hz : cs.size = 19) (h1 : cs.all (·.oneCell') = true) :
    (store51 (.pointer (some ⟨g, 0, none⟩)) (.agg cs)).run Try.prog w = .ok .skip (w.setRow g cs) := by
  have h := run_storeVar_row (P := Try.prog) w g 51 51 old cs hg (by rw [hz]; exact size51) (by rw [hz]; exact ho) h1
  simp only [store51, Instr.storeAt, Instr.sureAddr, Sem.run_bind, Sem.run_pure, Result.andThen_ok, h]

/-- A delivery's cells. -/
def dcells (src id : ByteArray) (st U : Value) : Array Value :=
  #[.string ⟨#[]⟩, .slice none 0 0, .string id, .string src, .string ⟨#[]⟩, .string ⟨#[]⟩, .int .u64 0, .int .i64 0, .pointer none, .string ⟨#[]⟩, .string ⟨#[]⟩, .slice none 0 0, .map none, .string ⟨#[]⟩, .nilFunc, .bool false, st, U, .nilFunc]

theorem dcells_one (src id : ByteArray) (st U : Value) (h1 : st.oneCell' = true) (h2 : U.oneCell' = true) : (dcells src id st U).all (·.oneCell') = true := by
  rw [Array.all_eq_true_iff_forall_mem]
  intro v hv
  simp only [dcells, List.mem_toArray, List.mem_cons, List.not_mem_nil, or_false] at hv
  rcases hv with rfl | rfl | rfl | rfl | rfl | rfl | rfl | rfl | rfl | rfl | rfl | rfl | rfl | rfl | rfl | rfl | rfl | rfl | rfl <;> first | rfl | assumption

set_option maxHeartbeats 400000 in
set_option maxRecDepth 100000 in
theorem newDelivery_read (src id : ByteArray) (w : World) :
    Calls Try.prog 10 #[.string src, .string id, .bool false] w fun e w' => e = .returned (.agg (dcells src id (.pointer none) .nilIface)) ∧ Below w.heap.size w w' := by
  have hld : ∀ A cs, cs.size = 19 → (load51 (.pointer (some ⟨w.heap.size + 1, 0, none⟩))).run Try.prog ((w.alloc A).alloc (.cells cs 51)) = .ok (.value (.agg cs)) ((w.alloc A).alloc (.cells cs 51)) :=
    fun A cs h => run_load51 (heap_alloc2_new w A _) h
  have hst : ∀ (o1 : Array Value) B, o1.size = 19 → (store51 (.pointer (some ⟨w.heap.size, 0, none⟩)) (.agg (dcells src id (.pointer none) .nilIface))).run Try.prog ((w.alloc (.cells o1 51)).alloc B) = .ok .skip (((w.alloc (.cells o1 51)).alloc B).setRow w.heap.size (dcells src id (.pointer none) .nilIface)) :=
    fun o1 B h1 => run_store51 (heap_alloc2_old w _ _) h1 rfl (dcells_one _ _ _ _ rfl rfl)
  have hrow : ∀ (o1 : Array Value) B, (((w.alloc (.cells o1 51)).alloc B).setRow w.heap.size (dcells src id (.pointer none) .nilIface)).heap[w.heap.size]? = some (.cells (dcells src id (.pointer none) .nilIface) 51 (0, 0)) := fun o1 B => setRow_heap _ _ _ _ _ _ (heap_alloc2_old w _ _)
  have hbel : ∀ (o1 : Array Value) B, Below w.heap.size w (((w.alloc (.cells o1 51)).alloc B).setRow w.heap.size (dcells src id (.pointer none) .nilIface)) := fun o1 B => below_setRow (((Below.refl _ _).alloc (Nat.le_refl _) _).alloc (by simp) _) (Nat.le_refl _) _
  have HR : Hid (∀ (o1 : Array Value) B, (((w.alloc (.cells o1 51)).alloc B).setRow w.heap.size (dcells src id (.pointer none) .nilIface)).heap[w.heap.size]? = some (.cells (dcells src id (.pointer none) .nilIface) 51 (0, 0))) := hrow
  have HB : Hid (∀ (o1 : Array Value) B, Below w.heap.size w (((w.alloc (.cells o1 51)).alloc B).setRow w.heap.size (dcells src id (.pointer none) .nilIface))) := hbel
  clear hrow hbel
  unfold dcells at hst ⊢
  go_enter Try.func10, Try.ntmps10
  go_wp2
  exact bodyPost_ret (results_cell_row Try.results10 _ _ w.heap.size 51 _ (0, 0) _ rfl (HR.out _ _) Try.underlying51 rfl (by exact size51)) rfl ⟨rfl, HB.out _ _⟩

theorem heap3_mid (w : World) (A B C : Obj) : (((w.alloc A).alloc B).alloc C).heap[w.heap.size + 1]? = some B := by
  rw [Below.heap_alloc _ _ _ (by simp)]
  exact heap_alloc2_new w A B
theorem heap3_low (w : World) (A B C : Obj) : (((w.alloc A).alloc B).alloc C).heap[w.heap.size]? = some A := by
  rw [Below.heap_alloc _ _ _ (by simp; omega)]
  exact heap_alloc2_old w A B

set_option maxHeartbeats 400000 in
set_option maxRecDepth 100000 in
theorem newDelivery_unread (src id : ByteArray) (w : World) :
    Calls Try.prog 10 #[.string src, .string id, .bool true] w fun e w' => ∃ p, e = .returned (.agg (dcells src id (.pointer none) (.iface 105 p))) ∧ Below w.heap.size w w' := by
  obtain ⟨U, hU⟩ : ∃ U : Value, U = .iface 105 (.pointer (some ⟨w.heap.size + 2, 0, none⟩)) := ⟨_, rfl⟩
  have hU1 : U.oneCell' = true := by rw [hU]; rfl
  have hld : ∀ A C cs, cs.size = 19 → (load51 (.pointer (some ⟨w.heap.size + 1, 0, none⟩))).run Try.prog (((w.alloc A).alloc (.cells cs 51)).alloc C) = .ok (.value (.agg cs)) (((w.alloc A).alloc (.cells cs 51)).alloc C) :=
    fun A C cs h => run_load51 (heap3_mid w A _ C) h
  have hst : ∀ (o1 : Array Value) B C, o1.size = 19 → (store51 (.pointer (some ⟨w.heap.size, 0, none⟩)) (.agg (dcells src id (.pointer none) U))).run Try.prog (((w.alloc (.cells o1 51)).alloc B).alloc C) = .ok .skip ((((w.alloc (.cells o1 51)).alloc B).alloc C).setRow w.heap.size (dcells src id (.pointer none) U)) :=
    fun o1 B C h1 => run_store51 (heap3_low w _ _ _) h1 rfl (dcells_one _ _ _ _ rfl hU1)
  have HR : Hid (∀ (o1 : Array Value) B C, ((((w.alloc (.cells o1 51)).alloc B).alloc C).setRow w.heap.size (dcells src id (.pointer none) U)).heap[w.heap.size]? = some (.cells (dcells src id (.pointer none) U) 51 (0, 0))) := fun o1 B C => setRow_heap _ _ _ _ _ _ (heap3_low w _ _ _)
  have HB : Hid (∀ (o1 : Array Value) B C, Below w.heap.size w ((((w.alloc (.cells o1 51)).alloc B).alloc C).setRow w.heap.size (dcells src id (.pointer none) U))) := fun o1 B C => below_setRow ((((Below.refl _ _).alloc (Nat.le_refl _) _).alloc (by simp) _).alloc (by simp; omega) _) (Nat.le_refl _) _
  subst hU
  unfold dcells at hst ⊢
  go_enter Try.func10, Try.ntmps10
  go_wp2
  exact bodyPost_ret (results_cell_row Try.results10 _ _ w.heap.size 51 _ (0, 0) _ rfl (HR.out _ _ _) Try.underlying51 rfl (by exact size51)) rfl ⟨_, rfl, HB.out _ _ _⟩

set_option maxHeartbeats 400000 in
theorem store_any (b : Nat) (r : Bool) (z : Int) (w : World) (c0 : w.cell? ⟨b, 0, none⟩ = some (.int .u32 z)) (f0 : w.frozen? ⟨b, 0, none⟩ = false) :
    Calls Try.prog 21 #[.pointer (some ⟨b, 0, none⟩), .bool r] w fun e w' => e = .returned (.tuple #[]) ∧ (w.setCell ⟨b, 0, none⟩ (.int .u32 (if r then 1 else 0))).drew = w' := by
  cases r
  · have hs := run_call_store (P := Try.prog) (w := w.drew) Try.func31 (by kernel_rfl) (by kernel_rfl) (by kernel_rfl) (by kernel_rfl) (k := .u32) (y := 0) c0 f0
    go_enter Try.func21, Try.ntmps21
    go_wp2
    go_region_calls
    all_goals
      go_wp2
      go_end0
      exact ⟨rfl, rfl⟩
  · have hs := run_call_store (P := Try.prog) (w := w.drew) Try.func31 (by kernel_rfl) (by kernel_rfl) (by kernel_rfl) (by kernel_rfl) (k := .u32) (y := 1) c0 f0
    go_enter Try.func21, Try.ntmps21
    go_wp2
    go_region_calls
    all_goals
      go_wp2
      go_end0
      exact ⟨rfl, rfl⟩

end Go.Proofs.Qxb6615065a
