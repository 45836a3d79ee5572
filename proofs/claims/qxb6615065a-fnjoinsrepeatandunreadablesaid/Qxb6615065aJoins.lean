/-
  Seat b6615065a: runsStatements, joins.
-/
import Derived.Test.Qxb6615065aTurns
import Derived.RegionTactic
import Derived.Lib.Hide
import Derived.Deep.QuietTactic
import Derived.BigQuiet
namespace Go.Proofs.Qxb6615065a
open Go.RowKit
attribute [local go_sem ↓] Go.wp_at_zero Go.wp_at_succ

theorem load_any (b : Nat) (z : Int) (w : World) (c0 : w.cell? ⟨b, 0, none⟩ = some (.int .u32 z)) :
    Calls Try.prog 33 #[.pointer (some ⟨b, 0, none⟩)] w fun e w' => e = .returned (.bool (z != 0)) ∧ w = w' := by
  have hl := run_call_load (P := Try.prog) Try.func34 (by kernel_rfl) (by kernel_rfl) (by kernel_rfl) .u32 (by kernel_rfl) c0
  go_enter Try.func33, Try.ntmps33
  go_wp2
  go_ret
  exact ⟨rfl, rfl⟩

theorem runs_none (w : World) :
    Calls Try.prog 22 #[.agg #[.nilFunc, .bool false, .pointer none]] w fun e w' => e = .returned (.bool false) ∧ Below w.heap.size w w' := by
  go_enter Try.func22, Try.ntmps22
  go_wp2
  go_ret
  exact ⟨rfl, (Below.refl _ _).alloc (Nat.le_refl _) _⟩

theorem runs_some (S : Nat) (r : Bool) (w : World) (hc : w.cell? ⟨S, 0, none⟩ = some (.int .u32 (if r then 1 else 0))) :
    Calls Try.prog 22 #[.agg #[.nilFunc, .bool false, .pointer (some ⟨S, 0, none⟩)]] w fun e w' => e = .returned (.bool r) ∧ Below w.heap.size w w' := by
  have hS : S < w.heap.size := World.block_lt_of_cell? _ _ hc
  have hc' : ∀ o, (w.alloc o).cell? ⟨S, 0, none⟩ = some (.int .u32 (if r then 1 else 0)) := fun o => by rw [World.cell?_alloc_lt _ _ _ hS]; exact hc
  cases r
  · go_enter Try.func22, Try.ntmps22
    go_wp2_with (go_at_call 33; refine (load_any S 0 _ (hc' _)).mono ?_; rintro e w1 ⟨rfl, rfl⟩)
    go_ret
    exact ⟨rfl, (Below.refl _ _).alloc (Nat.le_refl _) _⟩
  · go_enter Try.func22, Try.ntmps22
    go_wp2_with (go_at_call 33; refine (load_any S 1 _ (hc' _)).mono ?_; rintro e w1 ⟨rfl, rfl⟩)
    go_ret
    exact ⟨rfl, (Below.refl _ _).alloc (Nat.le_refl _) _⟩

/-- What joins reads of the k-th turn. -/
theorem turn_at {w : World} {R : Nat} {xs : List Item} {has ran : Bool} (h : Turns w R xs has ran xs.length) (k : Nat) (hk : k < xs.length) :
    ∃ T, w.cell? ⟨R, k, none⟩ = some (.pointer (some ⟨T, 0, none⟩)) ∧ TurnAt w T xs[k].1 xs[k].2.1 xs[k].2.2 (decide (k + 1 = xs.length) && has) ran := by
  obtain ⟨C, h1, h2, -, h3⟩ := h
  obtain ⟨T, h4, h5⟩ := h3 k hk hk
  exact ⟨T, by rw [cell_of_row w R k C 57 (0, 0) h1]; exact h4, h5⟩

/-- What joins does first: it asks the last turn's handler. -/
theorem last_runs {w : World} {R : Nat} {xs : List Item} {has ran : Bool} (h : Turns w R xs has ran xs.length) (hpos : 0 < xs.length) :
    ∃ T p, w.cell? ⟨R, xs.length - 1, none⟩ = some (.pointer (some ⟨T, 0, none⟩)) ∧ w.cell? ⟨T, 14, none⟩ = some .nilFunc ∧ w.cell? ⟨T, 15, none⟩ = some (.bool false) ∧ w.cell? ⟨T, 16, none⟩ = some (.pointer p) ∧
      Calls Try.prog 22 #[.agg #[.nilFunc, .bool false, .pointer p]] w fun e w' => e = .returned (.bool (has && ran)) ∧ Below w.heap.size w w' := by
  obtain ⟨T, hT, hTA⟩ := turn_at h (xs.length - 1) (by omega)
  rw [show decide (xs.length - 1 + 1 = xs.length) = true by simp; omega, Bool.true_and] at hTA
  obtain ⟨-, -, c14, c15, -, -, h7, h8⟩ := hTA
  cases has
  · exact ⟨T, none, hT, c14, c15, h7 rfl, by simpa using runs_none w⟩
  · obtain ⟨S, c16, hS⟩ := h8 rfl
    exact ⟨T, _, hT, c14, c15, c16, by simpa using runs_some S ran w hS⟩

set_option maxHeartbeats 400000 in
set_option maxRecDepth 100000 in
/-- joins where the last handler has run a statement of its own: false. -/
theorem joins_held (pv : Value) (R : Nat) (xs : List Item) (has ran : Bool) (hr : (has && ran) = true) (src id : ByteArray) (U : Value) (w : World) (h : Turns w R xs has ran xs.length) (hpos : 0 < xs.length) (hl : xs.length ≤ 65536) :
    Calls Try.prog 16 #[pv, .slice (some ⟨R, 0, none⟩) xs.length xs.length, .agg (dcells src id (.pointer none) U)] w fun e w' => e = .returned (.bool false) ∧ Below w.heap.size w w' := by
  have h1 : Turns (w.alloc (.cells (dcells src id (.pointer none) U) 51)) R xs has ran xs.length := h.stay ((Below.refl _ _).alloc (Nat.le_refl _) _)
  obtain ⟨T, p, hT, c14, c15, c16, hC⟩ := last_runs h1 hpos
  rw [hr] at hC
  have hl' : (1 : Int) ≤ (xs.length : Int) := by omega
  have HC := Lib.hid hC
  clear h h1 hC hr
  go_enter Try.func16, Try.ntmps16
  go_wp2_with fail
  refine HC.out.mono ?_
  rintro e w1 ⟨rfl, hb1⟩
  go_wp2
  go_ret
  exact ⟨rfl, ((Below.refl _ w).alloc (Nat.le_refl _) _).trans (hb1.mono (by simp))⟩

/-- Does the k-th item match? -/
def matchAt (xs : List Item) (src id : ByteArray) (k : Nat) : Prop := ∃ h : k < xs.length, xs[k].2.2 = false ∧ xs[k].1 = src ∧ xs[k].2.1 = id

theorem dcell {w : World} {D : Nat} {src id : ByteArray} {st U : Value} (h : w.heap[D]? = some (.cells (dcells src id st U) 51 (0, 0))) :
    w.cell? ⟨D, 2, none⟩ = some (.string id) ∧ w.cell? ⟨D, 3, none⟩ = some (.string src) ∧ w.cell? ⟨D, 17, none⟩ = some U := by
  have c : ∀ j, w.cell? ⟨D, j, none⟩ = (dcells src id st U)[j]? := fun j => cell_of_row w D j _ 51 (0, 0) h
  exact ⟨c 2, c 3, c 17⟩

theorem toList_ne {a b : ByteArray} (h : ¬ a = b) : (a.toList == b.toList) = false := by
  rw [ByteArray.toList_eq, ByteArray.toList_eq]
  refine beq_eq_false_iff_ne.2 fun e => h ?_
  cases a
  cases b
  congr 1
  exact Array.toList_inj.1 e

theorem draws_below (B : Nat) (w : World) (n : Nat) : Below B w (w.drewN n) := ⟨rfl, rfl, rfl, Nat.le_refl _, fun _ _ => rfl⟩

set_option maxHeartbeats 1000000 in
set_option maxRecDepth 100000 in
/-- joins at a readable delivery, the last handler idle: no, if a readable turn bears its source and id. -/
theorem joins_read (pv : Value) (R : Nat) (xs : List Item) (has ran : Bool) (hr : (has && ran) = false) (src id : ByteArray) (w : World) (h : Turns w R xs has ran xs.length) (hpos : 0 < xs.length) (hl : xs.length ≤ 65536) :
    Calls Try.prog 16 #[pv, .slice (some ⟨R, 0, none⟩) xs.length xs.length, .agg (dcells src id (.pointer none) .nilIface)] w fun e w' => ∃ r, e = .returned (.bool r) ∧ (∀ k, matchAt xs src id k → r = false) ∧ Below w.heap.size w w' := by
  have hb0 : Below w.heap.size w (w.alloc (.cells (dcells src id (.pointer none) .nilIface) 51)) := (Below.refl _ _).alloc (Nat.le_refl _) _
  have h1 := h.stay hb0
  have hD0 : (w.alloc (.cells (dcells src id (.pointer none) .nilIface) 51)).heap[w.heap.size]? = some (.cells (dcells src id (.pointer none) .nilIface) 51 (0, 0)) := (MapKept.heap_alloc w _).1
  obtain ⟨T, p, hT, c14, c15, c16, hC⟩ := last_runs h1 hpos
  rw [hr] at hC
  have hl' : (1 : Int) ≤ (xs.length : Int) := by omega
  have HC := Lib.hid hC
  clear h hC hr
  go_enter Try.func16, Try.ntmps16
  go_wp2_with fail
  refine HC.out.mono ?_
  rintro e w1 ⟨rfl, hb1⟩
  have h2 := h1.stay hb1
  have hb2 := hb0.trans (hb1.mono hb0.size)
  have hD1 : w1.heap[w.heap.size]? = some (.cells (dcells src id (.pointer none) .nilIface) 51 (0, 0)) := by rw [hb1.block _ (by simp)]; exact hD0
  obtain ⟨e2, e3, e17⟩ := dcell hD1
  clear hT c14 c15 c16 HC h1 hb0 hb1 hD0 hD1
  go_wp2
  go_loopw [22] (fun i wr => ∃ k m : Nat, k ≤ xs.length ∧ i = .int .i64 k ∧ wr = w1.drewN m ∧ ∀ j, j < k → ¬ matchAt xs src id j) (fun i _ => xs.length - (intOf i).toNat)
  case atStart => exact ⟨0, 0, Nat.zero_le _, rfl, rfl, fun j hj => absurd hj (Nat.not_lt_zero _)⟩
  case round =>
    obtain ⟨k, m, hk, rfl, rfl, hno⟩ := hrel
    by_cases hlt : k < xs.length
    · have hlt' : (k : Int) < (xs.length : Int) := by omega
      obtain ⟨T, hT, hTA⟩ := turn_at h2 k hlt
      obtain ⟨c2, c3, -, -, h5, h6, -, -⟩ := hTA
      have hM : matchAt xs src id k ↔ (xs[k].2.2 = false ∧ xs[k].1 = src ∧ xs[k].2.1 = id) := ⟨fun ⟨_, q⟩ => q, fun q => ⟨hlt, q⟩⟩
      generalize xs[k] = x at *
      obtain ⟨xs', xi, xu⟩ := x
      dsimp only at *
      cases xu
      · have c17 := h5 rfl
        clear h5 h6
        by_cases hs : xs' = src
        · by_cases hi : xi = id
          · subst hs hi
            go_wp2
            go_quiet (fail)
            go_wp2
            go_ret
            exact ⟨false, rfl, fun _ _ => rfl, (hb2.trans (draws_below _ _ _)).trans (draws_below _ _ _)⟩
          · subst hs
            have hd := toList_ne hi
            go_wp2
            go_quiet (fail)
            go_wp2
            go_roundw
            case rel => exact ⟨k + 1, _, by omega, by go_num, rfl, fun j hj hm => by
              by_cases e : j = k
              · subst e; exact absurd (hM.1 hm).2.2 hi
              · exact hno j (by omega) hm⟩
            case measure => simp [intOf]; omega
        · have hd := toList_ne hs
          go_wp2
          go_quiet (fail)
          go_wp2
          go_roundw
          case rel => exact ⟨k + 1, _, by omega, by go_num, rfl, fun j hj hm => by
            by_cases e : j = k
            · subst e; exact absurd (hM.1 hm).2.1 hs
            · exact hno j (by omega) hm⟩
          case measure => simp [intOf]; omega
      · obtain ⟨p', c17⟩ := h6 rfl
        clear h5 h6
        go_wp2
        go_quiet (fail)
        go_wp2
        go_roundw
        case rel => exact ⟨k + 1, _, by omega, by go_num, rfl, fun j hj hm => by
          by_cases e : j = k
          · subst e; exact absurd (hM.1 hm).1 (by simp)
          · exact hno j (by omega) hm⟩
        case measure => simp [intOf]; omega
    · go_wp2
      go_ret
      exact ⟨true, rfl, fun j hm => absurd hm (hno j (by obtain ⟨hj, -⟩ := hm; omega)), hb2.trans (draws_below _ _ _)⟩

set_option maxHeartbeats 1000000 in
set_option maxRecDepth 100000 in
/-- joins at an unreadable delivery, the last handler idle: yes. -/
theorem joins_unread (pv : Value) (R : Nat) (xs : List Item) (has ran : Bool) (hr : (has && ran) = false) (src id : ByteArray) (q : Value) (w : World) (h : Turns w R xs has ran xs.length) (hpos : 0 < xs.length) (hl : xs.length ≤ 65536) :
    Calls Try.prog 16 #[pv, .slice (some ⟨R, 0, none⟩) xs.length xs.length, .agg (dcells src id (.pointer none) (.iface 105 q))] w fun e w' => e = .returned (.bool true) ∧ Below w.heap.size w w' := by
  have hb0 : Below w.heap.size w (w.alloc (.cells (dcells src id (.pointer none) (.iface 105 q)) 51)) := (Below.refl _ _).alloc (Nat.le_refl _) _
  have h1 := h.stay hb0
  have hD0 : (w.alloc (.cells (dcells src id (.pointer none) (.iface 105 q)) 51)).heap[w.heap.size]? = some (.cells (dcells src id (.pointer none) (.iface 105 q)) 51 (0, 0)) := (MapKept.heap_alloc w _).1
  obtain ⟨T, p, hT, c14, c15, c16, hC⟩ := last_runs h1 hpos
  rw [hr] at hC
  have hl' : (1 : Int) ≤ (xs.length : Int) := by omega
  have HC := Lib.hid hC
  clear h hC hr
  go_enter Try.func16, Try.ntmps16
  go_wp2_with fail
  refine HC.out.mono ?_
  rintro e w1 ⟨rfl, hb1⟩
  have h2 := h1.stay hb1
  have hb2 := hb0.trans (hb1.mono hb0.size)
  have hD1 : w1.heap[w.heap.size]? = some (.cells (dcells src id (.pointer none) (.iface 105 q)) 51 (0, 0)) := by rw [hb1.block _ (by simp)]; exact hD0
  obtain ⟨e2, e3, e17⟩ := dcell hD1
  clear hT c14 c15 c16 HC h1 hb0 hb1 hD0 hD1
  go_wp2
  go_loopw [22] (fun i wr => ∃ k m : Nat, k ≤ xs.length ∧ i = .int .i64 k ∧ wr = w1.drewN m) (fun i _ => xs.length - (intOf i).toNat)
  case atStart => exact ⟨0, 0, Nat.zero_le _, rfl, rfl⟩
  case round =>
    obtain ⟨k, m, hk, rfl, rfl⟩ := hrel
    by_cases hlt : k < xs.length
    · have hlt' : (k : Int) < (xs.length : Int) := by omega
      obtain ⟨T, hT, hTA⟩ := turn_at h2 k hlt
      obtain ⟨c2, c3, -, -, h5, h6, -, -⟩ := hTA
      generalize xs[k] = x at *
      obtain ⟨xs', xi, xu⟩ := x
      dsimp only at *
      cases xu
      · have c17 := h5 rfl
        clear h5 h6
        go_wp2
        go_quiet (fail)
        go_wp2
        go_roundw
        case rel => exact ⟨k + 1, _, by omega, by go_num, rfl⟩
        case measure => simp [intOf]; omega
      · obtain ⟨p', c17⟩ := h6 rfl
        clear h5 h6
        go_wp2
        go_quiet (fail)
        go_wp2
        go_roundw
        case rel => exact ⟨k + 1, _, by omega, by go_num, rfl⟩
        case measure => simp [intOf]; omega
    · go_wp2
      go_ret
      exact ⟨rfl, hb2.trans (draws_below _ _ _)⟩

/-! ### ZZjoins -/
attribute [local go_sem ↓] execOp_load51 execOp_store51

theorem zzJoins_any {pv ts : Value} {w : World} {cs : Array Value} (hs : cs.size = 19) (Good : Bool → Prop)
    (h : Calls Try.prog 16 #[pv, ts, .agg cs] (w.alloc (.cells cs 51)) fun e w' => ∃ r, e = .returned (.bool r) ∧ Good r ∧ Below (w.alloc (.cells cs 51)).heap.size (w.alloc (.cells cs 51)) w') :
    Calls Try.prog 9 #[pv, ts, .agg cs] w fun e w' => ∃ r, e = .returned (.bool r) ∧ Good r ∧ Below w.heap.size w w' := by
  have hld : (load51 (.pointer (some ⟨w.heap.size, 0, none⟩))).run Try.prog (w.alloc (.cells cs 51)) = .ok (.value (.agg cs)) (w.alloc (.cells cs 51)) := run_load51 (MapKept.heap_alloc w _).1 hs
  have H := Lib.hid h
  clear h
  go_enter Try.func9, Try.ntmps9
  go_wp2_with fail
  refine H.out.mono ?_
  rintro e w1 ⟨r, rfl, hg, hb⟩
  have HG := Lib.hid hg
  clear hg H
  go_wp2
  go_ret
  exact ⟨r, rfl, HG.out, ((Below.refl _ w).alloc (Nat.le_refl _) _).trans (hb.mono (by simp))⟩

theorem stay1 {w : World} {R k : Nat} {xs : List Item} {has ran : Bool} (h : Turns w R xs has ran k) (o : Obj) : Turns (w.alloc o) R xs has ran k := h.stay ((Below.refl _ _).alloc (Nat.le_refl _) _)

theorem zz_unread (pv : Value) (R : Nat) (xs : List Item) (has ran : Bool) (src id : ByteArray) (q : Value) (w : World) (h : Turns w R xs has ran xs.length) (hpos : 0 < xs.length) (hl : xs.length ≤ 65536) :
    Calls Try.prog 9 #[pv, .slice (some ⟨R, 0, none⟩) xs.length xs.length, .agg (dcells src id (.pointer none) (.iface 105 q))] w fun e w' => ∃ r, e = .returned (.bool r) ∧ r = !(has && ran) ∧ Below w.heap.size w w' := by
  refine zzJoins_any rfl (fun r => r = !(has && ran)) ?_
  cases hr : (has && ran)
  · refine (joins_unread pv R xs has ran hr src id q _ (stay1 h _) hpos hl).mono ?_
    rintro e w' ⟨rfl, hb⟩
    exact ⟨true, rfl, rfl, hb⟩
  · refine (joins_held pv R xs has ran hr src id _ _ (stay1 h _) hpos hl).mono ?_
    rintro e w' ⟨rfl, hb⟩
    exact ⟨false, rfl, rfl, hb⟩

theorem zz_read (pv : Value) (R : Nat) (xs : List Item) (has ran : Bool) (src id : ByteArray) (w : World) (h : Turns w R xs has ran xs.length) (hpos : 0 < xs.length) (hl : xs.length ≤ 65536) :
    Calls Try.prog 9 #[pv, .slice (some ⟨R, 0, none⟩) xs.length xs.length, .agg (dcells src id (.pointer none) .nilIface)] w fun e w' => ∃ r, e = .returned (.bool r) ∧ ((∀ k, matchAt xs src id k → r = false) ∧ ((has && ran) = true → r = false)) ∧ Below w.heap.size w w' := by
  refine zzJoins_any rfl (fun r => (∀ k, matchAt xs src id k → r = false) ∧ ((has && ran) = true → r = false)) ?_
  cases hr : (has && ran)
  · refine (joins_read pv R xs has ran hr src id _ (stay1 h _) hpos hl).mono ?_
    rintro e w' ⟨r, rfl, hm, hb⟩
    exact ⟨r, rfl, ⟨hm, fun h => by cases h⟩, hb⟩
  · refine (joins_held pv R xs has ran hr src id _ _ (stay1 h _) hpos hl).mono ?_
    rintro e w' ⟨rfl, hb⟩
    exact ⟨false, rfl, ⟨fun _ _ => rfl, fun _ => rfl⟩, hb⟩

end Go.Proofs.Qxb6615065a
