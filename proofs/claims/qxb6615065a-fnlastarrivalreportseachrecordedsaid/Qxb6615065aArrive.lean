/-
  Seat b6615065a: the walk of FnLastArrivalReportsEachRecorded.
-/
import Derived.Test.Qxb6615065aLane
import Derived.Deep.DrawnRows
namespace Go.Proofs.Qxb6615065a
open Go.RowKit

/-! ### A whole array of 32 numbers, loaded and stored as one step -/
def load53 (v : Value) : Sem Next := do pure (.value (← Instr.loadAt 53 v))
def store53 (v x : Value) : Sem Next := do Instr.storeAt 53 v x; pure .skip

theorem execOp_load53 (ρ : Operand → Value) (dst : Option Tmp) (x : Operand) (ty : TypeId) (pos : String) (after : Array Edge) (guard : Option (Nat × Bool)) :
    execOp ρ { dst, op := .load 53 x, type := ty, pos, after, guard } = load53 (ρ x) := rfl
theorem execOp_store53 (ρ : Operand → Value) (dst : Option Tmp) (x y : Operand) (ty : TypeId) (pos : String) (after : Array Edge) (guard : Option (Nat × Bool)) :
    execOp ρ { dst, op := .store 53 x y, type := ty, pos, after, guard } = store53 (ρ x) (ρ y) := rfl
attribute [local go_sem ↓] execOp_load53 execOp_store53
attribute [local go_sem ↓] Go.wp_at_zero Go.wp_at_succ

theorem size53 : (Try.prog.info? 53).map (·.size) = some 32 := by kernel_rfl

theorem run_load53 {w : World} {g : Nat} {zs : List Int} (hg : w.heap[g]? = some (.cells (I64 zs) 53 (0, 0))) (hz : zs.length = 32) :
    (load53 (.pointer (some ⟨g, 0, none⟩))).run Try.prog w = .ok (.value (.agg (I64 zs))) w := by
  have h := run_loadVar_row (P := Try.prog) w g 53 53 (I64 zs) (0, 0) _ hg Try.underlying53 rfl (by rw [I64_size, hz]; exact size53)
  simp only [load53, Instr.loadAt, Instr.sureAddr, Sem.run_bind, Sem.run_pure, Result.andThen_ok, h]

theorem I64_one (zs : List Int) : (I64 zs).all (·.oneCell') = true := by
  rw [Array.all_eq_true_iff_forall_mem]
  intro v hv
  simp only [I64, List.mem_toArray, List.mem_map] at hv
  obtain ⟨z, -, rfl⟩ := hv
  rfl

theorem run_store53 {w : World} {g : Nat} {old : Array Value} {zs : List Int} (hg : w.heap[g]? = some (.cells old 53 (0, 0))) (ho : old.size = 32) (hz : zs.length = 32) :
    (store53 (.pointer (some ⟨g, 0, none⟩)) (.agg (I64 zs))).run Try.prog w = .ok .skip (w.setRow g (I64 zs)) := by
  have h := run_storeVar_row (P := Try.prog) w g 53 53 old (I64 zs) hg (by rw [I64_size, hz]; exact size53) (by rw [I64_size, hz]; exact ho) (I64_one zs)
  simp only [store53, Instr.storeAt, Instr.sureAddr, Sem.run_bind, Sem.run_pure, Result.andThen_ok, h]

theorem run_store53_new {w : World} {zs : List Int} (hz : zs.length = 32) (old : Array Value) (ho : old.size = 32) :
    (store53 (.pointer (some ⟨w.heap.size, 0, none⟩)) (.agg (I64 zs))).run Try.prog (w.alloc (.cells old 53)) = .ok .skip (w.alloc (.cells (I64 zs) 53)) := by
  rw [run_store53 (MapKept.heap_alloc w _).1 ho hz]
  congr 1
  unfold World.setRow World.alloc
  cases w with
  | mk heap tape drawn os output =>
    congr 1
    apply Array.ext
    · simp
    · intro k h1 h2
      simp only [Array.getElem_modify, Array.getElem_push]
      by_cases hk : k < heap.size
      · simp [hk, show ¬ heap.size = k by omega]
      · have : k = heap.size := by simp at h2; omega
        subst this
        simp

/-- Two blocks that hold the one array. -/
def Both (A R : Nat) (zs : List Int) (W : World) : Prop := W.heap[A]? = some (.cells (I64 zs) 53 (0, 0)) ∧ W.heap[R]? = some (.cells (I64 zs) 53 (0, 0))

theorem Both.stay {A R : Nat} {zs : List Int} {W W' : World} (hb : Below W.heap.size W W') (h : Both A R zs W) : Both A R zs W' :=
  ⟨by rw [hb.block A (Array.getElem?_eq_some_iff.1 h.1).1]; exact h.1, by rw [hb.block R (Array.getElem?_eq_some_iff.1 h.2).1]; exact h.2⟩

theorem Both.loads {A R : Nat} {zs : List Int} {W : World} (h : Both A R zs W) (hz : zs.length = 32) :
    (load53 (.pointer (some ⟨A, 0, none⟩))).run Try.prog W = .ok (.value (.agg (I64 zs))) W ∧ (load53 (.pointer (some ⟨R, 0, none⟩))).run Try.prog W = .ok (.value (.agg (I64 zs))) W :=
  ⟨run_load53 h.1 hz, run_load53 h.2 hz⟩

theorem ring_set {w : World} {g m : Nat} {rs : List Int} {z : Int} (h : w.heap[g]? = some (.cells (I64 rs) 53 (0, 0))) (_hm : m < rs.length) :
    (w.setCell ⟨g, m, none⟩ (.int .i64 z)).heap[g]? = some (.cells (I64 (rs.set m z)) 53 (0, 0)) := by
  rw [heap_setCell_same w g m (I64 rs) 53 (.int .i64 z) h]
  congr 2
  apply Array.ext'
  simp [I64, List.map_set]

theorem range_set {rs : List Int} {m : Nat} {z : Int} (h : ∀ j, -9223372036854775808 ≤ rs.getD j 0 ∧ rs.getD j 0 ≤ 9223372036854775807) (hz : -9223372036854775808 ≤ z ∧ z ≤ 9223372036854775807) :
    ∀ j, -9223372036854775808 ≤ (rs.set m z).getD j 0 ∧ (rs.set m z).getD j 0 ≤ 9223372036854775807 := by
  intro j
  have hj := h j
  simp only [List.getD, List.getElem?_set] at hj ⊢
  split
  · split
    · simpa using hz
    · simp
  · exact hj

/-- A slice of int64 that came in. -/
def S64 (w : World) (v : Value) (ts : List Int) : Prop :=
  ∃ ao c, v = .slice ao ts.length c ∧ ts.length ≤ c ∧ c ≤ maxLen ∧
    (0 < ts.length → ∃ g o, ao = some ⟨g, o, none⟩ ∧ ∀ j, j < ts.length → w.cell? ⟨g, o + j, none⟩ = some (.int .i64 (ts.getD j 0)))

theorem zzBytes11 (zs : List Int) (n : Int) (ao : Option Addr) (l c : Nat) (hl : l ≤ maxLen) (w : World) :
    Calls Try.prog 11 #[.agg (I64 zs), .int .i64 n, .slice ao l c] w fun e w' => ∃ r, e = .returned (.bool r) ∧ Below w.heap.size w w' := by
  unfold maxLen at hl
  go_enter Try.func11, Try.ntmps11
  go_wp2
  all_goals
    go_ret
    exact ⟨_, rfl, (Below.refl _ _).alloc (Nat.le_refl _) _⟩

set_option maxHeartbeats 2000000 in
set_option maxRecDepth 100000 in
theorem law_small {w : World} (zs : List Int) (hz : zs.length = 32) (hin : ∀ j, -9223372036854775808 ≤ zs.getD j 0 ∧ zs.getD j 0 ≤ 9223372036854775807) (n : Nat) (hn : n < 32)
    (v : Value) (ts : List Int) (hs : S64 w v ts) (hl : ts.length ≤ 4096) (hti : ∀ j, -9223372036854775808 ≤ ts.getD j 0 ∧ ts.getD j 0 ≤ 9223372036854775807) :
    Calls Try.prog 4 #[.agg (I64 zs), .int .i64 n, v] w fun e w' => e = .returned (.bool true) ∧ Below w.heap.size w w' := by
  obtain ⟨ao, c, rfl, hc1, hc2, hcell⟩ := hs
  have hz11 := fun w => zzBytes11 zs n ao ts.length c (Nat.le_trans hc1 hc2) w
  have hA0 : (w.alloc (.cells (I64 zs) 53)).heap[w.heap.size]? = some (.cells (I64 zs) 53 (0, 0)) := (MapKept.heap_alloc w _).1
  have hld0 := run_load53 hA0 hz
  have gn0 : ¬ (n : Int) < 0 := by omega
  have gn1 : ¬ (32 : Int) ≤ (n : Int) := by omega
  have gl : ¬ (4096 : Int) < (ts.length : Int) := by omega
  have HZ : Hid (zs.length = 32) := hz
  clear hz
  go_enter Try.func4, Try.ntmps4
  go_wp2_with fail
  refine (hz11 _).mono ?_
  rintro e w1 ⟨r, rfl, hb1⟩
  have hbw1 : Below w.heap.size w w1 := ((Below.refl _ _).alloc (Nat.le_refl _) _).trans (hb1.mono (by simp))
  have hA1 : w1.heap[w.heap.size]? = some (.cells (I64 zs) 53 (0, 0)) := by rw [hb1.block _ (by simp)]; exact hA0
  clear hz11 hld0 hA0 hb1
  cases r
  · go_wp2
    go_ret
    exact ⟨rfl, hbw1⟩
  have hld1 := run_load53 hA1 HZ.out
  have hst := run_store53_new (w := w1) HZ.out
  have hlt1 : w.heap.size < w1.heap.size := (Array.getElem?_eq_some_iff.1 hA1).1
  have hA2 : (w1.alloc (.cells (I64 zs) 53)).heap[w.heap.size]? = some (.cells (I64 zs) 53 (0, 0)) := by rw [Below.heap_alloc _ _ _ hlt1]; exact hA1
  have hR2 : (w1.alloc (.cells (I64 zs) 53)).heap[w1.heap.size]? = some (.cells (I64 zs) 53 (0, 0)) := (MapKept.heap_alloc w1 _).1
  have hB2 : Both w.heap.size w1.heap.size zs (w1.alloc (.cells (I64 zs) 53)).drew := ⟨hA2, hR2⟩
  obtain ⟨hld2, hld3⟩ := hB2.loads HZ.out
  obtain ⟨d, HD⟩ : ∃ d, Hid (zs.getD ((n + 31) % 32) 0 = d) := ⟨_, rfl⟩
  go_wp2
  have hbw2 : Below w.heap.size w (w1.alloc (.cells (I64 zs) 53)).drew := (hbw1.alloc hbw1.size _).drew
  clear hst hld1 hA1 hbw1 hA2 hR2
  go_region_with (first
    | (go_at_call 12; refine (nanos_any zs HZ.out hin n hn d HD _).mono ?_; rintro e w3 ⟨rfl, hb3⟩; have hB3 := Both.stay (A := w.heap.size) (R := w1.heap.size) (zs := zs) hb3 (by assumption); obtain ⟨hld4, hld5⟩ := hB3.loads HZ.out)
    | (go_at_call 13; refine (pred_any zs HZ.out n hn d HD _).mono ?_; rintro e w4 ⟨rfl, hb4⟩; have hB4 := Both.stay (A := w.heap.size) (R := w1.heap.size) (zs := zs) hb4 (by assumption); obtain ⟨hld6, hld7⟩ := hB4.loads HZ.out))
  all_goals
    have hbw3 := hbw2.trans (hb3.mono hbw2.size)
    have hbw4 := hbw3.trans (hb4.mono hbw3.size)
    have hR4 := hB4.2
    clear hb3 hb4 hbw2 hbw3 hB2 hB3 hB4 hld2 hld3 hld4 hld5 hld6 hld7
    go_wp2
    go_loopw [8, 9] (fun nx jj wr => ∃ (k m : Nat) (rs : List Int), k ≤ ts.length ∧ jj = .int .i64 k ∧ m < 32 ∧ nx = .int .i64 m ∧ rs.length = 32 ∧ (∀ j, -9223372036854775808 ≤ rs.getD j 0 ∧ rs.getD j 0 ≤ 9223372036854775807) ∧ wr.heap[w1.heap.size]? = some (.cells (I64 rs) 53 (0, 0)) ∧ Below w.heap.size w wr) (fun _ jj _ => ts.length - (intOf jj).toNat)
    case atStart => exact ⟨0, n, zs, Nat.zero_le _, rfl, hn, rfl, HZ.out, hin, hR4, hbw4⟩
    case round =>
      obtain ⟨k, m, rs, hk, rfl, hm, rfl, hrl, hri, hR, hb⟩ := hrel
      clear hR4 hbw4
      by_cases hlt : k < ts.length
      · obtain ⟨g, o, rfl, hts⟩ := hcell (by omega)
        have hlt' : (k : Int) < (ts.length : Int) := by omega
        have hm' : (m : Int) < 32 := by omega
        have hgw : g < w.heap.size := World.block_lt_of_cell? _ _ (hts k hlt)
        have ct : wr.cell? ⟨g, o + k, none⟩ = some (.int .i64 (ts.getD k 0)) := by rw [hb.cell (p := ⟨g, o + k, none⟩) hgw]; exact hts k hlt
        have cr : wr.cell? ⟨w1.heap.size, m, none⟩ = some (.int .i64 (rs.getD m 0)) := by rw [cell_of_row wr _ m _ 53 (0, 0) hR]; exact I64_at rs m (by omega)
        have fr := frozen_of_row wr w1.heap.size m (I64 rs) 53 hR
        obtain ⟨t, HT⟩ : ∃ t, Hid (ts.getD k 0 = t) := ⟨_, rfl⟩
        have htr := hti k
        rw [HT.out] at ct htr
        have ct2 : (wr.setCell ⟨w1.heap.size, m, none⟩ (.int .i64 t)).cell? ⟨g, o + k, none⟩ = some (.int .i64 t) := by
          rw [World.cell?_setCell_other _ _ _ _ (fun e => by have := congrArg Addr.block e; simp at this; omega)]; exact ct
        have hR5 := ring_set (g := w1.heap.size) (z := t) hR (show m < rs.length by omega)
        have hlen5 : (rs.set m t).length = 32 := by rw [List.length_set]; exact hrl
        have hri5 : ∀ j, -9223372036854775808 ≤ (rs.set m t).getD j 0 ∧ (rs.set m t).getD j 0 ≤ 9223372036854775807 := range_set hri htr
        have hld := run_load53 (w := (wr.setCell ⟨w1.heap.size, m, none⟩ (.int .i64 t)).drew) hR5 hlen5
        have hb5 : Below w.heap.size w (wr.setCell ⟨w1.heap.size, m, none⟩ (.int .i64 t)) := hb.setCell (p := ⟨w1.heap.size, m, none⟩) (Nat.le_of_lt hlt1) _
        by_cases h31 : m = 31
        · have hN := fun W => nanos_any (rs.set m t) hlen5 hri5 0 (by omega) t (by show _ = _; rw [h31]; simp [List.getD, hrl]) W
          rw [show ((0 : Nat) : Int) = 0 from rfl] at hN
          have hq : ((m : Int) + 1 == 32) = true := by simp; omega
          have HN : Hid (∀ W, Calls Try.prog 12 #[.agg (I64 (rs.set m t)), .int .i64 0] W fun e w' => e = .returned (.int .i64 t) ∧ Below W.heap.size W w') := hN
          have HR5 : Hid ((wr.setCell ⟨w1.heap.size, m, none⟩ (.int .i64 t)).heap[w1.heap.size]? = some (.cells (I64 (rs.set m t)) 53 (0, 0))) := hR5
          have HT2 : Hid ((wr.setCell ⟨w1.heap.size, m, none⟩ (.int .i64 t)).cell? ⟨g, o + k, none⟩ = some (.int .i64 t)) := ct2
          have HB5 : Hid (Below w.heap.size w (wr.setCell ⟨w1.heap.size, m, none⟩ (.int .i64 t))) := hb5
          clear hN hR hcell hR5 h31
          go_wp2
          go_region_with (go_at_call 12; refine (HN.out _).mono ?_; rintro e w5 ⟨rfl, hb6⟩; have ct3 : w5.cell? ⟨g, o + k, none⟩ = some (.int .i64 t) := (hb6.cell (p := ⟨g, o + k, none⟩) (World.block_lt_of_cell? _ _ HT2.out)).trans HT2.out)
          all_goals
            have hR6 : w5.heap[w1.heap.size]? = some (.cells (I64 (rs.set m t)) 53 (0, 0)) := (hb6.block w1.heap.size (Array.getElem?_eq_some_iff.1 HR5.out).1).trans HR5.out
            have hb7 : Below w.heap.size w w5 := HB5.out.drew.trans (hb6.mono HB5.out.size)
            clear hb6 hld
            go_wp2
            go_roundw
            case rel => exact ⟨k + 1, 0, rs.set m t, by omega, by go_num, by omega, by go_num, hlen5, hri5, hR6, hb7⟩
            case measure => simp [intOf]; omega
        · have hN := fun W => nanos_any (rs.set m t) hlen5 hri5 (m + 1) (by omega) t (by show _ = _; rw [show (m + 1 + 31) % 32 = m by omega]; simp [List.getD, hrl, hm]) W
          rw [show ((m + 1 : Nat) : Int) = (m : Int) + 1 by omega] at hN
          have hq : ((m : Int) + 1 == 32) = false := by simp; omega
          have HN : Hid (∀ W, Calls Try.prog 12 #[.agg (I64 (rs.set m t)), .int .i64 ((m : Int) + 1)] W fun e w' => e = .returned (.int .i64 t) ∧ Below W.heap.size W w') := hN
          have HR5 : Hid ((wr.setCell ⟨w1.heap.size, m, none⟩ (.int .i64 t)).heap[w1.heap.size]? = some (.cells (I64 (rs.set m t)) 53 (0, 0))) := hR5
          have HT2 : Hid ((wr.setCell ⟨w1.heap.size, m, none⟩ (.int .i64 t)).cell? ⟨g, o + k, none⟩ = some (.int .i64 t)) := ct2
          have HB5 : Hid (Below w.heap.size w (wr.setCell ⟨w1.heap.size, m, none⟩ (.int .i64 t))) := hb5
          clear hN hR hcell hR5
          go_wp2
          go_region_with (go_at_call 12; refine (HN.out _).mono ?_; rintro e w5 ⟨rfl, hb6⟩; have ct3 : w5.cell? ⟨g, o + k, none⟩ = some (.int .i64 t) := (hb6.cell (p := ⟨g, o + k, none⟩) (World.block_lt_of_cell? _ _ HT2.out)).trans HT2.out)
          all_goals
            have hR6 : w5.heap[w1.heap.size]? = some (.cells (I64 (rs.set m t)) 53 (0, 0)) := (hb6.block w1.heap.size (Array.getElem?_eq_some_iff.1 HR5.out).1).trans HR5.out
            have hb7 : Below w.heap.size w w5 := HB5.out.drew.trans (hb6.mono HB5.out.size)
            clear hb6 hld
            go_wp2
            go_roundw
            case rel => exact ⟨k + 1, m + 1, rs.set m t, by omega, by go_num, by omega, by go_num, hlen5, hri5, hR6, hb7⟩
            case measure => simp [intOf]; omega
      · go_wp2
        go_ret
        exact ⟨rfl, hb⟩

set_option maxHeartbeats 2000000 in
set_option maxRecDepth 100000 in
theorem law_big {w : World} (zs : List Int) (hz : zs.length = 32) (n : Int) (ao : Option Addr) (l c : Nat) (hl : l ≤ maxLen) (hbig : 4096 < l ∨ n < 0 ∨ 32 ≤ n) :
    Calls Try.prog 4 #[.agg (I64 zs), .int .i64 n, .slice ao l c] w fun e w' => e = .returned (.bool true) ∧ Below w.heap.size w w' := by
  have hz11 := fun w => zzBytes11 zs n ao l c hl w
  have hA0 : (w.alloc (.cells (I64 zs) 53)).heap[w.heap.size]? = some (.cells (I64 zs) 53 (0, 0)) := (MapKept.heap_alloc w _).1
  have hld0 := run_load53 hA0 hz
  unfold maxLen at hl
  by_cases g0 : 4096 < l
  · have g0' : (4096 : Int) < (l : Int) := by omega
    go_enter Try.func4, Try.ntmps4
    go_wp2_with fail
    refine (hz11 _).mono ?_
    rintro e w1 ⟨r, rfl, hb1⟩
    have hbw1 : Below w.heap.size w w1 := ((Below.refl _ _).alloc (Nat.le_refl _) _).trans (hb1.mono (by simp))
    clear hz11 hld0 hA0 hb1
    cases r
    all_goals
      go_wp2
      go_ret
      exact ⟨rfl, hbw1⟩
  have g0' : ¬ (4096 : Int) < (l : Int) := by omega
  by_cases g1 : n < 0
  · go_enter Try.func4, Try.ntmps4
    go_wp2_with fail
    refine (hz11 _).mono ?_
    rintro e w1 ⟨r, rfl, hb1⟩
    have hbw1 : Below w.heap.size w w1 := ((Below.refl _ _).alloc (Nat.le_refl _) _).trans (hb1.mono (by simp))
    clear hz11 hld0 hA0 hb1
    cases r
    all_goals
      go_wp2
      go_ret
      exact ⟨rfl, hbw1⟩
  have g2 : 32 ≤ n := by omega
  go_enter Try.func4, Try.ntmps4
  go_wp2_with fail
  refine (hz11 _).mono ?_
  rintro e w1 ⟨r, rfl, hb1⟩
  have hbw1 : Below w.heap.size w w1 := ((Below.refl _ _).alloc (Nat.le_refl _) _).trans (hb1.mono (by simp))
  clear hz11 hld0 hA0 hb1
  cases r
  all_goals
    go_wp2
    go_ret
    exact ⟨rfl, hbw1⟩

end Go.Proofs.Qxb6615065a
