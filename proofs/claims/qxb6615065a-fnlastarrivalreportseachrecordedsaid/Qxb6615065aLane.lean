/-
  Seat b6615065a: the lane: ZZlastArrivalNanos, lastArrival, ringPredecessor.
-/
import Derived.Test.Qxb6615065aTime
import Derived.RegionTactic
namespace Go.Proofs.Qxb6615065a
open Go.RowKit

/-- An array of int64 as cells. -/
def I64 (zs : List Int) : Array Value := (zs.map (Value.int .i64)).toArray

theorem I64_size (zs : List Int) : (I64 zs).size = zs.length := by simp [I64]
theorem I64_at (zs : List Int) (j : Nat) (h : j < zs.length) : (I64 zs)[j]? = some (.int .i64 (zs.getD j 0)) := by simp [I64, h]

theorem zsize : Try.zeroCells76.size = 109 := by kernel_rfl

/-- The lane in block L: its place n, its first k arrivals as zs says. -/
def LaneAt (w : World) (L : Nat) (n : Int) (zs : List Int) (k : Nat) : Prop :=
  ∃ C : Array Value, w.heap[L]? = some (.cells C 76 (0, 0)) ∧ C.size = 109 ∧ C[108]? = some (.int .i64 n) ∧
    ∀ j, j < k → C[12 + j * 3]? = some (.int .u64 (rest (zs.getD j 0))) ∧ C[12 + j * 3 + 1]? = some (.int .i64 (secs (zs.getD j 0))) ∧ C[12 + j * 3 + 2]? = some (.pointer none)

theorem lane_start (w : World) (n : Int) (zs : List Int) : LaneAt (w.alloc (.cells (Try.zeroCells76.setIfInBounds 108 (.int .i64 n)) 76)) w.heap.size n zs 0 :=
  ⟨_, (MapKept.heap_alloc w _).1, by rw [Array.size_setIfInBounds, zsize], by rw [Array.getElem?_setIfInBounds_self_of_lt (by rw [zsize]; omega)], fun j h => absurd h (Nat.not_lt_zero _)⟩

theorem add_zero' (d : Int) (hd0 : -9223372036854775808 ≤ d) (hd1 : d ≤ 9223372036854775807) (w : World) :
    Calls Try.prog 18 #[.agg #[.int .u64 0, .int .i64 0, .pointer none], .int .i64 d] w fun e w' => e = .returned (.agg #[.int .u64 (rest d), .int .i64 (secs d), .pointer none]) ∧ Below w.heap.size w w' := add_zero d hd0 hd1 w

theorem three {wr w1 : World} {L k : Nat} {C : Array Value} (hb : Below wr.heap.size wr w1) (hC : wr.heap[L]? = some (.cells C 76 (0, 0))) (hl : L < wr.heap.size) (hs : C.size = 109) (hk : k < 32) :
    Hid (w1.heap[L]? = some (.cells C 76 (0, 0))) ∧ (∃ v, w1.cell? ⟨L, 12 + k * 3, none⟩ = some v) ∧ (∃ v, w1.cell? ⟨L, 12 + k * 3 + 1, none⟩ = some v) ∧ (∃ v, w1.cell? ⟨L, 12 + k * 3 + 2, none⟩ = some v) ∧
      w1.frozen? ⟨L, 12 + k * 3, none⟩ = false ∧ w1.frozen? ⟨L, 12 + k * 3 + 1, none⟩ = false ∧ w1.frozen? ⟨L, 12 + k * 3 + 2, none⟩ = false := by
  have hC1 : w1.heap[L]? = some (.cells C 76 (0, 0)) := by rw [hb.block L hl]; exact hC
  refine ⟨hC1, ?_, ?_, ?_, frozen_of_row w1 L _ C 76 hC1, frozen_of_row w1 L _ C 76 hC1, frozen_of_row w1 L _ C 76 hC1⟩
  · rw [cell_of_row w1 L _ C 76 (0, 0) hC1]; exact ⟨C[12 + k * 3], Array.getElem?_eq_getElem (by omega)⟩
  · rw [cell_of_row w1 L _ C 76 (0, 0) hC1]; exact ⟨C[12 + k * 3 + 1], Array.getElem?_eq_getElem (by omega)⟩
  · rw [cell_of_row w1 L _ C 76 (0, 0) hC1]; exact ⟨C[12 + k * 3 + 2], Array.getElem?_eq_getElem (by omega)⟩

theorem lane_step {w1 : World} {L k : Nat} {n : Int} {zs : List Int} {C : Array Value} (hC : w1.heap[L]? = some (.cells C 76 (0, 0))) (hs : C.size = 109) (hk : k < 32) (h108 : C[108]? = some (.int .i64 n))
    (hj : ∀ j, j < k → C[12 + j * 3]? = some (.int .u64 (rest (zs.getD j 0))) ∧ C[12 + j * 3 + 1]? = some (.int .i64 (secs (zs.getD j 0))) ∧ C[12 + j * 3 + 2]? = some (.pointer none)) :
    LaneAt (((w1.setCell ⟨L, 12 + k * 3, none⟩ (.int .u64 (rest (zs.getD k 0)))).setCell ⟨L, 12 + k * 3 + 1, none⟩ (.int .i64 (secs (zs.getD k 0)))).setCell ⟨L, 12 + k * 3 + 2, none⟩ (.pointer none)) L n zs (k + 1) := by
  have h1 := heap_setCell_same w1 L (12 + k * 3) C 76 (.int .u64 (rest (zs.getD k 0))) hC
  have h2 := heap_setCell_same _ L (12 + k * 3 + 1) _ 76 (.int .i64 (secs (zs.getD k 0))) h1
  have h3 := heap_setCell_same _ L (12 + k * 3 + 2) _ 76 (.pointer none) h2
  refine ⟨_, h3, by simp [hs], ?_, fun j hjk => ?_⟩
  · rw [Array.getElem?_setIfInBounds_ne (by omega), Array.getElem?_setIfInBounds_ne (by omega), Array.getElem?_setIfInBounds_ne (by omega)]
    exact h108
  · by_cases e : j = k
    · subst e
      refine ⟨?_, ?_, ?_⟩
      · rw [Array.getElem?_setIfInBounds_ne (by omega), Array.getElem?_setIfInBounds_ne (by omega), Array.getElem?_setIfInBounds_self_of_lt (by omega)]
      · rw [Array.getElem?_setIfInBounds_ne (by omega), Array.getElem?_setIfInBounds_self_of_lt (by simp; omega)]
      · rw [Array.getElem?_setIfInBounds_self_of_lt (by simp; omega)]
    · have hh := hj j (by omega)
      refine ⟨?_, ?_, ?_⟩
      all_goals rw [Array.getElem?_setIfInBounds_ne (by omega), Array.getElem?_setIfInBounds_ne (by omega), Array.getElem?_setIfInBounds_ne (by omega)]
      · exact hh.1
      · exact hh.2.1
      · exact hh.2.2

/-- lastArrival at a full lane. -/
theorem last_any (L : Nat) (zs : List Int) (n : Nat) (d : Int) (hn : n < 32) (hd : zs.getD ((n + 31) % 32) 0 = d) (w : World) (hL : LaneAt w L n zs 32) :
    Calls Try.prog 19 #[.pointer (some ⟨L, 0, none⟩)] w fun e w' => e = .returned (.agg #[.int .u64 (rest d), .int .i64 (secs d), .pointer none]) ∧ Below w.heap.size w w' := by
  obtain ⟨C, hC, hCs, h108, hCj⟩ := hL
  have hm : (n + 31) % 32 < 32 := Nat.mod_lt _ (by omega)
  obtain ⟨m, HM⟩ : ∃ m, Hid (m = (n + 31) % 32) := ⟨_, rfl⟩
  rw [← HM.out] at hm hd
  obtain ⟨e0, e1, e2⟩ := hCj m hm
  have hL : L < w.heap.size := (Array.getElem?_eq_some_iff.1 hC).1
  have c108 : w.cell? ⟨L, 108, none⟩ = some (.int .i64 n) := by rw [cell_of_row w L _ C 76 (0, 0) hC]; exact h108
  have c0 : w.cell? ⟨L, 12 + m * 3, none⟩ = some (.int .u64 (rest d)) := by rw [cell_of_row w L _ C 76 (0, 0) hC, ← hd]; exact e0
  have c1 : w.cell? ⟨L, 12 + m * 3 + 1, none⟩ = some (.int .i64 (secs d)) := by rw [cell_of_row w L _ C 76 (0, 0) hC, ← hd]; exact e1
  have c2 : w.cell? ⟨L, 12 + m * 3 + 2, none⟩ = some (.pointer none) := by rw [cell_of_row w L _ C 76 (0, 0) hC]; exact e2
  have hmod : ((n : Int) + 32 - 1) % 32 = (m : Int) := by have := HM.out; omega
  clear hCj e0 e1 e2 h108 hd
  go_enter Try.func19, Try.ntmps19
  go_wp2
  go_region
  all_goals
    go_wp2
    exact bodyPost_ret (v := .agg #[.int .u64 (rest d), .int .i64 (secs d), .pointer none]) (by simp [results, Try.results19, go_sem]) rfl ⟨rfl, ((Below.refl _ _).alloc (Nat.le_refl _) _).drew⟩

theorem sub_zero' (d : Int) (hd0 : -9223372036854775808 ≤ d) (hd1 : d ≤ 9223372036854775807) (w : World) :
    Calls Try.prog 20 #[.agg #[.int .u64 (rest d), .int .i64 (secs d), .pointer none], .agg #[.int .u64 0, .int .i64 0, .pointer none]] w fun e w' => e = .returned (.int .i64 d) ∧ Below w.heap.size w w' := sub_zero d hd0 hd1 w

set_option maxHeartbeats 1000000 in
theorem nanos_any (zs : List Int) (hz : zs.length = 32) (hin : ∀ j, -9223372036854775808 ≤ zs.getD j 0 ∧ zs.getD j 0 ≤ 9223372036854775807) (n : Nat) (hn : n < 32) (d : Int) (HD : Hid (zs.getD ((n + 31) % 32) 0 = d)) (w : World) :
    Calls Try.prog 12 #[.agg (I64 zs), .int .i64 n] w fun e w' => e = .returned (.int .i64 d) ∧ Below w.heap.size w w' := by
  have HL : Hid (LaneAt ((w.alloc (.cells (I64 zs) 53)).alloc (.cells (Try.zeroCells76.setIfInBounds 108 (.int .i64 n)) 76)) (w.heap.size + 1) n zs 0) := by
    have := lane_start (w.alloc (.cells (I64 zs) 53)) n zs
    rw [World.size_alloc] at this
    exact this
  have HZ : Hid (zs.length = 32) := hz
  clear hz
  go_enter Try.func12, Try.ntmps12
  go_wp2_with fail
  go_loopw [6] (fun i wr => ∃ k : Nat, k ≤ 32 ∧ i = .int .i64 k ∧ LaneAt wr (w.heap.size + 1) n zs k ∧ wr.heap[w.heap.size]? = some (.cells (I64 zs) 53 (0, 0)) ∧ Below w.heap.size w wr) (fun i _ => 32 - (intOf i).toNat)
  case atStart => exact ⟨0, by omega, rfl, HL.out, heap_alloc2_old w _ _, ((Below.refl _ _).alloc (Nat.le_refl _) _).alloc (by simp) _⟩
  case round =>
    clear HL
    obtain ⟨k, hk, rfl, hL, hA, hb⟩ := hrel
    by_cases hlt : k < 32
    · have hlt' : (k : Int) < 32 := by omega
      have ca : wr.cell? ⟨w.heap.size, k, none⟩ = some (.int .i64 (zs.getD k 0)) := by
        rw [cell_of_row wr w.heap.size k _ 53 (0, 0) hA]
        exact I64_at zs k (by rw [HZ.out]; exact hlt)
      obtain ⟨C, hC, hCs, h108, hCj⟩ := hL
      have hlL : w.heap.size + 1 < wr.heap.size := (Array.getElem?_eq_some_iff.1 hC).1
      go_wp2
      go_region_with (go_at_call 18; refine (add_zero' (zs.getD k 0) (hin k).1 (hin k).2 _).mono ?_; rintro e w1 ⟨rfl, hb1⟩; obtain ⟨hC1, ⟨v0, d0⟩, ⟨v1, d1⟩, ⟨v2, d2⟩, g0, g1, g2⟩ := three hb1 hC hlL hCs hlt)
      all_goals
        have hst := lane_step hC1.out hCs hlt h108 hCj
        have hA1 : w1.heap[w.heap.size]? = some (.cells (I64 zs) 53 (0, 0)) := by rw [hb1.block w.heap.size (show w.heap.size < wr.heap.size by omega)]; exact hA
        have hbw1 : Below w.heap.size w w1 := hb.drew.trans (hb1.mono (show w.heap.size ≤ wr.heap.size by omega))
        clear hb1 d0 d1 d2 g0 g1 g2 hC hA hCj ca h108
        go_wp2
        go_roundw
        case rel =>
          refine ⟨k + 1, by omega, by go_num, hst, ?_, ((hbw1.setCell (p := ⟨w.heap.size + 1, 12 + k * 3, none⟩) (by simp) _).setCell (p := ⟨w.heap.size + 1, 12 + k * 3 + 1, none⟩) (by simp) _).setCell (p := ⟨w.heap.size + 1, 12 + k * 3 + 2, none⟩) (by simp) _⟩
          rw [heap_setCell_other _ _ _ _ (by simp), heap_setCell_other _ _ _ _ (by simp), heap_setCell_other _ _ _ _ (by simp)]
          exact hA1
        case measure => simp [intOf]; omega
    · obtain rfl : k = 32 := by omega
      have hdi := hin ((n + 31) % 32)
      rw [HD.out] at hdi
      go_wp2_with fail
      refine (last_any (w.heap.size + 1) zs n d hn HD.out wr hL).mono ?_
      rintro e w1 ⟨rfl, hb1⟩
      go_wp2_with fail
      refine (sub_zero' d hdi.1 hdi.2 w1).mono ?_
      rintro e w2 ⟨rfl, hb2⟩
      have hbw1 := hb.trans (hb1.mono hb.size)
      have hbw2 := hbw1.trans (hb2.mono hbw1.size)
      clear hb1 hb2 hb hbw1 hA hL
      go_wp2
      go_ret
      exact ⟨rfl, hbw2⟩

/-- ringPredecessor. -/
theorem pred_any (zs : List Int) (hz : zs.length = 32) (n : Nat) (hn : n < 32) (d : Int) (HD : Hid (zs.getD ((n + 31) % 32) 0 = d)) (w : World) :
    Calls Try.prog 13 #[.agg (I64 zs), .int .i64 n] w fun e w' => e = .returned (.int .i64 d) ∧ Below w.heap.size w w' := by
  have ca : ∀ j, j < 32 → (w.alloc (.cells (I64 zs) 53)).cell? ⟨w.heap.size, j, none⟩ = some (.int .i64 (zs.getD j 0)) := fun j hj => by
    rw [cell_of_row _ w.heap.size j _ 53 (0, 0) (MapKept.heap_alloc w _).1]
    exact I64_at zs j (by omega)
  by_cases h0 : n = 0
  · subst h0
    have c31 : (w.alloc (.cells (I64 zs) 53)).cell? ⟨w.heap.size, 31, none⟩ = some (.int .i64 d) := by rw [← HD.out]; exact ca 31 (by omega)
    clear ca hz
    go_enter Try.func13, Try.ntmps13
    go_wp2
    go_ret
    exact ⟨rfl, (Below.refl _ _).alloc (Nat.le_refl _) _⟩
  · have hm : (n + 31) % 32 = n - 1 := by omega
    have c : (w.alloc (.cells (I64 zs) 53)).cell? ⟨w.heap.size, n - 1, none⟩ = some (.int .i64 d) := by rw [← HD.out, hm]; exact ca (n - 1) (by omega)
    have hn0 : ((n : Int) == 0) = false := by simp; omega
    have hn1 : (1 : Int) ≤ (n : Int) := by omega
    have hn2 : (n : Int) < 32 := by omega
    clear ca hz hm h0
    go_enter Try.func13, Try.ntmps13
    go_wp2
    go_ret
    exact ⟨rfl, (Below.refl _ _).alloc (Nat.le_refl _) _⟩

end Go.Proofs.Qxb6615065a
