/-
  Seat b6615065a: buildTurns.
-/
import Derived.Test.Qxb6615065aTurns
import Derived.Deep.RegionHeld3
import Derived.Deep.OwnRows
namespace Go.Proofs.Qxb6615065a
open Go.RowKit
attribute [local go_sem ↓] Go.wp_at_zero Go.wp_at_succ

set_option linter.unusedSimpArgs false in
set_option maxHeartbeats 2000000 in
set_option maxRecDepth 100000 in
theorem build_any {w : World} {v : Value} {xs : List Item} (h : Items w v xs) (hl : xs.length ≤ 65536) (hpos : 0 < xs.length) (has ran : Bool) :
    Calls Try.prog 7 #[v, .bool has, .bool ran] w fun e w' => ∃ R, e = .returned (.slice (some ⟨R, 0, none⟩) xs.length xs.length) ∧ w.heap.size ≤ R ∧ Turns w' R xs has ran xs.length ∧ Below w.heap.size w w' := by
  obtain ⟨ao, c, rfl, hc1, hc2, hcell⟩ := h
  obtain ⟨g, o, rfl, hit⟩ := hcell hpos
  clear hcell
  have hmk := run_make_row' (P := Try.prog) 27 57 (.pointer none) 8 Try.underlying27 info57 rfl .i64 .i64 xs.length (by omega) (by omega)
  have hS0 := turns_start w xs has ran
  go_enter Try.func7, Try.ntmps7
  go_wp2
  go_loopw [9] (fun i wr => ∃ k : Nat, k ≤ xs.length ∧ i = .int .i64 k ∧ Turns wr w.heap.size xs has ran k ∧ Below w.heap.size w wr) (fun i _ => xs.length - (intOf i).toNat)
  case atStart => exact ⟨0, Nat.zero_le _, rfl, hS0, (Below.refl _ _).alloc (Nat.le_refl _) _⟩
  case round =>
    clear hmk hS0
    obtain ⟨k, hk, rfl, hT, hb⟩ := hrel
    by_cases hlt : k < xs.length
    · have hlt' : (k : Int) < (xs.length : Int) := by omega
      have hgw : g < w.heap.size := World.block_lt_of_cell? _ _ (hit k hlt).1
      have hbc : ∀ j x, w.cell? ⟨g, j, none⟩ = some x → wr.cell? ⟨g, j, none⟩ = some x := fun j x hx => by rw [hb.cell (p := ⟨g, j, none⟩) hgw]; exact hx
      obtain ⟨x, HX⟩ : ∃ x, Hid (xs[k] = x) := ⟨xs[k], show xs[k] = xs[k] from rfl⟩
      have hck := hit k hlt
      rw [HX.out] at hck
      obtain ⟨src, id, un⟩ := x
      dsimp only at hck
      have c0 := hbc _ _ hck.1
      have c1 := hbc _ _ hck.2.1
      have c2 := hbc _ _ hck.2.2
      obtain ⟨C, hC1, hC2, hCp, hC3⟩ := id' hT
      have hRl : w.heap.size < wr.heap.size := (Array.getElem?_eq_some_iff.1 hC1).1
      have HC : Hid (wr.heap[w.heap.size]? = some (.cells C 57 (0, 0))) := hC1
      have HCs : Hid (C.size = xs.length) := hC2
      clear hbc hck hC1 hC2 hCp hC3 hit
      by_cases hlast : k + 1 = xs.length
      · have hq : ((k : Int) == (xs.length : Int) - 1) = true := by simp; omega
        have HL : Hid (k + 1 = xs.length) := hlast
        clear hlast
        go_wp2
        go_region_held3 (fun w' => w'.cell? ⟨g, o + k * 3, none⟩ = some (.string src) ∧ w'.cell? ⟨g, o + k * 3 + 1, none⟩ = some (.string id) ∧ w'.cell? ⟨g, o + k * 3 + 2, none⟩ = some (.bool un)) (go_keep)
          (first | (go_at_call 14; refine (newTurn_any src id un has ran _).mono ?_; rintro e w5 ⟨T, rfl, hTs, hTA, hb5⟩; obtain ⟨s0, s1, s2, d0, d1, d2, hf5, pv, d5⟩ := after_call hb5 c0 c1 c2 HC.out HCs.out hlt hgw))
        all_goals
          have hb5' : Below wr.heap.size wr w5 := (Below.refl _ wr).drew.trans hb5
          have hta : TurnAt w5 T xs[k].1 xs[k].2.1 xs[k].2.2 (decide (k + 1 = xs.length) && has) ran := by rw [HX.out, decide_eq_true HL.out, Bool.true_and]; exact hTA
          have hstep := turns_step (hT.stay hb5') hlt hta
          have hbn : Below w.heap.size w (w5.setCell ⟨w.heap.size, k, none⟩ (.pointer (some ⟨T, 0, none⟩))) := (hb.trans (hb5'.mono hb.size)).setCell (p := ⟨w.heap.size, k, none⟩) (Nat.le_refl _) _
          clear hb5 hb5' hta hT hb c0 c1 c2 d0 d1 d2 d5 s0 s1 s2 hf5 hTA
          go_wp2
          go_roundw
          case rel => exact ⟨k + 1, by omega, by go_num, hstep, hbn⟩
          case measure => simp [intOf]; omega
      · have hq : ((k : Int) == (xs.length : Int) - 1) = false := by simp; omega
        have HL : Hid (¬ k + 1 = xs.length) := hlast
        clear hlast
        go_wp2
        refine wp_region_held_drew (S := (fun w' => w'.cell? ⟨g, o + k * 3, none⟩ = some (.string src) ∧ w'.cell? ⟨g, o + k * 3 + 1, none⟩ = some (.string id) ∧ w'.cell? ⟨g, o + k * 3 + 2, none⟩ = some (.bool un))) (by kernel_rfl) (by go_keep) (fun hHeld => ?_)
        refine wpAnyH_take (i := 0) (v := ?_) rfl (by kernel_rfl) (by kernel_rfl) (by kernel_rfl) (fun _ _ _ h => h) (Or.inl ⟨by rfl, ?_⟩) (by assumption) ?_
        rotate_left
        · intro w hSw; (try dsimp only at hSw); go_simp
          try (with_reducible rfl)
        simp only [Act.put, List.getElem_toArray, List.getElem_cons_zero, List.getElem_cons_succ, List.setIfInBounds_toArray, List.set_cons_zero, List.set_cons_succ]
        refine wpAnyH_take (i := 1) (v := ?_) rfl (by kernel_rfl) (by kernel_rfl) (by kernel_rfl) (fun _ _ _ h => h) (Or.inl ⟨by rfl, ?_⟩) (by assumption) ?_
        rotate_left
        · intro w hSw; (try dsimp only at hSw); go_simp
          try (with_reducible rfl)
        simp only [Act.put, List.getElem_toArray, List.getElem_cons_zero, List.getElem_cons_succ, List.setIfInBounds_toArray, List.set_cons_zero, List.set_cons_succ]
        refine wpAnyH_take (i := 2) (v := ?_) rfl (by kernel_rfl) (by kernel_rfl) (by kernel_rfl) (fun _ _ _ h => h) (Or.inl ⟨by rfl, ?_⟩) (by assumption) ?_
        rotate_left
        · intro w hSw; (try dsimp only at hSw); go_simp
          try (with_reducible rfl)
        simp only [Act.put, List.getElem_toArray, List.getElem_cons_zero, List.getElem_cons_succ, List.setIfInBounds_toArray, List.set_cons_zero, List.set_cons_succ]
        refine wpAnyH_take (i := 3) (v := ?_) rfl (by kernel_rfl) (by kernel_rfl) (by kernel_rfl) (fun _ _ _ h => h) (Or.inl ⟨by rfl, ?_⟩) (by assumption) ?_
        rotate_left
        · intro w hSw; (try dsimp only at hSw); go_simp
          try (with_reducible rfl)
        simp only [Act.put, List.getElem_toArray, List.getElem_cons_zero, List.getElem_cons_succ, List.setIfInBounds_toArray, List.set_cons_zero, List.set_cons_succ]
        refine wpAnyH_take (i := 4) (v := ?_) rfl (by kernel_rfl) (by kernel_rfl) (by kernel_rfl) (fun _ _ _ h => h) (Or.inl ⟨by rfl, ?_⟩) (by assumption) ?_
        rotate_left
        · intro w hSw; (try dsimp only at hSw); go_simp
          try (with_reducible rfl)
        simp only [Act.put, List.getElem_toArray, List.getElem_cons_zero, List.getElem_cons_succ, List.setIfInBounds_toArray, List.set_cons_zero, List.set_cons_succ]
        refine wpAnyH_take (i := 5) (v := ?_) rfl (by kernel_rfl) (by kernel_rfl) (by kernel_rfl) (fun _ _ _ h => h) (Or.inl ⟨by rfl, ?_⟩) (by assumption) ?_
        rotate_left
        · intro w hSw; (try dsimp only at hSw); go_simp
          try (with_reducible rfl)
        simp only [Act.put, List.getElem_toArray, List.getElem_cons_zero, List.getElem_cons_succ, List.setIfInBounds_toArray, List.set_cons_zero, List.set_cons_succ]
        refine wpAnyH_take (i := 6) (v := ?_) rfl (by kernel_rfl) (by kernel_rfl) (by kernel_rfl) (fun _ _ _ h => h) (Or.inl ⟨by rfl, ?_⟩) (by assumption) ?_
        rotate_left
        · intro w hSw; (try dsimp only at hSw); go_simp
          try (with_reducible rfl)
        simp only [Act.put, List.getElem_toArray, List.getElem_cons_zero, List.getElem_cons_succ, List.setIfInBounds_toArray, List.set_cons_zero, List.set_cons_succ]
        refine wpAnyH_take (i := 7) (v := ?_) rfl (by kernel_rfl) (by kernel_rfl) (by kernel_rfl) (fun _ _ _ h => h) (Or.inl ⟨by rfl, ?_⟩) (by assumption) ?_
        rotate_left
        · intro w hSw; (try dsimp only at hSw); go_simp
          try (with_reducible rfl)
        simp only [Act.put, List.getElem_toArray, List.getElem_cons_zero, List.getElem_cons_succ, List.setIfInBounds_toArray, List.set_cons_zero, List.set_cons_succ]
        refine wpAnyH_take (i := 8) (v := ?_) rfl (by kernel_rfl) (by kernel_rfl) (by kernel_rfl) (fun _ _ _ h => h) (Or.inl ⟨by rfl, ?_⟩) (by assumption) ?_
        rotate_left
        · intro w hSw; (try dsimp only at hSw); go_simp
          try (with_reducible rfl)
        simp only [Act.put, List.getElem_toArray, List.getElem_cons_zero, List.getElem_cons_succ, List.setIfInBounds_toArray, List.set_cons_zero, List.set_cons_succ]
        refine wpAnyH_take (i := 9) (v := ?_) rfl (by kernel_rfl) (by kernel_rfl) (by kernel_rfl) (fun _ _ _ h => h) (Or.inl ⟨by rfl, ?_⟩) (by assumption) ?_
        rotate_left
        · intro w hSw; (try dsimp only at hSw); go_simp
          try (with_reducible rfl)
        simp only [Act.put, List.getElem_toArray, List.getElem_cons_zero, List.getElem_cons_succ, List.setIfInBounds_toArray, List.set_cons_zero, List.set_cons_succ]
        refine wpAnyH_take (i := 10) (v := ?_) rfl (by kernel_rfl) (by kernel_rfl) (by kernel_rfl) (fun _ _ _ h => h) (Or.inl ⟨by rfl, ?_⟩) (by assumption) ?_
        rotate_left
        · intro w hSw; (try dsimp only at hSw); go_simp
          try (with_reducible rfl)
        simp only [Act.put, List.getElem_toArray, List.getElem_cons_zero, List.getElem_cons_succ, List.setIfInBounds_toArray, List.set_cons_zero, List.set_cons_succ]
        refine wpAnyH_take (i := 11) (v := ?_) rfl (by kernel_rfl) (by kernel_rfl) (by kernel_rfl) (fun _ _ _ h => h) (Or.inl ⟨by rfl, ?_⟩) (by assumption) ?_
        rotate_left
        · intro w hSw; (try dsimp only at hSw); go_simp
          try (with_reducible rfl)
        simp only [Act.put, List.getElem_toArray, List.getElem_cons_zero, List.getElem_cons_succ, List.setIfInBounds_toArray, List.set_cons_zero, List.set_cons_succ]
        refine wpAnyH_take (i := 12) (v := ?_) rfl (by kernel_rfl) (by kernel_rfl) (by kernel_rfl) (fun _ _ _ h => h) (Or.inl ⟨by rfl, ?_⟩) (by assumption) ?_
        rotate_left
        · intro w hSw; (try dsimp only at hSw); go_simp
          try (with_reducible rfl)
        simp only [Act.put, List.getElem_toArray, List.getElem_cons_zero, List.getElem_cons_succ, List.setIfInBounds_toArray, List.set_cons_zero, List.set_cons_succ]
        refine wpAnyH_take (i := 13) (v := ?_) rfl (by kernel_rfl) (by kernel_rfl) (by kernel_rfl) (fun _ _ _ h => h) (Or.inl ⟨by rfl, ?_⟩) (by assumption) ?_
        rotate_left
        · intro w hSw; (try dsimp only at hSw); go_simp
          try (with_reducible rfl)
        simp only [Act.put, List.getElem_toArray, List.getElem_cons_zero, List.getElem_cons_succ, List.setIfInBounds_toArray, List.set_cons_zero, List.set_cons_succ]
        refine wpAnyH_take (i := 14) (v := ?_) rfl (by kernel_rfl) (by kernel_rfl) (by kernel_rfl) (fun _ _ _ h => h) (Or.inl ⟨by rfl, ?_⟩) (by assumption) ?_
        rotate_left
        · intro w hSw; (try dsimp only at hSw); go_simp
          try (with_reducible rfl)
        simp only [Act.put, List.getElem_toArray, List.getElem_cons_zero, List.getElem_cons_succ, List.setIfInBounds_toArray, List.set_cons_zero, List.set_cons_succ]
        refine wpAnyH_take (i := 15) (v := ?_) rfl (by kernel_rfl) (by kernel_rfl) (by kernel_rfl) (fun _ _ _ h => h) (Or.inl ⟨by rfl, ?_⟩) (by assumption) ?_
        rotate_left
        · intro w hSw; (try dsimp only at hSw); go_simp
          try (with_reducible rfl)
        simp only [Act.put, List.getElem_toArray, List.getElem_cons_zero, List.getElem_cons_succ, List.setIfInBounds_toArray, List.set_cons_zero, List.set_cons_succ]
        refine wpAnyH_take (i := 16) (v := ?_) rfl (by kernel_rfl) (by kernel_rfl) (by kernel_rfl) (fun _ _ _ h => h) (Or.inl ⟨by rfl, ?_⟩) (by assumption) ?_
        rotate_left
        · intro w hSw; (try dsimp only at hSw); go_simp
          try (with_reducible rfl)
        simp only [Act.put, List.getElem_toArray, List.getElem_cons_zero, List.getElem_cons_succ, List.setIfInBounds_toArray, List.set_cons_zero, List.set_cons_succ]
        refine wpAnyH_take (i := 17) (v := ?_) rfl (by kernel_rfl) (by kernel_rfl) (by kernel_rfl) (fun _ _ _ h => h) (Or.inl ⟨by rfl, ?_⟩) (by assumption) ?_
        rotate_left
        · intro w hSw; (try dsimp only at hSw); go_simp
          try (with_reducible rfl)
        simp only [Act.put, List.getElem_toArray, List.getElem_cons_zero, List.getElem_cons_succ, List.setIfInBounds_toArray, List.set_cons_zero, List.set_cons_succ]
        refine wpAnyH_take (i := 18) (v := ?_) rfl (by kernel_rfl) (by kernel_rfl) (by kernel_rfl) (fun _ _ _ h => h) (Or.inl ⟨by rfl, ?_⟩) (by assumption) ?_
        rotate_left
        · intro w hSw; (try dsimp only at hSw); go_simp
          try (with_reducible rfl)
        simp only [Act.put, List.getElem_toArray, List.getElem_cons_zero, List.getElem_cons_succ, List.setIfInBounds_toArray, List.set_cons_zero, List.set_cons_succ]
        refine wpAnyH_take (i := 19) (v := ?_) rfl (by kernel_rfl) (by kernel_rfl) (by kernel_rfl) (fun _ _ _ h => h) (Or.inl ⟨by rfl, ?_⟩) (by assumption) ?_
        rotate_left
        · intro w hSw; (try dsimp only at hSw); go_simp
          try (with_reducible rfl)
        simp only [Act.put, List.getElem_toArray, List.getElem_cons_zero, List.getElem_cons_succ, List.setIfInBounds_toArray, List.set_cons_zero, List.set_cons_succ]
        refine wpAnyH_take (i := 20) (v := ?_) rfl (by kernel_rfl) (by kernel_rfl) (by kernel_rfl) (fun _ _ _ h => h) (Or.inl ⟨by rfl, ?_⟩) (by assumption) ?_
        rotate_left
        · intro w hSw; (try dsimp only at hSw); go_simp
          try (with_reducible rfl)
        simp only [Act.put, List.getElem_toArray, List.getElem_cons_zero, List.getElem_cons_succ, List.setIfInBounds_toArray, List.set_cons_zero, List.set_cons_succ]
        refine wpAnyH_take (i := 21) (v := undef) rfl (by kernel_rfl) (by kernel_rfl) (by kernel_rfl) (fun _ _ _ h => h) (Or.inr ⟨by rfl, rfl⟩) (by assumption) ?_
        simp only [Act.put, List.getElem_toArray, List.getElem_cons_zero, List.getElem_cons_succ, List.setIfInBounds_toArray, List.set_cons_zero, List.set_cons_succ]
        refine wpAnyH_take (i := 22) (v := ?_) rfl (by kernel_rfl) (by kernel_rfl) (by kernel_rfl) (fun _ _ _ h => h) (Or.inl ⟨by rfl, ?_⟩) (by assumption) ?_
        rotate_left
        · intro w hSw; (try dsimp only at hSw); go_simp
          try (with_reducible rfl)
        simp only [Act.put, List.getElem_toArray, List.getElem_cons_zero, List.getElem_cons_succ, List.setIfInBounds_toArray, List.set_cons_zero, List.set_cons_succ]
        refine wpAnyH_take (i := 23) (v := ?_) rfl (by kernel_rfl) (by kernel_rfl) (by kernel_rfl) (fun _ _ _ h => h) (Or.inl ⟨by rfl, ?_⟩) (by assumption) ?_
        rotate_left
        · intro w hSw; (try dsimp only at hSw); go_simp
          try (with_reducible rfl)
        simp only [Act.put, List.getElem_toArray, List.getElem_cons_zero, List.getElem_cons_succ, List.setIfInBounds_toArray, List.set_cons_zero, List.set_cons_succ]
        refine wpAnyH_ready (rs := [24]) (by kernel_rfl) (by simp) ?_
        refine AllReadyH.cons rfl (fun K hK => ?_) AllReadyH.nil
        rw [if_pos (by rfl)]
        go_simp
        refine (newTurn_any src id un false ran _).mono ?_
        rintro e w5 ⟨T, rfl, hTs, hTA, hb5⟩
        obtain ⟨s0, s1, s2, d0, d1, d2, hf5, pv, d5⟩ := after_call hb5 c0 c1 c2 HC.out HCs.out hlt hgw
        dsimp only
        refine hK.out _ _ (by go_keep) (fun hHeld2 => ?_)
        clear hK K
        refine wpAnyH_take (i := 25) (v := ?_) rfl (by kernel_rfl) (by kernel_rfl) (by kernel_rfl) (fun _ _ _ h => h) (Or.inl ⟨by rfl, ?_⟩) (by assumption) ?_
        rotate_left
        · intro w hSw; (try dsimp only at hSw); go_simp
          try (with_reducible rfl)
        simp only [Act.put, List.getElem_toArray, List.getElem_cons_zero, List.getElem_cons_succ, List.setIfInBounds_toArray, List.set_cons_zero, List.set_cons_succ]
        refine wpAnyH_ready (rs := [26]) (by kernel_rfl) (by simp) ?_
        refine AllReadyH.cons rfl (fun K hK => ?_) AllReadyH.nil
        rw [if_pos (by rfl)]
        go_simp
        refine hK.out _ _ (by go_keep) (fun hHeld3 => ?_)
        clear hK K
        refine wpAnyH_done (by kernel_rfl) ?_ _
        all_goals
          have hb5' : Below wr.heap.size wr w5 := (Below.refl _ wr).drew.trans hb5
          have hta : TurnAt w5 T xs[k].1 xs[k].2.1 xs[k].2.2 (decide (k + 1 = xs.length) && has) ran := by rw [HX.out, decide_eq_false HL.out, Bool.false_and]; exact hTA
          have hstep := turns_step (hT.stay hb5') hlt hta
          have hbn : Below w.heap.size w (w5.setCell ⟨w.heap.size, k, none⟩ (.pointer (some ⟨T, 0, none⟩))) := (hb.trans (hb5'.mono hb.size)).setCell (p := ⟨w.heap.size, k, none⟩) (Nat.le_refl _) _
          clear hb5 hb5' hta hT hb c0 c1 c2 d0 d1 d2 d5 s0 s1 s2 hf5 hTA
          go_wp2
          go_roundw
          case rel => exact ⟨k + 1, by omega, by go_num, hstep, hbn⟩
          case measure => simp [intOf]; omega
    · obtain rfl : k = xs.length := by omega
      go_wp2
      go_ret
      exact ⟨w.heap.size, rfl, Nat.le_refl _, hT, hb⟩

end Go.Proofs.Qxb6615065a
