/-
  Seat b6614942a: slices of bytes as the two laws meet them: what a slice value reads as ('Src'); the contracts of zzCloneBytes, zzJoin, zzSameBytes.
-/
import Derived.Test.Qxb6614942aProg
import Derived.WalkKit
import Derived.Deep.OwnRows
import Derived.Laws.IdiomCopy
import Derived.Laws.CopyOwn
import Derived.Lib.BufferMore
import Derived.Deep.QuietTactic
import Derived.BigQuiet
namespace Go.Proofs.Qxb6614942a
open Go.RowKit

/-- Bytes as cells. -/
def B8 (zs : List Int) : List Value := zs.map (Value.int .u8)

theorem B8_length (zs : List Int) : (B8 zs).length = zs.length := by simp [B8]
theorem B8_append (zs ys : List Int) : B8 (zs ++ ys) = B8 zs ++ B8 ys := by simp [B8]
theorem B8_one (zs : List Int) : ∀ v ∈ B8 zs, v.oneCell' = true := by
  intro v hv
  simp only [B8, List.mem_map] at hv
  obtain ⟨z, -, rfl⟩ := hv
  rfl
theorem B8_at (zs : List Int) (j : Nat) (h : j < zs.length) : (B8 zs)[j]? = some (.int .u8 (zs[j]'h)) := by simp [B8, h]

/-- The slice value v reads in w as the bytes zs: nil only where there is none; its elements lie in a row of cells. -/
def Src (w : World) (v : Value) (zs : List Int) : Prop :=
  ∃ ao c, v = .slice ao zs.length c ∧ zs.length ≤ c ∧ c ≤ maxLen ∧ (ao = none → c = 0) ∧
    (zs ≠ [] → ∃ g o, ao = some ⟨g, o, none⟩ ∧ ∀ j (h : j < zs.length), w.cell? ⟨g, o + j, none⟩ = some (.int .u8 (zs[j]'h)))

theorem Src.stay {w w' : World} {v : Value} {zs : List Int} (h : Src w v zs) (hb : Below w.heap.size w w') : Src w' v zs := by
  obtain ⟨ao, c, rfl, h1, h2, h3, h4⟩ := h
  refine ⟨ao, c, rfl, h1, h2, h3, fun hz => ?_⟩
  obtain ⟨g, o, rfl, hc⟩ := h4 hz
  exact ⟨g, o, rfl, fun j hj => by rw [hb.cell (World.block_lt_of_cell? _ _ (hc j hj))]; exact hc j hj⟩

theorem Src.drewN {w : World} {v : Value} {zs : List Int} (h : Src w v zs) (n : Nat) : Src (w.drewN n) v zs := h

/-- The nil slice. -/
theorem src_nil (w : World) : Src w (.slice none 0 0) [] := ⟨none, 0, rfl, Nat.le_refl _, by decide, fun _ => rfl, fun h => absurd rfl h⟩

theorem src_of_own {w : World} {B : Nat} {v : Value} {zs : List Int} (h : w.ownsRow B 5 1 v zs.length (B8 zs)) : Src w v zs := by
  rcases h.2 with ⟨rfl, h0⟩ | ⟨g, cap, cur, rfl, -, hg, hnc, hcm, hcs, htk⟩
  · obtain rfl := List.eq_nil_of_length_eq_zero h0
    exact src_nil w
  · refine ⟨_, cap, rfl, hnc, hcm, (fun h => by cases h), (fun _ => ⟨g, 0, rfl, fun j hj => ?_⟩)⟩
    have hx := B8_at zs j hj
    rw [← htk, List.getElem?_take, if_pos (by omega)] at hx
    rw [Nat.zero_add]
    simp [World.cell?, hg]
    simpa using hx

theorem info5 : (Try.prog.info? 5).map (fun i => (i.zero, i.size, i.bytes)) = some (some (.int .u8 0), 1, 1) := by kernel_rfl
theorem size5 : (Try.prog.info? 5).map (·.size) = some 1 := by kernel_rfl

/-- 'copy' out of such a slice into a row of one's own: the row is spliced, below it nothing turns. -/
theorem run_copy_src {w : World} {v : Value} {zs : List Int} (h : Src w v zs) (g off dLen dCap : Nat) (cur : List Value)
    (hg : w.heap[g]? = some (.cells cur.toArray 5 (0, 0))) (hn : zs.length ≤ dLen) (hfit : off + zs.length ≤ cur.length) :
    ∃ w', (Builtin.copy_ #[22, 22] 3 #[.slice (some ⟨g, off, none⟩) dLen dCap, v]).run Try.prog w = .ok (.int .i64 zs.length) w' ∧
      w'.heap[g]? = some (.cells (splice cur off (B8 zs)).toArray 5 (0, 0)) ∧ Below g w w' := by
  obtain ⟨ao, c, rfl, -, -, -, h4⟩ := h
  by_cases hz : zs = []
  · subst hz
    refine ⟨w, ?_, by simpa [splice, B8] using hg, Below.refl _ _⟩
    have := run_copy_none (P := Try.prog) w 22 22 3 5 (some ⟨g, off, none⟩) ao dLen dCap 0 c Try.underlying22 size5 (by simp)
    simpa [goInt] using this
  · obtain ⟨g', o', rfl, hc⟩ := h4 hz
    have hsrc : ∀ j v, (B8 zs)[j]? = some v → w.cell? ((⟨g', o', none⟩ : Addr).add j) = some v := fun j v hj => by
      have hlt : j < zs.length := by
        have := (List.getElem?_eq_some_iff.1 hj).1
        rwa [B8_length] at this
      rw [B8_at zs j hlt] at hj
      rw [Lib.addr_add, hc j hlt]
      exact hj
    refine ⟨w.setRow g (splice cur off (B8 zs)).toArray, ?_, ?_, below_setRow (Below.refl _ _) (Nat.le_refl _) _⟩
    · have := run_copy_row (P := Try.prog) w 22 22 3 5 g off dLen dCap ⟨g', o', none⟩ zs.length c cur.toArray 5 (B8 zs) Try.underlying22 size5 hg (by rw [B8_length]; exact (Nat.min_eq_left hn).symm) hsrc (by rw [B8_length]; simpa using hfit) (B8_one zs)
      simpa [splice, List.append_assoc, B8_length, goInt] using this
    · have := setRow_heap w g cur.toArray (splice cur off (B8 zs)).toArray 5 (0, 0) hg
      exact this

theorem made_list (n : Nat) : (madeCells #[.int .u8 0] n) = (List.replicate n (Value.int .u8 0)).toArray := by
  apply Array.ext'
  simp only [madeCells]
  apply List.ext_getElem
  · simp
  · intro i h1 h2
    simp [Nat.mod_one]

theorem splice_all (zs : List Int) : splice (List.replicate zs.length (Value.int .u8 0)) 0 (B8 zs) = B8 zs := by
  simp [splice, B8]

/-- zzCloneBytes: a copy of one's own. -/
theorem clone_any {w : World} {v : Value} {zs : List Int} (h : Src w v zs) (hl : zs.length ≤ 1048576) :
    Calls Try.prog 6 #[v] w fun e w' => ∃ v', e = .returned v' ∧ w'.ownsRow w.heap.size 5 1 v' zs.length (B8 zs) ∧ Below w.heap.size w w' := by
  have h' := h
  obtain ⟨ao, c, rfl, h1, h2, h3, -⟩ := h'
  cases ao with
  | none =>
    obtain rfl := h3 rfl
    obtain rfl : zs = [] := List.eq_nil_of_length_eq_zero (by omega)
    have he := fun w => Lib.run_eql_slice_nil_nil (P := Try.prog) w (t := 22) 0 0 Try.underlying22
    go_enter Try.func6, Try.ntmps6
    go_wp2
    go_ret
    exact ⟨_, rfl, World.ownsRow_nil _ _ _ _, Below.refl _ _⟩
  | some a =>
    have he := fun w => Lib.run_eql_slice_some_nil (P := Try.prog) w (t := 22) a zs.length c Try.underlying22
    have hmk := run_make_row' (P := Try.prog) 22 5 (.int .u8 0) 1 Try.underlying22 info5 rfl .i64 .i64 zs.length (by omega) (by omega)
    have hs1 : Src (w.alloc (.cells (madeCells #[.int .u8 0] zs.length) 5)) (.slice (some a) zs.length c) zs :=
      h.stay ((Below.refl _ _).alloc (Nat.le_refl _) _)
    have hg1 : (w.alloc (.cells (madeCells #[.int .u8 0] zs.length) 5)).heap[w.heap.size]? = some (.cells (List.replicate zs.length (Value.int .u8 0)).toArray 5 (0, 0)) := by
      rw [← made_list]; exact (MapKept.heap_alloc w _).1
    obtain ⟨w2, hcp, hg2, hb2⟩ := run_copy_src hs1 w.heap.size 0 zs.length zs.length _ hg1 (Nat.le_refl _) (by simp)
    rw [splice_all] at hg2
    have hb : Below w.heap.size w w2 := ((Below.refl _ w).alloc (Nat.le_refl _) _).trans hb2
    clear hs1 hg1 hb2 h3 h
    go_enter Try.func6, Try.ntmps6
    go_wp2
    go_ret
    refine ⟨_, rfl, ⟨by simp [B8], .inr ⟨w.heap.size, zs.length, _, rfl, Nat.le_refl _, hg2, Nat.le_refl _, Nat.le_trans h1 h2, by simp [B8], List.take_of_length_le (by simp [B8])⟩⟩, hb⟩

/-- What the length of such a value is. -/
theorem Src.form {w : World} {v : Value} {zs : List Int} (h : Src w v zs) : ∃ ao c, v = .slice ao zs.length c ∧ zs.length ≤ c := by
  obtain ⟨ao, c, rfl, h1, -⟩ := h
  exact ⟨ao, c, rfl, h1⟩

theorem splice_two (zs ys : List Int) : splice (splice (List.replicate (zs.length + ys.length) (Value.int .u8 0)) 0 (B8 zs)) zs.length (B8 ys) = B8 (zs ++ ys) := by
  have h1 : splice (List.replicate (zs.length + ys.length) (Value.int .u8 0)) 0 (B8 zs) = B8 zs ++ List.replicate ys.length (Value.int .u8 0) := by
    simp [splice, B8]
  rw [h1, B8_append]
  simp [splice, B8]

/-- zzJoin: a new row that holds the one and then the other. -/
theorem join_any {w : World} {va vb : Value} {zs ys : List Int} (ha : Src w va zs) (hb : Src w vb ys) (hla : zs.length ≤ 1048576) (hlb : ys.length ≤ 1048576) :
    Calls Try.prog 7 #[va, vb] w fun e w' => ∃ v', e = .returned v' ∧ w'.ownsRow w.heap.size 5 1 v' (zs ++ ys).length (B8 (zs ++ ys)) ∧ Below w.heap.size w w' := by
  have hmk := run_make_row' (P := Try.prog) 22 5 (.int .u8 0) 1 Try.underlying22 info5 rfl .i64 .i64 (zs.length + ys.length) (by omega) (by omega)
  have hb1 : Below w.heap.size w (w.alloc (.cells (madeCells #[.int .u8 0] (zs.length + ys.length)) 5)) := (Below.refl _ _).alloc (Nat.le_refl _) _
  have hg1 : (w.alloc (.cells (madeCells #[.int .u8 0] (zs.length + ys.length)) 5)).heap[w.heap.size]? = some (.cells (List.replicate (zs.length + ys.length) (Value.int .u8 0)).toArray 5 (0, 0)) := by
    rw [← made_list]; exact (MapKept.heap_alloc w _).1
  obtain ⟨w2, hcp, hg2, hb2⟩ := run_copy_src (ha.stay hb1) w.heap.size 0 (zs.length + ys.length) (zs.length + ys.length) _ hg1 (by omega) (by simp)
  have hbw2 := hb1.trans hb2
  have hcur : (splice (List.replicate (zs.length + ys.length) (Value.int .u8 0)) 0 (B8 zs)).length = zs.length + ys.length := by
    rw [length_splice _ _ _ (by simp [B8])]; simp
  obtain ⟨aa, ca, rfl, hca⟩ := ha.form
  by_cases hy : ys = []
  · subst hy
    obtain ⟨ab, cb, rfl, hcb⟩ := hb.form
    have hcn : ∀ d dl dc, (Builtin.copy_ #[22, 22] 3 #[.slice d dl dc, .slice ab 0 cb]).run Try.prog w2 = .ok (.int .i64 0) w2 := fun d dl dc => by
      have := run_copy_none (P := Try.prog) w2 22 22 3 5 d ab dl dc 0 cb Try.underlying22 size5 (by simp)
      simpa [goInt] using this
    have e0 : zs.length + ([] : List Int).length = zs.length := rfl
    rw [e0] at hmk hcp hg2
    rw [splice_all] at hg2
    clear hb1 hg1 hb2 hcur ha hb
    go_enter Try.func7, Try.ntmps7
    go_wp2
    go_ret
    refine ⟨_, rfl, ⟨by simp [B8], .inr ⟨w.heap.size, zs.length, _, by simp, Nat.le_refl _, hg2, by simp, by unfold maxLen; omega, by simp [B8], ?_⟩⟩, hbw2⟩
    simp [B8, List.take_of_length_le]
  · have ec : ((zs.length + ys.length : Nat) : Int) = (zs.length : Int) + (ys.length : Int) := by omega
    rw [ec] at hmk
    obtain ⟨w3, hcp3, hg3, hb3⟩ := run_copy_src (hb.stay hbw2) w.heap.size zs.length ys.length ys.length _ hg2 (Nat.le_refl _) (by rw [hcur]; exact Nat.le_refl _)
    rw [splice_two] at hg3
    obtain ⟨ab, cb, rfl, hcb⟩ := hb.form
    have hbw3 := hbw2.trans hb3
    clear hb1 hg1 hb2 hcur ha hb hg2 hb3 ec hbw2
    go_enter Try.func7, Try.ntmps7
    go_wp2
    go_ret
    refine ⟨_, rfl, ⟨by simp [B8], .inr ⟨w.heap.size, zs.length + ys.length, _, by simp, Nat.le_refl _, hg3, by simp, by unfold maxLen; omega, by simp [B8], List.take_of_length_le (by simp [B8])⟩⟩, hbw3⟩

/-- zzSameBytes at two slices that read alike: true. -/
theorem same_any {w : World} {va vb : Value} {zs : List Int} (ha : Src w va zs) (hb : Src w vb zs) (hla : zs.length ≤ 2097152) :
    Calls Try.prog 13 #[va, vb] w fun e w' => e = .returned (.bool true) ∧ ∃ n, w' = w.drewN n := by
  by_cases hz : zs = []
  · subst hz
    obtain ⟨aa, ca, rfl, hca⟩ := ha.form
    obtain ⟨ab, cb, rfl, hcb⟩ := hb.form
    go_enter Try.func13, Try.ntmps13
    go_wp2
    refine wp_loop_rounds 1 ?_
    rw [rounds_succ]
    go_wp2
    go_ret
    exact ⟨rfl, 0, rfl⟩
  · obtain ⟨aa, ca, rfl, ha1, ha2, -, ha3⟩ := ha
    obtain ⟨ga, oa, rfl, ha4⟩ := ha3 hz
    obtain ⟨ab, cb, rfl, hb1, hb2, -, hb3⟩ := hb
    obtain ⟨gb, ob, rfl, hb4⟩ := hb3 hz
    clear ha3 hb3
    go_enter Try.func13, Try.ntmps13
    go_wp2
    go_loopw [5] (fun i wr => ∃ k n : Nat, k ≤ zs.length ∧ i = .int .i64 k ∧ wr = w.drewN n) (fun i _ => zs.length - (intOf i).toNat)
    case atStart => exact ⟨0, 0, Nat.zero_le _, rfl, rfl⟩
    case round =>
      obtain ⟨k, n, hk, rfl, rfl⟩ := hrel
      by_cases hlt : k < zs.length
      · have hca := ha4 k hlt
        have hcb := hb4 k hlt
        have hlt' : (k : Int) < (zs.length : Int) := by omega
        go_wp2
        go_quiet (fail)
        go_wp2
        go_roundw
        case rel => exact ⟨k + 1, _, by omega, by go_num, rfl⟩
        case measure => simp [intOf]; omega
      · go_wp2
        go_ret
        exact ⟨rfl, n, rfl⟩

end Go.Proofs.Qxb6614942a
