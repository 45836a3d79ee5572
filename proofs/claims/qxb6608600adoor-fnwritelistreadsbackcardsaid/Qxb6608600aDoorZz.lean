/-
  Seat b6608600aD: ZZwriteList.
-/
import Derived.Test.Qxb6608600aDoorList
namespace Go.Proofs.Qxb6608600aDoor
open Go.RowKit

/-- The names in a slice of strings. -/
def Names (w : World) (v : Value) (xs : List ByteArray) : Prop :=
  ∃ ao c, v = .slice ao xs.length c ∧ xs.length ≤ c ∧ c ≤ maxLen ∧
    (0 < xs.length → ∃ g o, ao = some ⟨g, o, none⟩ ∧ ∀ j (h : j < xs.length), w.cell? ⟨g, o + j, none⟩ = some (.string xs[j]))

theorem Names.stay {w w' : World} {v : Value} {xs : List ByteArray} (h : Names w v xs) (hb : Below w.heap.size w w') : Names w' v xs := by
  obtain ⟨ao, c, rfl, hc1, hc2, hcell⟩ := h
  refine ⟨ao, c, rfl, hc1, hc2, fun hp => ?_⟩
  obtain ⟨g, o, rfl, hit⟩ := hcell hp
  have hgw : g < w.heap.size := World.block_lt_of_cell? _ _ (hit 0 hp)
  exact ⟨g, o, rfl, fun j hj => by rw [hb.cell (p := ⟨g, o + j, none⟩) hgw]; exact hit j hj⟩

theorem info32 : (Tryd.prog.info? 32).map (fun i => (i.zero, i.size, i.bytes)) = some (some .nilIface, 1, 16) := by kernel_rfl

/-- The first k of the identifiers stand in the row R. -/
def Built (w : World) (R : Nat) (xs : List ByteArray) (k : Nat) : Prop :=
  ∃ C : Array Value, w.heap[R]? = some (.cells C 32 (0, 0)) ∧ C.size = xs.length ∧
    ∀ j (h : j < xs.length), j < k → ∃ I, R < I ∧ I < w.heap.size ∧ C[j]? = some (.iface 27 (.pointer (some ⟨I, 0, none⟩))) ∧ w.cell? ⟨I, 1, none⟩ = some (.string xs[j])

theorem built_start (w : World) (xs : List ByteArray) : Built (w.alloc (.cells (madeCells #[.nilIface] xs.length) 32)) w.heap.size xs 0 :=
  ⟨_, (MapKept.heap_alloc w _).1, size_madeCells _ _, fun _ _ h => absurd h (Nat.not_lt_zero _)⟩

theorem built_step {w : World} {R k : Nat} {xs : List ByteArray} {p0 : Value} (h : Built w R xs k) (hk : k < xs.length) :
    Built ((w.alloc (.cells #[p0, .string xs[k]] 30)).setCell ⟨R, k, none⟩ (.iface 27 (.pointer (some ⟨w.heap.size, 0, none⟩)))) R xs (k + 1) := by
  obtain ⟨C, h1, h2, h3⟩ := h
  have hR : R < w.heap.size := (Array.getElem?_eq_some_iff.1 h1).1
  have h1' : (w.alloc (.cells #[p0, .string xs[k]] 30)).heap[R]? = some (.cells C 32 (0, 0)) := by rw [Lib.alloc_old w _ R hR]; exact h1
  refine ⟨_, heap_setCell_same _ R k C 32 _ h1', by simp [h2], fun j hj hjk => ?_⟩
  by_cases e : j = k
  · subst e
    refine ⟨w.heap.size, hR, by simp, by rw [Array.getElem?_setIfInBounds_self_of_lt (by omega)], ?_⟩
    rw [World.cell?_setCell_other _ _ _ _ (fun e => by have := congrArg Addr.block e; simp at this; omega)]
    rw [cell_of_row _ w.heap.size 1 _ 30 (0, 0) (MapKept.heap_alloc w _).1]
    rfl
  · obtain ⟨I, h4, h5, h6, h7⟩ := h3 j hj (by omega)
    refine ⟨I, h4, by simp; omega, by rw [Array.getElem?_setIfInBounds_ne (by omega)]; exact h6, ?_⟩
    rw [World.cell?_setCell_other _ _ _ _ (fun e => by have := congrArg Addr.block e; simp at this; omega), World.cell?_alloc_lt _ _ _ h5]
    exact h7

theorem built_row {w : World} {R k : Nat} {xs : List ByteArray} (h : Built w R xs k) (hk : k < xs.length) (O : Obj) :
    R < w.heap.size ∧ (w.alloc O).frozen? ⟨R, k, none⟩ = false ∧ ∃ pv, (w.alloc O).cell? ⟨R, k, none⟩ = some pv := by
  obtain ⟨C, h1, h2, h3⟩ := h
  have hR : R < w.heap.size := (Array.getElem?_eq_some_iff.1 h1).1
  have h1' : (w.alloc O).heap[R]? = some (.cells C 32 (0, 0)) := by rw [Lib.alloc_old w _ R hR]; exact h1
  exact ⟨hR, frozen_of_row _ R k C 32 h1', C[k], by rw [cell_of_row _ R k C 32 (0, 0) h1']; exact Array.getElem?_eq_getElem (by omega)⟩

theorem built_exprs {w : World} {R : Nat} {xs : List ByteArray} (h : Built w R xs xs.length) (O : Obj) : Exprs (w.alloc O) w.heap.size R xs := by
  obtain ⟨C, h1, h2, h3⟩ := h
  have hR : R < w.heap.size := (Array.getElem?_eq_some_iff.1 h1).1
  refine ⟨hR, fun j hj => ?_⟩
  obtain ⟨I, h4, h5, h6, h7⟩ := h3 j hj hj
  refine ⟨I, h5, ?_, by rw [World.cell?_alloc_lt _ _ _ h5]; exact h7⟩
  rw [World.cell?_alloc_lt _ _ _ hR, cell_of_row w R j C 32 (0, 0) h1]
  exact h6

/-- The text that is written. -/
def written (pre opn : ByteArray) (xs : List ByteArray) (cls : ByteArray) : ByteArray := ⟨(pre.data.toList ++ opn.data.toList ++ joinTo xs xs.length ++ cls.data.toList).toArray⟩

set_option maxHeartbeats 2000000 in
theorem zzWriteList_any (pre opn cls : ByteArray) (v : Value) (xs : List ByteArray) (w : World) (h : Names w v xs) (ht : pre.size ≤ 1048576) (ho : opn.size ≤ 1048576) (hc : cls.size ≤ 1048576) (hx : ∀ s ∈ xs, s.size ≤ 1048576) (hn : xs.length ≤ 65536 * 4) :
    Calls Tryd.prog 6 #[.string pre, .string opn, v, .string cls] w fun e w' =>
      e = .returned (.string (written pre opn xs cls)) ∧ Below w.heap.size w w' := by
  obtain ⟨ao, c, rfl, hc1, hc2, hcell⟩ := h
  have hc2' : c ≤ 9223372036854775807 := hc2
  have hmk := run_make_row' (P := Tryd.prog) 26 32 .nilIface 16 Tryd.underlying26 info32 rfl .i64 .i64 xs.length (by omega) (by omega)
  have hS0 := Lib.hid (built_start w xs)
  have HC := Lib.hid hcell
  clear hcell
  go_enter Tryd.func6, Tryd.ntmps6
  go_wp2
  go_loopw [17] (fun i wr => ∃ k : Nat, k ≤ xs.length ∧ i = .int .i64 k ∧ Hid (Built wr w.heap.size xs k) ∧ Hid (Below w.heap.size w wr)) (fun i _ => xs.length - (intOf i).toNat)
  case atStart => exact ⟨0, Nat.zero_le _, rfl, hS0, (Below.refl _ _).alloc (Nat.le_refl _) _⟩
  case round =>
    clear hmk hS0
    obtain ⟨k, hk, rfl, HT, HB⟩ := hrel
    by_cases hlt : k < xs.length
    · have hlt' : (k : Int) < (xs.length : Int) := by omega
      obtain ⟨g, o, rfl, hit⟩ := HC.out (by omega)
      have hgw : g < w.heap.size := World.block_lt_of_cell? _ _ (hit 0 (by omega))
      have ck : wr.cell? ⟨g, o + k, none⟩ = some (.string xs[k]) := by rw [HB.out.cell (p := ⟨g, o + k, none⟩) hgw]; exact hit k hlt
      obtain ⟨-, hf, pv, cp⟩ := built_row HT.out hlt (.cells #[.int .i64 0, .string xs[k]] 30)
      have hnext := Lib.hid (built_step (p0 := .int .i64 0) HT.out hlt)
      have hbn : Hid (Below w.heap.size w ((wr.alloc (.cells #[.int .i64 0, .string xs[k]] 30)).setCell ⟨w.heap.size, k, none⟩ (.iface 27 (.pointer (some ⟨wr.heap.size, 0, none⟩))))) :=
        (HB.out.alloc HB.out.size _).setCell (p := ⟨w.heap.size, k, none⟩) (Nat.le_refl _) _
      clear hit
      go_wp2
      go_roundw
      case rel => exact ⟨k + 1, by omega, by go_num, hnext, hbn⟩
      case measure => simp [intOf]; omega
    · obtain rfl : k = xs.length := by omega
      have hR : w.heap.size < wr.heap.size := (Array.getElem?_eq_some_iff.1 HT.out.choose_spec.1).1
      have hE := Lib.hid (built_exprs HT.out (.cells #[.pointer none, .slice none 0 0] 36))
      have hIs := Lib.hid (Lib.IsBuilderF.of (Lib.fresh_isBuilder 36 5 wr))
      have hpre : pre.data.toList.length ≤ 1048576 := by rw [data_len]; exact ht
      go_wp2_with fail
      refine (writeString_k wr.heap.size wr.heap.size [] pre _ hIs.out (by show 0 + _ ≤ _; omega) (by simp)).mono ?_
      rintro e w1 ⟨rfl, hA1, hb1⟩
      rw [List.nil_append, Lib.strCells_eq] at hA1
      have HA1 := Lib.hid hA1
      have HB1 := Lib.hid hb1
      have hs1 : wr.heap.size ≤ w1.heap.size := by have := hb1.size; simp at this; omega
      clear hA1 hb1
      go_wp2_with fail
      refine (writeList_any wr.heap.size wr.heap.size w.heap.size xs pre.data.toList opn cls w1 (Or.inr HA1.out) (hE.out.stay HB1.out) hs1 hpre ho hc hx hn).mono ?_
      rintro e w2 ⟨rfl, hA2, hb2⟩
      have HA2 := Lib.hid hA2
      have HB2 := Lib.hid hb2
      have hs2 : wr.heap.size ≤ w2.heap.size := Nat.le_trans hs1 hb2.size
      clear hA2 hb2
      go_wp2_with fail
      refine (Tryd.Builder_String_any_k wr.heap.size wr.heap.size _ w2 HA2.out hs2).mono ?_
      rintro e w3 ⟨he, -, hb3, -⟩
      replace he : e = .returned (.string (written pre opn xs cls)) := he
      subst he
      have hfin : Below w.heap.size w w3 := by
        have a := ((HB1.out.trans HB2.out).trans hb3).mono (Nat.le_of_lt hR)
        exact (HB.out.alloc HB.out.size _).trans a
      have HF := Lib.hid hfin
      clear hfin hb3 HB1 HB2 HA1 HA2 hIs hE
      go_wp2
      go_ret
      exact ⟨rfl, HF.out⟩
end Go.Proofs.Qxb6608600aDoor
