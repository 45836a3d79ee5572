/-
  Seat b6608600aD: writeList at a list of identifiers.
-/
import Derived.Test.Qxb6608600aDoorExpr
import Derived.Deep.OwnRows
namespace Go.Proofs.Qxb6608600aDoor
open Go.RowKit

/-- The first k names, two bytes between each two. -/
def joinTo (xs : List ByteArray) : Nat → List UInt8
  | 0 => []
  | k + 1 => joinTo xs k ++ ((if k = 0 then [] else [44, 32]) ++ (xs.getD k ⟨#[]⟩).data.toList)

theorem data_len (s : ByteArray) : s.data.toList.length = s.size := Array.length_toList

theorem joinTo_succ {xs : List ByteArray} {k : Nat} (h : k < xs.length) (t : List UInt8) : t ++ joinTo xs (k + 1) = t ++ joinTo xs k ++ (if k = 0 then [] else [44, 32]) ++ xs[k].data.toList := by
  have hgd : xs.getD k ⟨#[]⟩ = xs[k] := by simp [List.getD, h]
  simp only [joinTo, hgd, List.append_assoc]

theorem joinTo_len {xs : List ByteArray} (h : ∀ s ∈ xs, s.size ≤ 1048576) : ∀ k, (joinTo xs k).length ≤ k * 1048578
  | 0 => by simp [joinTo]
  | k + 1 => by
    have ih := joinTo_len h k
    have h1 : (if k = 0 then [] else [44, 32] : List UInt8).length ≤ 2 := by split <;> simp
    have h2 : (xs.getD k ⟨#[]⟩).data.toList.length ≤ 1048576 := by
      by_cases hk : k < xs.length
      · have h3 : xs.getD k ⟨#[]⟩ = xs[k] := by simp [List.getD, hk]
        rw [data_len, h3]
        exact h xs[k] (List.getElem_mem hk)
      · have h3 : xs.getD k ⟨#[]⟩ = ⟨#[]⟩ := by simp [List.getD, hk]
        rw [h3]
        exact Nat.zero_le _
    simp only [joinTo, List.length_append]
    omega

/-- A list of identifiers, all of it below B. -/
def Exprs (w : World) (B L : Nat) (xs : List ByteArray) : Prop :=
  L < B ∧ ∀ j (h : j < xs.length), ∃ I, I < B ∧ w.cell? ⟨L, j, none⟩ = some (.iface 27 (.pointer (some ⟨I, 0, none⟩))) ∧ w.cell? ⟨I, 1, none⟩ = some (.string xs[j])

theorem Exprs.stay {w w' : World} {B L : Nat} {xs : List ByteArray} (h : Exprs w B L xs) (hb : Below B w w') : Exprs w' B L xs := by
  refine ⟨h.1, fun j hj => ?_⟩
  obtain ⟨I, hI, h1, h2⟩ := h.2 j hj
  exact ⟨I, hI, by rw [hb.cell (p := ⟨L, j, none⟩) h.1]; exact h1, by rw [hb.cell (p := ⟨I, 1, none⟩) hI]; exact h2⟩

set_option maxHeartbeats 2000000 in
theorem writeList_any (B b L : Nat) (xs : List ByteArray) (t : List UInt8) (opn cls : ByteArray) (w : World) (h : Lib.IsBuilderF 36 5 B b (Lib.byteCells t) w) (hE : Exprs w B L xs) (hBw : B ≤ w.heap.size)
    (ht : t.length ≤ 1048576) (ho : opn.size ≤ 1048576) (hc : cls.size ≤ 1048576) (hx : ∀ s ∈ xs, s.size ≤ 1048576) (hn : xs.length ≤ 65536 * 4) :
    Calls Tryd.prog 9 #[.pointer (some ⟨b, 0, none⟩), .string opn, .slice (some ⟨L, 0, none⟩) xs.length xs.length, .string cls] w fun e w' =>
      e = .returned (.tuple #[]) ∧ Lib.IsBuilderF 36 5 B b (Lib.byteCells (t ++ opn.data.toList ++ joinTo xs xs.length ++ cls.data.toList)) w' ∧ Below B w w' := by
  have H := Lib.hid h
  have HE := Lib.hid hE
  clear h hE
  have hopn : opn.data.toList.length ≤ 1048576 := by rw [data_len]; exact ho
  have hJ : ∀ k, k ≤ xs.length → (joinTo xs k).length ≤ 65536 * 4 * 1048578 := fun k hk => Nat.le_trans (joinTo_len hx k) (Nat.mul_le_mul_right _ (by omega))
  have HJ := Lib.hid hJ
  clear hJ
  go_enter Tryd.func9, Tryd.ntmps9
  go_wp2_with fail
  refine (writeString_k B b _ opn w H.out (by rw [Lib.byteCells_length]; omega) hBw).mono ?_
  rintro e w1 ⟨rfl, hA, hb1⟩
  rw [Lib.strCells_eq, ← Lib.byteCells_append] at hA
  have HA := Lib.hid hA
  have HB1 := Lib.hid hb1
  clear hA hb1
  go_wp2_with fail
  go_loopw [15] (fun i wr => ∃ k : Nat, k ≤ xs.length ∧ i = .int .i64 k ∧ Hid (Lib.IsBuilderF 36 5 B b (Lib.byteCells (t ++ opn.data.toList ++ joinTo xs k)) wr) ∧ Hid (Below B w wr)) (fun i _ => xs.length - (intOf i).toNat)
  case atStart => exact ⟨0, Nat.zero_le _, rfl, by
    have e0 : t ++ opn.data.toList ++ joinTo xs 0 = t ++ opn.data.toList := List.append_nil _
    rw [e0]
    exact Or.inr HA.out, HB1.out⟩
  case round =>
    obtain ⟨k, hk, rfl, HI, HB⟩ := hrel
    have hBr : B ≤ wr.heap.size := Nat.le_trans hBw HB.out.size
    by_cases hlt : k < xs.length
    · have hlt' : (k : Int) < (xs.length : Int) := by omega
      obtain ⟨I, hI, c0, c1⟩ := (HE.out.stay HB.out).2 k hlt
      have hjk := HJ.out k hk
      have hsz : xs[k].size ≤ 1048576 := hx _ (List.getElem_mem hlt)
      by_cases hk0 : k = 0
      · subst hk0
        go_wp2_with fail
        refine (writeExpr_ident B b I xs[0] _ wr HI.out c1 (by rw [Lib.byteCells_length, List.length_append, List.length_append]; omega) hBr).mono ?_
        rintro e w3 ⟨rfl, hA3, hb3⟩
        rw [Lib.strCells_eq, ← Lib.byteCells_append] at hA3
        have hnext : Hid (Lib.IsBuilderF 36 5 B b (Lib.byteCells (t ++ opn.data.toList ++ joinTo xs 1)) w3) := by
          have e1 : t ++ opn.data.toList ++ joinTo xs 1 = t ++ opn.data.toList ++ joinTo xs 0 ++ xs[0].data.toList := by rw [joinTo_succ hlt, if_pos rfl, List.append_nil]
          rw [e1]; exact Or.inr hA3
        have hbn : Hid (Below B w w3) := HB.out.trans hb3
        clear hA3 hb3 c0 c1
        go_wp2
        go_roundw
        case rel => exact ⟨1, by omega, by go_num, hnext, hbn⟩
        case measure => simp [intOf]; omega
      · have hk0' : 0 < (k : Int) := by omega
        go_wp2_with fail
        refine (writeString_k B b _ ⟨#[44, 32]⟩ wr HI.out (by rw [Lib.byteCells_length, List.length_append, List.length_append]; show _ + 2 ≤ _; omega) hBr).mono ?_
        rintro e w2 ⟨rfl, hA2, hb2⟩
        rw [Lib.strCells_eq, ← Lib.byteCells_append] at hA2
        have HA2 := Lib.hid hA2
        have HB2 := Lib.hid hb2
        have c2 : w2.cell? ⟨I, 1, none⟩ = some (.string xs[k]) := by rw [hb2.cell (p := ⟨I, 1, none⟩) hI]; exact c1
        clear hA2 hb2 c0 c1
        go_wp2_with fail
        have hL2 : (Lib.byteCells (t ++ opn.data.toList ++ joinTo xs k ++ (⟨#[44, 32]⟩ : ByteArray).data.toList)).length + xs[k].size ≤ 140737488355328 := by
          have h2 : (⟨#[44, 32]⟩ : ByteArray).data.toList.length = 2 := rfl
          rw [Lib.byteCells_length, List.length_append, List.length_append, List.length_append, h2]
          omega
        refine (writeExpr_ident B b I xs[k] _ w2 (Or.inr HA2.out) c2 hL2 (Nat.le_trans hBr HB2.out.size)).mono ?_
        rintro e w3 ⟨rfl, hA3, hb3⟩
        rw [Lib.strCells_eq, ← Lib.byteCells_append] at hA3
        have hnext : Hid (Lib.IsBuilderF 36 5 B b (Lib.byteCells (t ++ opn.data.toList ++ joinTo xs (k + 1))) w3) := by
          have e1 : t ++ opn.data.toList ++ joinTo xs (k + 1) = t ++ opn.data.toList ++ joinTo xs k ++ [44, 32] ++ xs[k].data.toList := by rw [joinTo_succ hlt, if_neg hk0]
          rw [e1]; exact Or.inr hA3
        have hbn : Hid (Below B w w3) := (HB.out.trans HB2.out).trans hb3
        clear hA3 hb3 c2
        go_wp2
        go_roundw
        case rel => exact ⟨k + 1, by omega, by go_num, hnext, hbn⟩
        case measure => simp [intOf]; omega
    · obtain rfl : k = xs.length := by omega
      have hjk := HJ.out _ hk
      go_wp2_with fail
      refine (writeString_k B b _ cls wr HI.out (by rw [Lib.byteCells_length, List.length_append, List.length_append]; omega) hBr).mono ?_
      rintro e w3 ⟨rfl, hA3, hb3⟩
      rw [Lib.strCells_eq, ← Lib.byteCells_append] at hA3
      have HA3 := Lib.hid hA3
      have hbn : Hid (Below B w w3) := HB.out.trans hb3
      clear hA3 hb3
      go_wp2
      go_end0
      exact ⟨rfl, Or.inr HA3.out, hbn.out⟩
end Go.Proofs.Qxb6608600aDoor
