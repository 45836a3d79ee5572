/-
  Seat b6608600aD: writeExpr at an identifier.
-/
import Derived.Test.Qxb6608600aDoorBuilder
import Derived.Lib.Hide
namespace Go.Proofs.Qxb6608600aDoor
open Go.RowKit

theorem assert47 (v : Value) (w : World) : (Instr.typeAssert (.iface 27 v) 32 47 true).run Tryd.prog w = .ok (.tuple #[.pointer none, .bool false]) w := by kernel_rfl
theorem assert27 (v : Value) (w : World) : (Instr.typeAssert (.iface 27 v) 32 27 true).run Tryd.prog w = .ok (.tuple #[v, .bool true]) w := by kernel_rfl

set_option maxRecDepth 100000 in
set_option maxHeartbeats 4000000 in
theorem writeExpr_ident (B b I : Nat) (name : ByteArray) (bs : List Value) (w : World) (h : Lib.IsBuilderF 36 5 B b bs w) (cI : w.cell? ⟨I, 1, none⟩ = some (.string name))
    (hlen : bs.length + name.size ≤ 140737488355328) (hBw : B ≤ w.heap.size) :
    Calls Tryd.prog 12 #[.pointer (some ⟨b, 0, none⟩), .iface 27 (.pointer (some ⟨I, 0, none⟩))] w fun e w' => e = .returned (.tuple #[]) ∧ Lib.BuilderAtF 36 5 B b (.pointer (some ⟨b, 0, none⟩)) (bs ++ Lib.strCells name) w' ∧ Below B w w' := by
  have H := Lib.hid h
  clear h
  have h1 := assert47
  have h2 := assert27
  go_enter Tryd.func12, Tryd.ntmps12
  go_wp2_with fail
  refine (writeString_k B b bs name w H.out hlen hBw).mono ?_
  rintro e w1 ⟨rfl, hA, hb⟩
  have HA := Lib.hid hA
  have HB := Lib.hid hb
  clear hA hb cI
  go_wp2
  go_end0
  exact ⟨rfl, HA.out, HB.out⟩
end Go.Proofs.Qxb6608600aDoor
