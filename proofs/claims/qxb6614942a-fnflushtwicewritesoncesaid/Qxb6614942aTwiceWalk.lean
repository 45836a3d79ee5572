/-
  Seat b6614942a: the walk of FnFlushTwiceWritesOnce, at whatever comes in.
-/
import Derived.Test.Qxb6614942aTwice
import Derived.Test.Qxb6614942aRow
namespace Go.Proofs.Qxb6614942a.fnFlushTwiceWritesOnce
open Go.RowKit

theorem walk (a0 : Option Addr) (len0 cap0 : Nat) (z0 : List Int) (a1 : Option Addr) (len1 cap1 : Nat) (z1 : List Int) (a2 : ByteArray) (a3 : Int) (w : World) (w0 : IsRow .u8 w a0 len0 cap0 z0) (w1 : IsRow .u8 w a1 len1 cap1 z1) (w2 : a2.size ≤ maxLen) (_w3 : (Lit.int .i64 a3).wf = true) :
    Calls Try.prog 4 #[.slice a0 len0 cap0, .slice a1 len1 cap1, .string a2, .int .i64 a3] w fun e w' => e = .returned (.bool true) ∧ Below w.heap.size w w' := by
  obtain ⟨ds, rfl, hd⟩ := src_of_row w0
  obtain ⟨bs, rfl, hb⟩ := src_of_row w1
  obtain ⟨_, _, e0, h0, h0', -⟩ := id hd
  obtain ⟨_, _, e1, h1, h1', -⟩ := id hb
  by_cases hbig : 262144 < ds.length ∨ 262144 < bs.length ∨ 262144 < a2.size
  · exact twice_big a0 a1 ds.length cap0 bs.length cap1 a2 a3 (Nat.le_trans h0 h0') (Nat.le_trans h1 h1') w2 hbig
  · exact twice_small a2 a3 hd hb (by omega) (by omega) (by omega)

end Go.Proofs.Qxb6614942a.fnFlushTwiceWritesOnce
