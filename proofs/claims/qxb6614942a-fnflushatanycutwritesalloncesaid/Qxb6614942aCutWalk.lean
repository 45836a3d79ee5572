/-
  Seat b6614942a: the walk of FnFlushAtAnyCutWritesAllOnce, at whatever comes in.
-/
import Derived.Test.Qxb6614942aCut
import Derived.Test.Qxb6614942aRow
namespace Go.Proofs.Qxb6614942a.fnFlushAtAnyCutWritesAllOnce
open Go.RowKit

theorem walk (a0 : Option Addr) (len0 cap0 : Nat) (z0 : List Int) (a1 : Option Addr) (len1 cap1 : Nat) (z1 : List Int) (a2 : ByteArray) (a3 : Int) (a4 : Int) (w : World) (w0 : IsRow .u8 w a0 len0 cap0 z0) (w1 : IsRow .u8 w a1 len1 cap1 z1) (w2 : a2.size ≤ maxLen) (_w3 : (Lit.int .i64 a3).wf = true) (_w4 : (Lit.int .i64 a4).wf = true) :
    Calls Try.prog 3 #[.slice a0 len0 cap0, .slice a1 len1 cap1, .string a2, .int .i64 a3, .int .i64 a4] w fun e w' => e = .returned (.bool true) ∧ Below w.heap.size w w' := by
  obtain ⟨ds, rfl, hd⟩ := src_of_row w0
  obtain ⟨bs, rfl, hb⟩ := src_of_row w1
  obtain ⟨_, _, e0, h0, h0', -⟩ := id hd
  obtain ⟨_, _, e1, h1, h1', -⟩ := id hb
  by_cases hbig : 262144 < ds.length ∨ 262144 < bs.length ∨ 262144 < a2.size ∨ a4 < 0 ∨ (bs.length : Int) < a4
  · exact cut_big a0 a1 ds.length cap0 bs.length cap1 a2 a3 a4 (Nat.le_trans h0 h0') (Nat.le_trans h1 h1') w2 hbig
  · have hk : a4.toNat ≤ bs.length := by omega
    have hl : (bs.take a4.toNat).length = a4.toNat := by rw [List.length_take]; omega
    have ha : a4 = ((bs.take a4.toNat).length : Int) := by rw [hl]; omega
    have := cut_small (fs := bs.take a4.toNat) (gs := bs.drop a4.toNat) a2 a3 hd hb (by omega) (by omega) (by omega) (List.take_append_drop _ _) (by rw [hl]; exact hk) (by rw [hl, List.length_drop])
    rw [← ha] at this
    exact this

end Go.Proofs.Qxb6614942a.fnFlushAtAnyCutWritesAllOnce
