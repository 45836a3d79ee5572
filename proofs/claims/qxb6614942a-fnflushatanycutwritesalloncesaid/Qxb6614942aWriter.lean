/-
  Seat b6614942a: the contracts of the buffer's and the jsonWriter's functions as the two laws call them.
-/
import Derived.Test.Qxb6614942aBytes
import Derived.Test.Qxb6614942aShelf
import Derived.Deep.RegionWith
import Derived.Lib.BufferOld
import Derived.Lib.BufferKept
import Derived.RegionTactic
namespace Go.Proofs.Qxb6614942a
open Go.RowKit

/-- (*bytes.Buffer).Write at a slice without an element, nil or not. -/
theorem write_none (B b : Nat) (bs : List Value) (ao : Option Addr) (c : Nat) (w : World) (h : Lib.IsBuffer 48 5 B b bs w) :
    Calls Try.prog 37 #[.pointer (some ⟨b, 0, none⟩), .slice ao 0 c] w fun e w' => e = .returned (.tuple #[.int .i64 0, .nilIface]) ∧ Lib.IsBuffer 48 5 B b bs w' ∧ Below B w w' ∧ Lib.OthersKept 5 (some b) w w' ∧ w.grownBy w' (some b) := by
  obtain ⟨hB, v0, lr, hbk, -, -⟩ := id h
  have c2 : w.cell? ⟨b, 2, none⟩ = some (.int .i8 lr) := by rw [Lib.cell_of_heap hbk]; rfl
  have f2 : w.frozen? ⟨b, 2, none⟩ = false := Lib.frozen_of_heap hbk 2
  have h' := h.setLast 0
  have hbel0 : Below B w (w.setCell ⟨b, 2, none⟩ (.int .i8 0)) := (Below.refl B w).setCell (p := ⟨b, 2, none⟩) hB _
  have hk0 : Lib.OthersKept 5 (some b) w (w.setCell ⟨b, 2, none⟩ (.int .i8 0)) := (Lib.OthersKept.refl _ _ w).setCell ⟨b, 2, none⟩ rfl _
  have hg0 : w.grownBy (w.setCell ⟨b, 2, none⟩ (.int .i8 0)) (some b) := Lib.grownBy_setCell w b 2 _
  clear hbk v0
  have hce : ∀ d dLen dCap W, (Builtin.copy_ #[22, 22] 3 #[.slice d dLen dCap, .slice ao 0 c]).run Try.prog W = .ok (.int .i64 0) W := fun d dLen dCap W => by
    have := run_copy_none (P := Try.prog) W 22 22 3 5 d ao dLen dCap 0 c Try.underlying22 size5 (by simp)
    simpa [goInt] using this
  have hT : ∀ W, Lib.IsBuffer 48 5 B b bs W → Calls Try.prog 38 #[.pointer (some ⟨b, 0, none⟩), .int .i64 0] W _ := fun W hW => Try.Buffer_tryGrow_own B b 0 bs W hW
  go_enter Try.func37, Try.ntmps37
  go_wp2_with (go_at_call 38; refine (hT _ ?_).mono ?_)
  · exact h'
  rintro e W1 (⟨rfl, xs, hxl, hI, hbel, hk, hg⟩ | ⟨rfl, rfl, hnr⟩)
  · clear h' c2 f2 hT
    have hx0 : xs = [] := List.eq_nil_of_length_eq_zero hxl
    subst hx0
    rw [List.append_nil] at hI
    obtain ⟨-, lr2, hc⟩ := hI.cases
    rcases hc with ⟨hb0, hbk2⟩ | ⟨g, cap, cur, hbk2, -, -, hnc, hcm, -, -, -⟩
    · subst hb0
      have d0 : W1.cell? ⟨b, 0, none⟩ = some (.slice none 0 0) := by rw [Lib.cell_of_heap hbk2]; rfl
      go_wp2
      all_goals (go_ret2; first | exact ⟨rfl, hI, hbel0.trans hbel, hk0.trans hk, Lib.grownBy_trans hg0 hg⟩ | exact ⟨by simp, by simpa using hI, hbel0.trans hbel, hk0.trans hk, Lib.grownBy_trans hg0 hg⟩)
    · have d0 : W1.cell? ⟨b, 0, none⟩ = some (.slice (some ⟨g, 0, none⟩) bs.length cap) := by rw [Lib.cell_of_heap hbk2]; rfl
      unfold maxLen at hcm
      go_wp2
      all_goals (go_ret2; first | exact ⟨rfl, hI, hbel0.trans hbel, hk0.trans hk, Lib.grownBy_trans hg0 hg⟩ | exact ⟨by simp, by simpa using hI, hbel0.trans hbel, hk0.trans hk, Lib.grownBy_trans hg0 hg⟩)
  · obtain ⟨_, _, _, _, hlt⟩ := hnr
    omega

/-- (*bytes.Buffer).Write at whatever slice reads as zs, but for one that lies in the buffer's own block. -/
theorem write_src {B b : Nat} {bs : List Value} {v : Value} {zs : List Int} {w : World} (h : Lib.IsBuffer 48 5 B b bs w) (hBw : B ≤ w.heap.size) (h1 : ∀ v ∈ bs, v.oneCell' = true)
    (hs : Src w v zs) (hne : v.ownBlock ≠ some b) (hlim : bs.length + zs.length ≤ 140737488355328) :
    Calls Try.prog 37 #[.pointer (some ⟨b, 0, none⟩), v] w fun e w' => e = .returned (.tuple #[.int .i64 zs.length, .nilIface]) ∧ Lib.IsBuffer 48 5 B b (bs ++ B8 zs) w' ∧ Below B w w' ∧ Lib.OthersKept 5 (some b) w w' := by
  obtain ⟨ao, c, rfl, -, -, -, h4⟩ := hs
  by_cases hz : zs = []
  · subst hz
    refine (write_none B b bs ao c w h).mono ?_
    rintro e w' ⟨rfl, h2, h3, h4, -⟩
    exact ⟨rfl, by simpa [B8] using h2, h3, h4⟩
  · obtain ⟨g, o, rfl, hc⟩ := h4 hz
    refine Try.Buffer_Write_any B b bs (B8 zs) ⟨g, o, none⟩ zs.length c w h hBw h1 (B8_length zs) (fun e => hne (by simp [Value.ownBlock]; exact e)) (fun j v hj => ?_) (B8_one zs) hlim
    have hlt : j < zs.length := by
      have := (List.getElem?_eq_some_iff.1 hj).1
      rwa [B8_length] at this
    rw [B8_at zs j hlt] at hj
    rw [Lib.addr_add, hc j hlt]
    exact hj

/-- ZZnewBuffer over a row of one's own. -/
theorem newBuffer_any (B : Nat) (v : Value) (zs : List Int) (w : World) (h : w.ownsRow B 5 1 v zs.length (B8 zs)) (hB : B ≤ w.heap.size) :
    Calls Try.prog 8 #[v] w fun e w' => e = .returned (.pointer (some ⟨w.heap.size, 0, none⟩)) ∧ Lib.IsBuffer 48 5 B w.heap.size (B8 zs) w' ∧ Below w.heap.size w w' ∧ w'.heap.size = w.heap.size + 1 := by
  have hfin : Lib.IsBuffer 48 5 B w.heap.size (B8 zs) (w.alloc (.cells #[v, .int .i64 0, .int .i8 0] 48)) := by
    have hb : Below w.heap.size w (w.alloc (.cells #[v, .int .i64 0, .int .i8 0] 48)) := (Below.refl _ _).alloc (Nat.le_refl _) _
    refine ⟨hB, v, 0, (MapKept.heap_alloc w _).1, ?_, ?_⟩
    · rw [B8_length]
      refine ⟨h.1, ?_⟩
      rcases h.2 with h2 | ⟨g, cap, cur, rfl, h3, h4, h5⟩
      · exact .inl h2
      · exact .inr ⟨g, cap, cur, rfl, h3, by rw [hb.block g (Lib.lt_of_heap h4)]; exact h4, h5⟩
    · rcases h.2 with ⟨rfl, -⟩ | ⟨g, cap, cur, rfl, -, h4, -⟩
      · simp [Value.ownBlock]
      · simp [Value.ownBlock]
        exact Nat.ne_of_lt (Lib.lt_of_heap h4)
  have hfb : Below w.heap.size w (w.alloc (.cells #[v, .int .i64 0, .int .i8 0] 48)) := (Below.refl _ _).alloc (Nat.le_refl _) _
  have hfs : (w.alloc (.cells #[v, .int .i64 0, .int .i8 0] 48)).heap.size = w.heap.size + 1 := by simp
  obtain ⟨ao, c, rfl, -⟩ := (src_of_own h).form
  go_enter Try.func8, Try.ntmps8
  go_wp2
  go_ret
  exact ⟨rfl, hfin, hfb, hfs⟩

end Go.Proofs.Qxb6614942a
