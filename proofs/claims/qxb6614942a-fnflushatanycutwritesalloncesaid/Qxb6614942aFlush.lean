/-
  Seat b6614942a: the jsonWriter: ZZnewJSONWriter, ZZflush, the getters; ZZbufferBytes.
-/
import Derived.Test.Qxb6614942aWriter
namespace Go.Proofs.Qxb6614942a
open Go.RowKit

/-- The jsonWriter in block jw: it writes to the buffer in block b, holds the slice v, its indent and its count. -/
def JW (jw b : Nat) (v : Value) (ind : ByteArray) (n : Int) (w : World) : Prop :=
  w.heap[jw]? = some (.cells #[.iface 26 (.pointer (some ⟨b, 0, none⟩)), v, .string ind, .int .i64 n] 42 (0, 0))

theorem JW.stay {jw b : Nat} {v : Value} {ind : ByteArray} {n : Int} {w w' : World} (h : JW jw b v ind n w) (hb : Below w.heap.size w w') : JW jw b v ind n w' := by
  unfold JW at h ⊢
  rw [hb.block jw (Lib.lt_of_heap h)]
  exact h

theorem newWriter_any (b : Nat) (v : Value) (zs : List Int) (ind : ByteArray) (n : Int) (w : World) (h : Src w v zs) :
    Calls Try.prog 9 #[.pointer (some ⟨b, 0, none⟩), v, .string ind, .int .i64 n] w fun e w' => e = .returned (.pointer (some ⟨w.heap.size, 0, none⟩)) ∧ JW w.heap.size b v ind n w' ∧ Below w.heap.size w w' ∧ w'.heap.size = w.heap.size + 1 := by
  have hj : JW w.heap.size b v ind n (w.alloc (.cells #[.iface 26 (.pointer (some ⟨b, 0, none⟩)), v, .string ind, .int .i64 n] 42)) := (MapKept.heap_alloc w _).1
  have hfb : Below w.heap.size w (w.alloc (.cells #[.iface 26 (.pointer (some ⟨b, 0, none⟩)), v, .string ind, .int .i64 n] 42)) := (Below.refl _ _).alloc (Nat.le_refl _) _
  have hfs : (w.alloc (.cells #[.iface 26 (.pointer (some ⟨b, 0, none⟩)), v, .string ind, .int .i64 n] 42)).heap.size = w.heap.size + 1 := by simp
  obtain ⟨ao, c, rfl, -⟩ := h.form
  go_enter Try.func9, Try.ntmps9
  go_wp2
  go_ret
  exact ⟨rfl, hj, hfb, hfs⟩

/-- A store into the jsonWriter's block leaves the buffer a buffer. -/
theorem buffer_setJW {B b jw i : Nat} {bs : List Value} {cs : Array Value} {fr : Nat × Nat} {w : World} (h : Lib.IsBuffer 48 5 B b bs w) (hj : w.heap[jw]? = some (.cells cs 42 fr)) (x : Value) :
    Lib.IsBuffer 48 5 B b bs (w.setCell ⟨jw, i, none⟩ x) := by
  obtain ⟨hB, v, lr, hbk, hown, hne⟩ := h
  have hjb : b ≠ jw := by
    intro e
    rw [e, hj] at hbk
    injection hbk with hbk
    injection hbk with _ h2 _
    cases h2
  have hvj : v.ownBlock ≠ some jw := by
    rcases hown.2 with ⟨rfl, -⟩ | ⟨g, cap, cur, rfl, -, hg, -⟩
    · simp [Value.ownBlock]
    · simp [Value.ownBlock]
      intro e
      rw [e, hj] at hg
      injection hg with hg
      injection hg with _ h2 _
      cases h2
  exact ⟨hB, v, lr, by rw [Below.heap_setCell _ _ _ _ hjb]; exact hbk, hown.kept (Lib.grownBy_setCell w jw i _) (Or.inr hvj), hne⟩

/-- Every block but the two, and but rows of bytes, stands as it stood. -/
def Others (b jw : Nat) (w w' : World) : Prop := ∀ k o, w.heap[k]? = some o → k ≠ b → k ≠ jw → (∀ c fz, o ≠ .cells c 5 fz) → w'.heap[k]? = some o

/-- Every block but the two stands as it stood. -/
def All2 (b jw : Nat) (w w' : World) : Prop := ∀ k, k < w.heap.size → k ≠ b → k ≠ jw → w'.heap[k]? = w.heap[k]?

theorem setJW_other (w1 : World) (jw : Nat) (x1 x3 : Value) (k : Nat) (h : k ≠ jw) : ((w1.setCell ⟨jw, 3, none⟩ x3).setCell ⟨jw, 1, none⟩ x1).heap[k]? = w1.heap[k]? := by
  rw [Below.heap_setCell _ _ _ _ h, Below.heap_setCell _ _ _ _ h]

/-- Behind the two stores. -/
theorem flush_end {B b jw : Nat} {bs : List Value} {i0 v s0 k0 x1 x3 : Value} {w1 : World} (hI : Lib.IsBuffer 48 5 B b bs w1) (hj : w1.heap[jw]? = some (.cells #[i0, v, s0, k0] 42 (0, 0))) (hBj : B ≤ jw) :
    Lib.IsBuffer 48 5 B b bs ((w1.setCell ⟨jw, 3, none⟩ x3).setCell ⟨jw, 1, none⟩ x1) ∧ ((w1.setCell ⟨jw, 3, none⟩ x3).setCell ⟨jw, 1, none⟩ x1).heap[jw]? = some (.cells #[i0, x1, s0, x3] 42 (0, 0)) ∧
      Below B w1 ((w1.setCell ⟨jw, 3, none⟩ x3).setCell ⟨jw, 1, none⟩ x1) := by
  have h1 : (w1.setCell ⟨jw, 3, none⟩ x3).heap[jw]? = some (.cells #[i0, v, s0, x3] 42 (0, 0)) := Lib.heap_setCell_same (i := 3) hj x3
  have h2 : ((w1.setCell ⟨jw, 3, none⟩ x3).setCell ⟨jw, 1, none⟩ x1).heap[jw]? = some (.cells #[i0, x1, s0, x3] 42 (0, 0)) := Lib.heap_setCell_same (i := 1) h1 x1
  exact ⟨buffer_setJW (buffer_setJW hI hj x3) h1 x1, h2, ((Below.refl B w1).setCell (p := ⟨jw, 3, none⟩) hBj _).setCell (p := ⟨jw, 1, none⟩) hBj _⟩

theorem method_write (a : Addr) (w : World) : (method 183 26 (.pointer (some a)) "Write").run Try.prog w = .ok (37, .pointer (some a)) w := by kernel_rfl

theorem flush_any (B b jw : Nat) (bs : List Value) (v : Value) (zs : List Int) (ind : ByteArray) (n : Int) (w : World) (h : Lib.IsBuffer 48 5 B b bs w) (hj : JW jw b v ind n w) (hBj : B ≤ jw) (hBw : B ≤ w.heap.size)
    (h1 : ∀ v ∈ bs, v.oneCell' = true) (hs : Src w v zs) (hne : v.ownBlock ≠ some b) (hlim : bs.length + zs.length ≤ 140737488355328) :
    Calls Try.prog 18 #[.pointer (some ⟨jw, 0, none⟩)] w fun e w' => e = .returned .nilIface ∧ Lib.IsBuffer 48 5 B b (bs ++ B8 zs) w' ∧
      (∃ v0, v0.ownBlock = v.ownBlock ∧ Src w' v0 [] ∧ JW jw b v0 ind (wrap64 (n + zs.length)) w') ∧ Below B w w' ∧ Others b jw w w' := by
  have hs' := hs
  obtain ⟨ao, c, rfl, hzc, hcm, hao, -⟩ := hs'
  have c0 : w.cell? ⟨jw, 0, none⟩ = some (.iface 26 (.pointer (some ⟨b, 0, none⟩))) := by rw [Lib.cell_of_heap hj]; rfl
  have c1 : w.cell? ⟨jw, 1, none⟩ = some (.slice ao zs.length c) := by rw [Lib.cell_of_heap hj]; rfl
  go_enter Try.func18, Try.ntmps18
  go_wp2
  have hm := fun a w => method_write a w
  have hjb : some jw ≠ some b := by
    intro e
    obtain ⟨-, v', lr, hbk, -, -⟩ := h
    have e' := Option.some.inj e
    unfold JW at hj
    rw [← e', hj] at hbk
    injection hbk with hbk
    injection hbk with _ h2 _
    cases h2
  go_region_with (go_at_call 37; refine (write_src (w := w.drew) (zs := zs) h hBw h1 hs hne hlim).mono ?_; rintro e w1 ⟨rfl, hI, hbel, hk⟩)
  all_goals
    have hjw1 : w1.heap[jw]? = some (.cells #[.iface 26 (.pointer (some ⟨b, 0, none⟩)), .slice ao zs.length c, .string ind, .int .i64 n] 42 (0, 0)) := hk jw _ hj hjb (fun c' fz e => by injection e with _ h2 _; cases h2)
    have d3 : w1.cell? ⟨jw, 3, none⟩ = some (.int .i64 n) := by rw [Lib.cell_of_heap hjw1]; rfl
    have d1 : w1.cell? ⟨jw, 1, none⟩ = some (.slice ao zs.length c) := by rw [Lib.cell_of_heap hjw1]; rfl
    have f3 : w1.frozen? ⟨jw, 3, none⟩ = false := Lib.frozen_of_heap hjw1 3
    have f1 : w1.frozen? ⟨jw, 1, none⟩ = false := Lib.frozen_of_heap hjw1 1
    have fin := flush_end (x3 := .int .i64 (wrap64 (n + zs.length))) (x1 := .slice ao 0 c) hI hjw1 hBj
    have HO : Hid (Others b jw w ((w1.setCell ⟨jw, 3, none⟩ (.int .i64 (wrap64 (n + zs.length)))).setCell ⟨jw, 1, none⟩ (.slice ao 0 c))) := fun k o h1 h2 h3 h4 => by
      rw [setJW_other _ _ _ _ _ h3]
      exact hk k o h1 (fun e => h2 (Option.some.inj e)) h4
    clear hjw1 hk c0 c1 hj hs h
    go_wp2
    go_ret
    exact ⟨rfl, fin.1, ⟨.slice ao 0 c, by cases ao <;> rfl, ⟨ao, c, rfl, Nat.zero_le _, hcm, hao, fun h => absurd rfl h⟩, fin.2.1⟩, (Below.refl B w).drew.trans (hbel.trans fin.2.2), HO.out⟩

theorem zzFlush_any (B b jw : Nat) (bs : List Value) (v : Value) (zs : List Int) (ind : ByteArray) (n : Int) (w : World) (h : Lib.IsBuffer 48 5 B b bs w) (hj : JW jw b v ind n w) (hBj : B ≤ jw) (hBw : B ≤ w.heap.size)
    (h1 : ∀ v ∈ bs, v.oneCell' = true) (hs : Src w v zs) (hne : v.ownBlock ≠ some b) (hlim : bs.length + zs.length ≤ 140737488355328) :
    Calls Try.prog 10 #[.pointer (some ⟨jw, 0, none⟩)] w fun e w' => e = .returned .nilIface ∧ Lib.IsBuffer 48 5 B b (bs ++ B8 zs) w' ∧
      (∃ v0, v0.ownBlock = v.ownBlock ∧ Src w' v0 [] ∧ JW jw b v0 ind (wrap64 (n + zs.length)) w') ∧ Below B w w' ∧ Others b jw w w' := by
  have hF := flush_any B b jw bs v zs ind n w h hj hBj hBw h1 hs hne hlim
  clear h hj hs hne h1
  go_enter Try.func10, Try.ntmps10
  go_wp2_with (go_at_call 18; refine hF.mono ?_; rintro e w1 ⟨rfl, hI, hJ, hb, hO⟩)
  go_ret
  exact ⟨rfl, hI, hJ, hb, hO⟩

/-- flush where nothing is held: the buffer's and the writer's blocks aside nothing turns. -/
theorem flush_none (B b jw : Nat) (bs : List Value) (v : Value) (ind : ByteArray) (n : Int) (w : World) (h : Lib.IsBuffer 48 5 B b bs w) (hj : JW jw b v ind n w) (hBj : B ≤ jw)
    (hs : Src w v []) (hn : wrap64 n = n) :
    Calls Try.prog 18 #[.pointer (some ⟨jw, 0, none⟩)] w fun e w' => e = .returned .nilIface ∧ Lib.IsBuffer 48 5 B b bs w' ∧ JW jw b v ind n w' ∧ Below B w w' ∧ All2 b jw w w' := by
  have hs' := hs
  obtain ⟨ao, c, rfl, hzc, hcm, hao, -⟩ := hs'
  have c0 : w.cell? ⟨jw, 0, none⟩ = some (.iface 26 (.pointer (some ⟨b, 0, none⟩))) := by rw [Lib.cell_of_heap hj]; rfl
  have c1 : w.cell? ⟨jw, 1, none⟩ = some (.slice ao 0 c) := by rw [Lib.cell_of_heap hj]; rfl
  have hm := fun a w => method_write a w
  have hjb : some jw ≠ some b := by
    intro e
    obtain ⟨-, v', lr, hbk, -, -⟩ := h
    have e' := Option.some.inj e
    unfold JW at hj
    rw [← e', hj] at hbk
    injection hbk with hbk
    injection hbk with _ h2 _
    cases h2
  go_enter Try.func18, Try.ntmps18
  go_wp2
  go_region_with (go_at_call 37; refine (write_none B b bs ao c w.drew h).mono ?_; rintro e w1 ⟨rfl, hI, hbel, hk, hg⟩)
  all_goals
    have hjw1 : w1.heap[jw]? = some (.cells #[.iface 26 (.pointer (some ⟨b, 0, none⟩)), .slice ao 0 c, .string ind, .int .i64 n] 42 (0, 0)) := hk jw _ hj hjb (fun c' fz e => by injection e with _ h2 _; cases h2)
    have d3 : w1.cell? ⟨jw, 3, none⟩ = some (.int .i64 n) := by rw [Lib.cell_of_heap hjw1]; rfl
    have d1 : w1.cell? ⟨jw, 1, none⟩ = some (.slice ao 0 c) := by rw [Lib.cell_of_heap hjw1]; rfl
    have f3 : w1.frozen? ⟨jw, 3, none⟩ = false := Lib.frozen_of_heap hjw1 3
    have f1 : w1.frozen? ⟨jw, 1, none⟩ = false := Lib.frozen_of_heap hjw1 1
    have fin := flush_end (x3 := .int .i64 n) (x1 := .slice ao 0 c) hI hjw1 hBj
    have HA : Hid (All2 b jw w ((w1.setCell ⟨jw, 3, none⟩ (.int .i64 n)).setCell ⟨jw, 1, none⟩ (.slice ao 0 c))) := fun k h1 h2 h3 => by
      rw [setJW_other _ _ _ _ _ h3]
      exact hg.block k h1 (fun e => h2 (Option.some.inj e))
    clear hjw1 hk c0 c1 hj hs h
    go_wp2
    go_ret
    exact ⟨rfl, fin.1, fin.2.1, (Below.refl B w).drew.trans (hbel.trans fin.2.2), HA.out⟩

theorem zzFlush_none (B b jw : Nat) (bs : List Value) (v : Value) (ind : ByteArray) (n : Int) (w : World) (h : Lib.IsBuffer 48 5 B b bs w) (hj : JW jw b v ind n w) (hBj : B ≤ jw)
    (hs : Src w v []) (hn : wrap64 n = n) :
    Calls Try.prog 10 #[.pointer (some ⟨jw, 0, none⟩)] w fun e w' => e = .returned .nilIface ∧ Lib.IsBuffer 48 5 B b bs w' ∧ JW jw b v ind n w' ∧ Below B w w' ∧ All2 b jw w w' := by
  have hF := flush_none B b jw bs v ind n w h hj hBj hs hn
  clear h hj hs
  go_enter Try.func10, Try.ntmps10
  go_wp2_with (go_at_call 18; refine hF.mono ?_; rintro e w1 ⟨rfl, hI, hJ, hb, hO⟩)
  go_ret
  exact ⟨rfl, hI, hJ, hb, hO⟩

theorem written_any {jw b : Nat} {v : Value} {ind : ByteArray} {n : Int} {w : World} (h : JW jw b v ind n w) :
    Calls Try.prog 11 #[.pointer (some ⟨jw, 0, none⟩)] w fun e w' => e = .returned (.int .i64 n) ∧ w = w' := by
  have c3 : w.cell? ⟨jw, 3, none⟩ = some (.int .i64 n) := by rw [Lib.cell_of_heap h]; rfl
  clear h
  go_enter Try.func11, Try.ntmps11
  go_wp2
  go_ret
  exact ⟨rfl, rfl⟩

theorem held_any {jw b : Nat} {v : Value} {ind : ByteArray} {n : Int} {w : World} (h : JW jw b v ind n w) (hv : Src w v []) :
    Calls Try.prog 12 #[.pointer (some ⟨jw, 0, none⟩)] w fun e w' => ∃ ao c, e = .returned (.slice ao 0 c) ∧ w = w' := by
  obtain ⟨ao, c, rfl, -⟩ := hv.form
  have c1 : w.cell? ⟨jw, 1, none⟩ = some (.slice ao 0 c) := by rw [Lib.cell_of_heap h]; rfl
  clear h
  go_enter Try.func12, Try.ntmps12
  go_wp2
  go_ret
  exact ⟨ao, c, rfl, rfl⟩

theorem indent_any {jw b : Nat} {v : Value} {ind : ByteArray} {n : Int} {w : World} (h : JW jw b v ind n w) :
    Calls Try.prog 16 #[.pointer (some ⟨jw, 0, none⟩)] w fun e w' => e = .returned (.string ind) ∧ w = w' := by
  have c2 : w.cell? ⟨jw, 2, none⟩ = some (.string ind) := by rw [Lib.cell_of_heap h]; rfl
  clear h
  go_enter Try.func16, Try.ntmps16
  go_wp2
  go_ret
  exact ⟨rfl, rfl⟩

theorem bytes_any {B b : Nat} {zs : List Int} {w : World} (h : Lib.IsBuffer 48 5 B b (B8 zs) w) :
    Calls Try.prog 14 #[.pointer (some ⟨b, 0, none⟩)] w fun e w' => ∃ v n, e = .returned v ∧ w' = w.drewN n ∧ Src w v zs := by
  have hF := Try.Buffer_Bytes B b (B8 zs) w h
  rw [B8_length] at hF
  clear h
  go_enter Try.func14, Try.ntmps14
  go_wp2_with (go_at_call 19; refine hF.mono ?_; rintro e w1 ⟨v, rfl, hown, n, rfl⟩)
  have hsv : Src w v zs := src_of_own hown
  obtain ⟨ao, c, rfl, -⟩ := hsv.form
  go_wp2
  go_ret
  exact ⟨_, n, rfl, rfl, hsv⟩

end Go.Proofs.Qxb6614942a
