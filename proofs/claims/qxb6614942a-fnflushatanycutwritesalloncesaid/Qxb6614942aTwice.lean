/-
  Seat b6614942a: the walk of FnFlushTwiceWritesOnce.
-/
import Derived.Test.Qxb6614942aFlush
import Derived.Lib.Hide
namespace Go.Proofs.Qxb6614942a
open Go.RowKit

theorem zzBytes15 (a0 a1 : Option Addr) (l0 c0 l1 c1 : Nat) (ind : ByteArray) (n : Int) (w : World) (h0 : l0 ≤ maxLen) (h1 : l1 ≤ maxLen) (h2 : ind.size ≤ maxLen) :
    Calls Try.prog 15 #[.slice a0 l0 c0, .slice a1 l1 c1, .string ind, .int .i64 n] w fun e w' => ∃ r, e = .returned (.bool r) ∧ w = w' := by
  unfold maxLen at h0 h1 h2
  go_enter Try.func15, Try.ntmps15
  go_wp2
  all_goals
    go_ret
    exact ⟨_, rfl, rfl⟩

set_option maxHeartbeats 1000000 in
theorem twice_big {w : World} (a0 a1 : Option Addr) (l0 c0 l1 c1 : Nat) (ind : ByteArray) (n : Int) (h0 : l0 ≤ maxLen) (h1 : l1 ≤ maxLen) (h2 : ind.size ≤ maxLen)
    (hbig : 262144 < l0 ∨ 262144 < l1 ∨ 262144 < ind.size) :
    Calls Try.prog 4 #[.slice a0 l0 c0, .slice a1 l1 c1, .string ind, .int .i64 n] w fun e w' => e = .returned (.bool true) ∧ Below w.heap.size w w' := by
  have hz := zzBytes15 a0 a1 l0 c0 l1 c1 ind n w h0 h1 h2
  unfold maxLen at h0 h1 h2
  by_cases g0 : 262144 < l0
  · have g0' : (262144 : Int) < (l0 : Int) := by omega
    go_enter Try.func4, Try.ntmps4
    go_wp2_with (go_at_call 15; refine hz.mono ?_; rintro e w' ⟨r, rfl, rfl⟩; cases r)
    all_goals
      go_ret
      exact ⟨rfl, Below.refl _ _⟩
  · have g0' : ¬ (262144 : Int) < (l0 : Int) := by omega
    by_cases g1 : 262144 < l1
    · have g1' : (262144 : Int) < (l1 : Int) := by omega
      go_enter Try.func4, Try.ntmps4
      go_wp2_with (go_at_call 15; refine hz.mono ?_; rintro e w' ⟨r, rfl, rfl⟩; cases r)
      all_goals
        go_ret
        exact ⟨rfl, Below.refl _ _⟩
    · have g1' : ¬ (262144 : Int) < (l1 : Int) := by omega
      have g2' : (262144 : Int) < (ind.size : Int) := by omega
      go_enter Try.func4, Try.ntmps4
      go_wp2_with (go_at_call 15; refine hz.mono ?_; rintro e w' ⟨r, rfl, rfl⟩; cases r)
      all_goals
        go_ret
        exact ⟨rfl, Below.refl _ _⟩

theorem own_ne {w : World} {B b : Nat} {v : Value} {n : Nat} {xs : List Value} (h : w.ownsRow B 5 1 v n xs) (hb : b < B) : v.ownBlock ≠ some b := by
  rcases h.2 with ⟨rfl, -⟩ | ⟨g, cap, cur, rfl, hg, -⟩
  · simp [Value.ownBlock]
  · simp [Value.ownBlock]
    omega

theorem own_all2 {w w' : World} {B b jw : Nat} {v : Value} {n : Nat} {xs : List Value} (h : w.ownsRow B 5 1 v n xs) (ha : All2 b jw w w') (hb : b < B) (hj : jw < B) : w'.ownsRow B 5 1 v n xs := by
  refine ⟨h.1, ?_⟩
  rcases h.2 with h2 | ⟨g, cap, cur, rfl, hg, hh, h5⟩
  · exact .inl h2
  · exact .inr ⟨g, cap, cur, rfl, hg, by rw [ha g (Lib.lt_of_heap hh) (by omega) (by omega)]; exact hh, h5⟩

theorem draws_below (B : Nat) (w : World) (n : Nat) : Below B w (w.drewN n) := ⟨rfl, rfl, rfl, Nat.le_refl _, fun _ _ => rfl⟩

theorem wrap_wrap (x : Int) : wrap64 (wrap64 x) = wrap64 x := by unfold wrap64; omega

set_option maxHeartbeats 8000000 in
theorem twice_small {w : World} {vd vb : Value} {ds bs : List Int} (ind : ByteArray) (n : Int) (hd : Src w vd ds) (hb : Src w vb bs)
    (h0 : ds.length ≤ 262144) (h1 : bs.length ≤ 262144) (h2 : ind.size ≤ 262144) :
    Calls Try.prog 4 #[vd, vb, .string ind, .int .i64 n] w fun e w' => e = .returned (.bool true) ∧ Below w.heap.size w w' := by
  obtain ⟨a0, c0, rfl, hc0⟩ := hd.form
  obtain ⟨a1, c1, rfl, hc1⟩ := hb.form
  have hz := zzBytes15 a0 a1 ds.length c0 bs.length c1 ind n w (by unfold maxLen; omega) (by unfold maxLen; omega) (by unfold maxLen; omega)
  have g0' : ¬ (262144 : Int) < (ds.length : Int) := by omega
  have g1' : ¬ (262144 : Int) < (bs.length : Int) := by omega
  have g2' : ¬ (262144 : Int) < (ind.size : Int) := by omega
  go_enter Try.func4, Try.ntmps4
  go_wp2_with (go_at_call 15; refine hz.mono ?_; rintro e w' ⟨r, rfl, rfl⟩; cases r)
  · go_ret
    exact ⟨rfl, Below.refl _ _⟩
  clear hz
  -- dst = zzCloneBytes(dst)
  refine (clone_any hd (by omega)).mono ?_
  rintro e w1 ⟨v1, rfl, ho1, hb1⟩
  have hs1 := src_of_own ho1
  obtain ⟨ao1, k1, rfl, -⟩ := hs1.form
  have hb' := hb.stay hb1
  clear hd hb ho1
  go_wp2_with fail
  -- b = zzCloneBytes(b)
  refine (clone_any hb' (by omega)).mono ?_
  rintro e w2 ⟨v2, rfl, ho2, hb2⟩
  have hs2 := src_of_own ho2
  have hs1' := hs1.stay hb2
  have hbw2 := hb1.trans (hb2.mono hb1.size)
  obtain ⟨ao2, k2, rfl, -⟩ := hs2.form
  clear hb' ho2 hs1 hb1 hb2
  go_wp2_with fail
  -- want := zzJoin(dst, b)
  refine (join_any hs1' hs2 (by omega) (by omega)).mono ?_
  rintro e w3 ⟨v3, rfl, ho3, hb3⟩
  obtain ⟨es, HE⟩ : ∃ es : List Int, Hid (ds ++ bs = es) := ⟨_, rfl⟩
  have hel : es.length ≤ 524288 := by rw [← HE.out, List.length_append]; omega
  rw [HE.out] at ho3
  have hs3 := src_of_own ho3
  have hs13 := hs1'.stay hb3
  have hs23 := hs2.stay hb3
  have hbw3 := hbw2.trans (hb3.mono hbw2.size)
  obtain ⟨ao3, k3, rfl, -⟩ := hs3.form
  clear ho3 hs1' hs2 hb3 hbw2
  go_wp2_with fail
  -- zzCloneBytes(dst)
  refine (clone_any hs13 (by omega)).mono ?_
  rintro e w4 ⟨v4, rfl, ho4, hb4⟩
  go_wp2_with fail
  -- buf := ZZnewBuffer(..)
  refine (newBuffer_any w3.heap.size v4 ds w4 ho4 hb4.size).mono ?_
  rintro e w5 ⟨rfl, hB5, hb5, hz5⟩
  have hbw5 : Below w3.heap.size w3 w5 := hb4.trans (hb5.mono hb4.size)
  have hs25 := hs23.stay hbw5
  have hz4 := hb4.size
  clear ho4 hb5 hs23 hs13
  go_wp2_with fail
  -- zzCloneBytes(b)
  refine (clone_any hs25 (by omega)).mono ?_
  rintro e w6 ⟨v6, rfl, ho6, hb6⟩
  have hs6 := src_of_own ho6
  have hB6 := hB5.old hb6
  have hne6 : v6.ownBlock ≠ some w4.heap.size := own_ne ho6 (by omega)
  have hz6 := hb6.size
  have hbw6 : Below w3.heap.size w3 w6 := hbw5.trans (hb6.mono (by omega))
  clear hs25 ho6 hb6 hB5 hb4 hbw5
  obtain ⟨ao6, k6, rfl, -⟩ := hs6.form
  go_wp2_with fail
  -- w := ZZnewJSONWriter(buf, .., indent, written)
  refine (newWriter_any w4.heap.size _ bs ind n w6 hs6).mono ?_
  rintro e w7 ⟨rfl, hJ7, hb7, hz7⟩
  have hs7 := hs6.stay hb7
  have hB7 := hB6.old hb7
  have hbw7 : Below w3.heap.size w3 w7 := hbw6.trans (hb7.mono (by omega))
  clear hs6 hB6 hb7 hbw6
  go_wp2_with fail
  -- err1 := ZZflush(w)
  refine (zzFlush_any w3.heap.size w4.heap.size w6.heap.size (B8 ds) _ bs ind n w7 hB7 hJ7 (by omega) (by omega) (B8_one ds) hs7 hne6 (by rw [B8_length]; omega)).mono ?_
  rintro e w8 ⟨rfl, hB8, ⟨v8, hv8, hs8, hJ8⟩, hb8, -⟩
  rw [← B8_append, HE.out] at hB8
  have hz8 := hb8.size
  have hbw8 := hbw7.trans hb8
  have hne8 : v8.ownBlock ≠ some w4.heap.size := by rw [hv8]; exact hne6
  clear hs7 hB7 hJ7 hb8 hbw7 hv8 hne6
  go_wp2_with fail
  -- ZZbufferBytes(buf)
  refine (bytes_any hB8).mono ?_
  rintro e w9' ⟨v9, q9, rfl, rfl, hs9⟩
  obtain ⟨ao9, k9, rfl, -⟩ := hs9.form
  go_wp2_with fail
  -- out1 := zzCloneBytes(..)
  refine (clone_any (w := w8.drewN q9) hs9 (by omega)).mono ?_
  rintro e w10 ⟨v10, rfl, ho10, hb10'⟩
  have hb10 : Below w8.heap.size w8 w10 := (draws_below w8.heap.size w8 q9).trans hb10'
  have ho10' : w10.ownsRow w8.heap.size 5 1 v10 es.length (B8 es) := ho10
  have hB10 := hB8.old hb10
  have hJ10 := hJ8.stay hb10
  have hs10 := hs8.stay hb10
  have hz10 := hb10.size
  have hbw10 : Below w3.heap.size w3 w10 := hbw8.trans (hb10.mono (by omega))
  obtain ⟨ao10, k10, rfl, -⟩ := (src_of_own ho10').form
  clear hB8 hJ8 hs8 hb10 hb10' ho10 hs9 hbw8
  go_wp2_with fail
  -- n1, r1
  refine (written_any hJ10).mono ?_
  rintro e w10' ⟨rfl, rfl⟩
  go_wp2_with fail
  refine (held_any hJ10 hs10).mono ?_
  rintro e w10' ⟨aoh, ch, rfl, rfl⟩
  go_wp2_with fail
  -- err2 := ZZflush(w)
  refine (zzFlush_none w3.heap.size w4.heap.size w6.heap.size (B8 es) v8 ind _ w10 hB10 hJ10 (by omega) hs10 (wrap_wrap _)).mono ?_
  rintro e w11 ⟨rfl, hB11, hJ11, hb11, hA11⟩
  have ho11 := own_all2 ho10' hA11 (by omega) (by omega)
  have hbw11 := hbw10.trans hb11
  have hs11 : Src w11 v8 [] := by
    obtain ⟨ao, c, e1, e2, e3, e4, -⟩ := hs10
    exact ⟨ao, c, e1, e2, e3, e4, fun h => absurd rfl h⟩
  have hso := src_of_own ho11
  have hwant := hs3.stay hbw11
  clear hB10 hJ10 hs10 hA11 hb11 ho10' ho11 hbw10 hs3
  go_wp2_with fail
  -- out2 := ZZbufferBytes(buf)
  refine (bytes_any hB11).mono ?_
  rintro e w12' ⟨v12, q12, rfl, rfl, hs12⟩
  obtain ⟨ao12, k12, rfl, -⟩ := hs12.form
  go_wp2_with fail
  refine (written_any (w := w11.drewN q12) hJ11).mono ?_
  rintro e w12' ⟨rfl, rfl⟩
  go_wp2_with fail
  refine (held_any (w := w11.drewN q12) hJ11 hs11).mono ?_
  rintro e w12' ⟨aoh2, ch2, rfl, rfl⟩
  go_wp2_with fail
  -- the indent
  refine (indent_any (w := w11.drewN q12) hJ11).mono ?_
  rintro e w12' ⟨rfl, rfl⟩
  go_wp2_with fail
  refine (same_any (w := w11.drewN q12) hso hwant (by omega)).mono ?_
  rintro e w13' ⟨rfl, q13, rfl⟩
  go_wp2_with fail
  refine (same_any (w := w11.drewN (q12 + q13)) hs12 hwant (by omega)).mono ?_
  rintro e w14' ⟨rfl, q14, rfl⟩
  go_wp2
  go_ret
  refine ⟨rfl, ?_⟩
  exact (hbw3.trans (hbw11.mono hbw3.size)).trans (draws_below _ _ _)

end Go.Proofs.Qxb6614942a
