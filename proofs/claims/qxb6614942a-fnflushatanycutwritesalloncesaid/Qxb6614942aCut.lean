/-
  Seat b6614942a: the walk of FnFlushAtAnyCutWritesAllOnce.
-/
import Derived.Test.Qxb6614942aTwice
namespace Go.Proofs.Qxb6614942a
open Go.RowKit

theorem zzBytes5 (a0 a1 : Option Addr) (l0 c0 l1 c1 : Nat) (ind : ByteArray) (n m : Int) (w : World) (h0 : l0 ≤ maxLen) (h1 : l1 ≤ maxLen) (h2 : ind.size ≤ maxLen) :
    Calls Try.prog 5 #[.slice a0 l0 c0, .slice a1 l1 c1, .string ind, .int .i64 n, .int .i64 m] w fun e w' => ∃ r, e = .returned (.bool r) ∧ w = w' := by
  unfold maxLen at h0 h1 h2
  go_enter Try.func5, Try.ntmps5
  go_wp2
  all_goals
    go_ret
    exact ⟨_, rfl, rfl⟩

set_option maxHeartbeats 1000000 in
theorem cut_big {w : World} (a0 a1 : Option Addr) (l0 c0 l1 c1 : Nat) (ind : ByteArray) (n m : Int) (h0 : l0 ≤ maxLen) (h1 : l1 ≤ maxLen) (h2 : ind.size ≤ maxLen)
    (hbig : 262144 < l0 ∨ 262144 < l1 ∨ 262144 < ind.size ∨ m < 0 ∨ (l1 : Int) < m) :
    Calls Try.prog 3 #[.slice a0 l0 c0, .slice a1 l1 c1, .string ind, .int .i64 n, .int .i64 m] w fun e w' => e = .returned (.bool true) ∧ Below w.heap.size w w' := by
  have hz := zzBytes5 a0 a1 l0 c0 l1 c1 ind n m w h0 h1 h2
  unfold maxLen at h0 h1 h2
  by_cases g0 : 262144 < l0
  · have g0' : (262144 : Int) < (l0 : Int) := by omega
    go_enter Try.func3, Try.ntmps3
    go_wp2_with (go_at_call 5; refine hz.mono ?_; rintro e w' ⟨r, rfl, rfl⟩; cases r)
    all_goals
      go_ret
      exact ⟨rfl, Below.refl _ _⟩
  have g0' : ¬ (262144 : Int) < (l0 : Int) := by omega
  by_cases g1 : 262144 < l1
  · have g1' : (262144 : Int) < (l1 : Int) := by omega
    go_enter Try.func3, Try.ntmps3
    go_wp2_with (go_at_call 5; refine hz.mono ?_; rintro e w' ⟨r, rfl, rfl⟩; cases r)
    all_goals
      go_ret
      exact ⟨rfl, Below.refl _ _⟩
  have g1' : ¬ (262144 : Int) < (l1 : Int) := by omega
  by_cases g2 : 262144 < ind.size
  · have g2' : (262144 : Int) < (ind.size : Int) := by omega
    go_enter Try.func3, Try.ntmps3
    go_wp2_with (go_at_call 5; refine hz.mono ?_; rintro e w' ⟨r, rfl, rfl⟩; cases r)
    all_goals
      go_ret
      exact ⟨rfl, Below.refl _ _⟩
  have g2' : ¬ (262144 : Int) < (ind.size : Int) := by omega
  by_cases g3 : m < 0
  · go_enter Try.func3, Try.ntmps3
    go_wp2_with (go_at_call 5; refine hz.mono ?_; rintro e w' ⟨r, rfl, rfl⟩; cases r)
    all_goals
      go_ret
      exact ⟨rfl, Below.refl _ _⟩
  have g4 : (l1 : Int) < m := by omega
  go_enter Try.func3, Try.ntmps3
  go_wp2_with (go_at_call 5; refine hz.mono ?_; rintro e w' ⟨r, rfl, rfl⟩; cases r)
  all_goals
    go_ret
    exact ⟨rfl, Below.refl _ _⟩

theorem src_take {w : World} {ao : Option Addr} {c : Nat} {bs fs gs : List Int} (h : Src w (.slice ao bs.length c) bs) (e : fs ++ gs = bs) : Src w (.slice ao fs.length c) fs := by
  subst e
  obtain ⟨ao', c', e1, h1, h2, h3, h4⟩ := h
  injection e1 with e1 _ e2
  subst e1 e2
  rw [List.length_append] at h1
  refine ⟨ao, c, rfl, by omega, h2, h3, fun hz => ?_⟩
  obtain ⟨g, o, rfl, hc⟩ := h4 (fun e => hz (List.append_eq_nil_iff.1 e).1)
  refine ⟨g, o, rfl, fun j hj => ?_⟩
  rw [hc j (by rw [List.length_append]; omega), List.getElem_append_left hj]

theorem src_drop_end {w : World} {ao : Option Addr} {bs fs gs : List Int} (h : Src w (.slice ao bs.length fs.length) bs) (e : fs ++ gs = bs) : Src w (.slice ao gs.length 0) gs := by
  subst e
  obtain ⟨ao', c', e1, h1, h2, h3, h4⟩ := h
  injection e1 with e1 _ e2
  subst e1 e2
  rw [List.length_append] at h1
  obtain rfl : gs = [] := List.eq_nil_of_length_eq_zero (by omega)
  exact ⟨ao, 0, rfl, Nat.le_refl _, Nat.zero_le _, fun _ => rfl, fun h => absurd rfl h⟩

theorem src_drop {w : World} {ao : Option Addr} {c : Nat} {bs fs gs : List Int} (h : Src w (.slice ao bs.length c) bs) (e : fs ++ gs = bs) :
    Src w (.slice (ao.map (·.add fs.length)) gs.length (c - fs.length)) gs := by
  subst e
  obtain ⟨ao', c', e1, h1, h2, h3, h4⟩ := h
  injection e1 with e1 _ e2
  subst e1 e2
  rw [List.length_append] at h1
  refine ⟨_, _, rfl, by omega, by omega, fun h => ?_, fun hz => ?_⟩
  · have h0 := h3 (Option.map_eq_none_iff.1 h)
    omega
  · obtain ⟨g, o, rfl, hc⟩ := h4 (fun e => hz (List.append_eq_nil_iff.1 e).2)
    refine ⟨g, o + fs.length, by simp [Lib.addr_add], fun j hj => ?_⟩
    rw [Nat.add_assoc, hc (fs.length + j) (by rw [List.length_append]; omega), List.getElem_append_right (by omega)]
    simp

theorem src_empty {w w' : World} {v : Value} (h : Src w v []) : Src w' v [] := by
  obtain ⟨ao, c, e1, e2, e3, e4, -⟩ := h
  exact ⟨ao, c, e1, e2, e3, e4, fun h => absurd rfl h⟩

theorem count_two (n : Int) {g b f : Nat} (h : g = b - f) (hk : f ≤ b) : wrap64 (wrap64 (n + f) + g) = wrap64 (n + b) := by
  have : (g : Int) = b - f := by omega
  unfold wrap64
  omega

set_option maxHeartbeats 8000000 in
theorem cut_small {w : World} {vd vb : Value} {ds bs fs gs : List Int} (ind : ByteArray) (n : Int) (hd : Src w vd ds) (hb : Src w vb bs)
    (h0 : ds.length ≤ 262144) (h1 : bs.length ≤ 262144) (h2 : ind.size ≤ 262144) (HB : Hid (fs ++ gs = bs)) (hk : fs.length ≤ bs.length) (hgl : gs.length = bs.length - fs.length) :
    Calls Try.prog 3 #[vd, vb, .string ind, .int .i64 n, .int .i64 fs.length] w fun e w' => e = .returned (.bool true) ∧ Below w.heap.size w w' := by
  obtain ⟨a0, c0, rfl, hc0⟩ := hd.form
  obtain ⟨a1, c1, rfl, hc1⟩ := hb.form
  have hz := zzBytes5 a0 a1 ds.length c0 bs.length c1 ind n fs.length w (by unfold maxLen; omega) (by unfold maxLen; omega) (by unfold maxLen; omega)
  have HG : Hid (gs.length = bs.length - fs.length) := hgl
  clear hgl
  have g0' : ¬ (262144 : Int) < (ds.length : Int) := by omega
  have g1' : ¬ (262144 : Int) < (bs.length : Int) := by omega
  have g2' : ¬ (262144 : Int) < (ind.size : Int) := by omega
  have g3' : ¬ (fs.length : Int) < 0 := by omega
  have g4' : ¬ (bs.length : Int) < (fs.length : Int) := by omega
  go_enter Try.func3, Try.ntmps3
  go_wp2_with (go_at_call 5; refine hz.mono ?_; rintro e w' ⟨r, rfl, rfl⟩; cases r)
  · go_ret
    exact ⟨rfl, Below.refl _ _⟩
  clear hz
  -- dst = zzCloneBytes(dst)
  refine (clone_any hd (by omega)).mono ?_
  rintro e w1 ⟨v1, rfl, ho1, hb1⟩
  have hs1 := src_of_own ho1
  obtain ⟨ao1, k1, rfl, -⟩ := hs1.form
  have hb' := hb.stay hb1
  clear hd hb ho1
  go_wp2_with fail
  -- b = zzCloneBytes(b)
  refine (clone_any hb' (by omega)).mono ?_
  rintro e w2 ⟨v2, rfl, ho2, hb2⟩
  have hs2 := src_of_own ho2
  have hs1' := hs1.stay hb2
  have hbw2 := hb1.trans (hb2.mono hb1.size)
  obtain ⟨ao2, k2, rfl, hk2⟩ := hs2.form
  clear hb' ho2 hs1 hb1 hb2
  go_wp2_with fail
  -- want := zzJoin(dst, b)
  refine (join_any hs1' hs2 (by omega) (by omega)).mono ?_
  rintro e w3 ⟨v3, rfl, ho3, hb3⟩
  obtain ⟨es, HE⟩ : ∃ es : List Int, Hid (ds ++ bs = es) := ⟨_, rfl⟩
  have hel : es.length ≤ 524288 := by rw [← HE.out, List.length_append]; omega
  rw [HE.out] at ho3
  have hs3 := src_of_own ho3
  have hs13 := hs1'.stay hb3
  have hs23 := hs2.stay hb3
  have hbw3 := hbw2.trans (hb3.mono hbw2.size)
  obtain ⟨ao3, k3, rfl, -⟩ := hs3.form
  clear ho3 hs1' hs2 hb3 hbw2
  go_wp2_with fail
  -- zzCloneBytes(dst)
  refine (clone_any hs13 (by omega)).mono ?_
  rintro e w4 ⟨v4, rfl, ho4, hb4⟩
  go_wp2_with fail
  -- whole := ZZnewBuffer(..)
  refine (newBuffer_any w3.heap.size v4 ds w4 ho4 hb4.size).mono ?_
  rintro e w5 ⟨rfl, hB5, hb5, hz5⟩
  have hbw5 : Below w3.heap.size w3 w5 := hb4.trans (hb5.mono hb4.size)
  have hs25 := hs23.stay hbw5
  have hz4 := hb4.size
  clear ho4 hb5
  go_wp2_with fail
  -- zzCloneBytes(b)
  refine (clone_any hs25 (by omega)).mono ?_
  rintro e w6 ⟨v6, rfl, ho6, hb6⟩
  have hs6 := src_of_own ho6
  have hB6 := hB5.old hb6
  have hne6 : v6.ownBlock ≠ some w4.heap.size := own_ne ho6 (by omega)
  have hz6 := hb6.size
  have hbw6 : Below w3.heap.size w3 w6 := hbw5.trans (hb6.mono (by omega))
  clear hs25 ho6 hb6 hB5 hb4 hbw5
  obtain ⟨ao6, k6, rfl, -⟩ := hs6.form
  go_wp2_with fail
  -- w := ZZnewJSONWriter(whole, .., indent, written)
  refine (newWriter_any w4.heap.size _ bs ind n w6 hs6).mono ?_
  rintro e w7 ⟨rfl, hJ7, hb7, hz7⟩
  have hs7 := hs6.stay hb7
  have hB7 := hB6.old hb7
  have hbw7 : Below w3.heap.size w3 w7 := hbw6.trans (hb7.mono (by omega))
  clear hs6 hB6 hb7 hbw6
  go_wp2_with fail
  -- errW := ZZflush(w)
  refine (zzFlush_any w3.heap.size w4.heap.size w6.heap.size (B8 ds) _ bs ind n w7 hB7 hJ7 (by omega) (by omega) (B8_one ds) hs7 hne6 (by rw [B8_length]; omega)).mono ?_
  rintro e w8 ⟨rfl, hB8, ⟨v8, -, hs8, hJ8⟩, hb8, -⟩
  rw [← B8_append, HE.out] at hB8
  have hz8 := hb8.size
  have hbw8 := hbw7.trans hb8
  have hs18 := hs13.stay hbw8
  have hs28 := hs23.stay hbw8
  clear hs7 hB7 hJ7 hb8 hbw7 hne6 hs13 hs23
  go_wp2_with fail
  -- zzCloneBytes(dst)
  refine (clone_any hs18 (by omega)).mono ?_
  rintro e w9 ⟨v9, rfl, ho9, hb9⟩
  go_wp2_with fail
  -- parts := ZZnewBuffer(..)
  refine (newBuffer_any w8.heap.size v9 ds w9 ho9 hb9.size).mono ?_
  rintro e w10 ⟨rfl, hP10, hb10, hz10⟩
  have hbw10 : Below w8.heap.size w8 w10 := hb9.trans (hb10.mono hb9.size)
  have hs210 := hs28.stay hbw10
  have hz9 := hb9.size
  clear ho9 hb10 hs18
  go_wp2_with fail
  -- zzCloneBytes(b[:cut])
  refine (clone_any (src_take hs210 HB.out) (by omega)).mono ?_
  rintro e w11 ⟨v11, rfl, ho11, hb11⟩
  have hs11 := src_of_own ho11
  have hP11 := hP10.old hb11
  have hne11 : v11.ownBlock ≠ some w9.heap.size := own_ne ho11 (by omega)
  have hz11 := hb11.size
  have hbw11 : Below w8.heap.size w8 w11 := hbw10.trans (hb11.mono (by omega))
  clear hs210 ho11 hb11 hP10 hb9 hbw10
  obtain ⟨ao11, k11, rfl, -⟩ := hs11.form
  go_wp2_with fail
  -- first := ZZnewJSONWriter(parts, .., indent, written)
  refine (newWriter_any w9.heap.size _ fs ind n w11 hs11).mono ?_
  rintro e w12 ⟨rfl, hF12, hb12, hz12⟩
  have hs12 := hs11.stay hb12
  have hP12 := hP11.old hb12
  have hbw12 : Below w8.heap.size w8 w12 := hbw11.trans (hb12.mono (by omega))
  clear hs11 hP11 hb12 hbw11
  go_wp2_with fail
  -- errF := ZZflush(first)
  refine (zzFlush_any w8.heap.size w9.heap.size w11.heap.size (B8 ds) _ fs ind n w12 hP12 hF12 (by omega) (by omega) (B8_one ds) hs12 hne11 (by rw [B8_length]; omega)).mono ?_
  rintro e w13 ⟨rfl, hP13, ⟨v13, -, hs13, hF13⟩, hb13, -⟩
  rw [← B8_append] at hP13
  have hz13 := hb13.size
  have hbw13 := hbw12.trans hb13
  clear hs12 hP12 hF12 hbw12 hne11
  have hs213 := hs28.stay hbw13
  clear hs28
  go_wp2_with fail
  all_goals
    rw [← HG.out]
    -- zzCloneBytes(b[cut:])
    refine (clone_any (zs := gs) ?_ (by have := HG.out; omega)).mono ?_
    · first | exact src_drop_end (by rw [‹k2 = fs.length›] at hs213; exact hs213) HB.out | exact src_drop hs213 HB.out
    rintro e w14 ⟨v14, rfl, ho14, hb14⟩
    have hs14 := src_of_own ho14
    have hP14 := hP13.old hb14
    have hF14 := hF13.stay hb14
    have hf14 := hs13.stay hb14
    have hne14 : v14.ownBlock ≠ some w9.heap.size := own_ne ho14 (by omega)
    have hz14 := hb14.size
    have hbw14 : Below w8.heap.size w8 w14 := hbw13.trans (hb14.mono (by omega))
    clear hs213 hP13 hF13 hs13 ho14 hb14 hbw13
    obtain ⟨ao14, k14, rfl, -⟩ := hs14.form
    go_wp2_with fail
    -- ZZjsonWriterWritten(first)
    refine (written_any hF14).mono ?_
    rintro e w14' ⟨rfl, rfl⟩
    go_wp2_with fail
    -- second := ZZnewJSONWriter(parts, .., indent, ..)
    refine (newWriter_any w9.heap.size _ gs ind _ w14 hs14).mono ?_
    rintro e w15 ⟨rfl, hS15, hb15, hz15⟩
    have hs15 := hs14.stay hb15
    have hP15 := hP14.old hb15
    have hF15 := hF14.stay hb15
    have hf15 := hf14.stay hb15
    have hbw15 : Below w8.heap.size w8 w15 := hbw14.trans (hb15.mono (by omega))
    clear hs14 hP14 hF14 hf14 hb15 hbw14
    go_wp2_with fail
    -- errS := ZZflush(second)
    refine (zzFlush_any w8.heap.size w9.heap.size w14.heap.size (B8 (ds ++ fs)) _ gs ind _ w15 hP15 hS15 (by omega) (by omega) (B8_one _) hs15 hne14 (by have := HG.out; rw [B8_length, List.length_append]; omega)).mono ?_
    rintro e w16 ⟨rfl, hP16, ⟨v16, -, hs16, hS16⟩, hb16, hO16⟩
    rw [← B8_append, List.append_assoc, HB.out, HE.out] at hP16
    rw [count_two n HG.out hk] at hS16
    have hbw16 := hbw15.trans hb16
    have hF16 : JW w11.heap.size w9.heap.size v13 ind (wrap64 (n + fs.length)) w16 := hO16 _ _ hF15 (by omega) (by omega) (fun c' fz e => by injection e with _ h2 _; cases h2)
    have hf16 := src_empty (w' := w16) hf15
    have hW16 := hJ8.stay hbw16
    have hB16 := hB8.old hbw16
    have hw16 := hs8.stay hbw16
    have hwant := hs3.stay (hbw8.trans (hbw16.mono (by omega)))
    have hbfin := hbw3.trans ((hbw8.trans (hbw16.mono (by omega))).mono hbw3.size)
    clear hs15 hP15 hF15 hf15 hbw15 hb16 hO16 hS15 hJ8 hB8 hs8 hs3 hbw8 hne14
    go_wp2_with fail
    refine (held_any hW16 hw16).mono ?_
    rintro e w16' ⟨aoA, cA, rfl, rfl⟩
    go_wp2_with fail
    refine (held_any hF16 hf16).mono ?_
    rintro e w16' ⟨aoB, cB, rfl, rfl⟩
    go_wp2_with fail
    refine (held_any hS16 hs16).mono ?_
    rintro e w16' ⟨aoC, cC, rfl, rfl⟩
    go_wp2_with fail
    refine (written_any hW16).mono ?_
    rintro e w16' ⟨rfl, rfl⟩
    go_wp2_with fail
    refine (written_any hS16).mono ?_
    rintro e w16' ⟨rfl, rfl⟩
    go_wp2_with fail
    refine (written_any hF16).mono ?_
    rintro e w16' ⟨rfl, rfl⟩
    go_wp2_with fail
    refine (bytes_any hB16).mono ?_
    rintro e w17' ⟨v17, q17, rfl, rfl, hs17⟩
    obtain ⟨ao17, k17, rfl, -⟩ := hs17.form
    go_wp2_with fail
    refine (same_any (w := w16.drewN q17) hs17 hwant (by omega)).mono ?_
    rintro e w18' ⟨rfl, q18, rfl⟩
    go_wp2_with fail
    refine (bytes_any (w := w16.drewN (q17 + q18)) hP16).mono ?_
    rintro e w19' ⟨v19, q19, rfl, rfl, hs19⟩
    obtain ⟨ao19, k19, rfl, -⟩ := hs19.form
    go_wp2_with fail
    refine (same_any (w := w16.drewN (q17 + q18 + q19)) hs19 hwant (by omega)).mono ?_
    rintro e w20' ⟨rfl, q20, rfl⟩
    go_wp2
    go_ret
    exact ⟨rfl, hbfin.trans (draws_below _ _ _)⟩

end Go.Proofs.Qxb6614942a
