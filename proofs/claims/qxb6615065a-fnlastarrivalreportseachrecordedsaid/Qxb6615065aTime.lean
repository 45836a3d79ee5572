/-
  Seat b6615065a: package time's functions as the law meets them.
-/
import Derived.Test.Qxb6615065aProg
import Derived.Test.Qxb6615065aBits
import Derived.WalkKit
import Derived.BigQuiet
import Derived.Deep.RegionWith
import Derived.WalkSpells
namespace Go.Proofs.Qxb6615065a
open Go.RowKit

theorem nsec_any (b o : Nat) (n : Int) (h0 : 0 ≤ n) (h1 : n < 1000000000) (w : World) (c0 : w.cell? ⟨b, o, none⟩ = some (.int .u64 n)) :
    Calls Try.prog 24 #[.pointer (some ⟨b, o, none⟩)] w fun e w' => e = .returned (.int .i32 n) ∧ w = w' := by
  have hm := mask30 h0 h1
  go_enter Try.func24, Try.ntmps24
  go_wp2
  go_ret
  exact ⟨rfl, rfl⟩

theorem sec_any (b o : Nat) (n s : Int) (h0 : 0 ≤ n) (h1 : n < 1000000000) (w : World) (c0 : w.cell? ⟨b, o, none⟩ = some (.int .u64 n)) (c1 : w.cell? ⟨b, o + 1, none⟩ = some (.int .i64 s)) :
    Calls Try.prog 28 #[.pointer (some ⟨b, o, none⟩)] w fun e w' => e = .returned (.int .i64 s) ∧ w = w' := by
  have hm := mono0 h0 h1
  go_enter Try.func28, Try.ntmps28
  go_wp2
  go_ret
  exact ⟨rfl, rfl⟩

theorem addSec_any (b o : Nat) (n d : Int) (h0 : 0 ≤ n) (h1 : n < 1000000000) (hd0 : -9223372036854775808 ≤ d) (hd1 : d ≤ 9223372036854775807) (w : World) (c0 : w.cell? ⟨b, o, none⟩ = some (.int .u64 n)) (c1 : w.cell? ⟨b, o + 1, none⟩ = some (.int .i64 0))
    (f1 : w.frozen? ⟨b, o + 1, none⟩ = false) :
    Calls Try.prog 25 #[.pointer (some ⟨b, o, none⟩), .int .i64 d] w fun e w' => e = .returned (.tuple #[]) ∧ w.setCell ⟨b, o + 1, none⟩ (.int .i64 d) = w' := by
  have hm := mono0 h0 h1
  by_cases hp : 0 < d
  · go_enter Try.func25, Try.ntmps25
    go_wp2
    go_end0
    exact ⟨rfl, rfl⟩
  · go_enter Try.func25, Try.ntmps25
    go_wp2
    go_end0
    exact ⟨rfl, rfl⟩

/-- A Time without a monotonic reading, without a location. -/
def tv (n s : Int) : Value := .agg #[.int .u64 n, .int .i64 s, .pointer none]

theorem quot_rem {d : Int} (h0 : -9223372036854775808 ≤ d) (h1 : d ≤ 9223372036854775807) :
    ∃ q r : Int, Hid (d.tdiv 1000000000 = q ∧ d.tmod 1000000000 = r) ∧ -9223372036 ≤ q ∧ q ≤ 9223372036 ∧ -1000000000 < r ∧ r < 1000000000 ∧
      ((0 ≤ r ∧ Hid (secs d = q ∧ rest d = r)) ∨ (r < 0 ∧ Hid (secs d = q - 1 ∧ rest d = r + 1000000000))) := by
  refine ⟨d.tdiv 1000000000, d.tmod 1000000000, ⟨rfl, rfl⟩, ?_⟩
  by_cases hd : 0 ≤ d
  · rw [Int.tdiv_eq_ediv_of_nonneg hd, Int.tmod_eq_emod_of_nonneg hd]
    refine ⟨by omega, by omega, by omega, by omega, .inl ⟨by omega, rfl, rfl⟩⟩
  · have e1 : d.tdiv 1000000000 = -((-d) / 1000000000) := by
      rw [← Int.neg_neg d, Int.neg_tdiv, Int.tdiv_eq_ediv_of_nonneg (by omega), Int.neg_neg]
    have e2 : d.tmod 1000000000 = -((-d) % 1000000000) := by
      rw [← Int.neg_neg d, Int.neg_tmod, Int.tmod_eq_emod_of_nonneg (by omega), Int.neg_neg]
    rw [e1, e2]
    refine ⟨by omega, by omega, by omega, by omega, ?_⟩
    by_cases hr : (-d) % 1000000000 = 0
    · refine .inl ⟨by omega, ?_⟩
      show secs d = _ ∧ rest d = _
      unfold secs rest
      omega
    · refine .inr ⟨by omega, ?_⟩
      show secs d = _ ∧ rest d = _
      unfold secs rest
      omega

set_option maxHeartbeats 1000000 in
theorem add_zero (d : Int) (hd0 : -9223372036854775808 ≤ d) (hd1 : d ≤ 9223372036854775807) (w : World) :
    Calls Try.prog 18 #[tv 0 0, .int .i64 d] w fun e w' => e = .returned (tv (rest d) (secs d)) ∧ Below w.heap.size w w' := by
  obtain ⟨q, r, HQ, hq0, hq1, hr0, hr1, hc⟩ := quot_rem hd0 hd1
  have hm0 := mono0 (n := 0) (by omega) (by omega)
  have hq := HQ.out.1
  have hr := HQ.out.2
  unfold tv
  rcases hc with ⟨hp, HR⟩ | ⟨hn, HR⟩
  · rw [HR.out.1, HR.out.2]
    have hz := zero_or hp hr1
    have hm := mono0 hp hr1
    have hna := zero_andNot
    go_enter Try.func18, Try.ntmps18
    go_wp2_with fail
    refine (nsec_any w.heap.size 0 0 (by omega) (by omega) _ (by simp)).mono ?_
    rintro e w' ⟨rfl, rfl⟩
    go_wp2_with fail
    refine (addSec_any w.heap.size 0 r q hp hr1 (by omega) (by omega) _ (by simp) (by simp) (by simp)).mono ?_
    rintro e w' ⟨rfl, rfl⟩
    go_wp2
    exact bodyPost_ret (v := .agg #[.int .u64 r, .int .i64 q, .pointer none]) (by simp [results, Try.results18, go_sem]) rfl ⟨rfl, ((Below.refl _ _).alloc (Nat.le_refl _) _).alloc (by simp) _⟩
  · rw [HR.out.1, HR.out.2]
    have hz := zero_or (n := r + 1000000000) (by omega) (by omega)
    have hm := mono0 (n := r + 1000000000) (by omega) (by omega)
    have hna := zero_andNot
    go_enter Try.func18, Try.ntmps18
    go_wp2_with fail
    refine (nsec_any w.heap.size 0 0 (by omega) (by omega) _ (by simp)).mono ?_
    rintro e w' ⟨rfl, rfl⟩
    go_wp2_with fail
    refine (addSec_any w.heap.size 0 (r + 1000000000) (q - 1) (by omega) (by omega) (by omega) (by omega) _ (by simp) (by simp) (by simp)).mono ?_
    rintro e w' ⟨rfl, rfl⟩
    go_wp2
    exact bodyPost_ret (v := .agg #[.int .u64 (r + 1000000000), .int .i64 (q - 1), .pointer none]) (by simp [results, Try.results18, go_sem]) rfl ⟨rfl, ((Below.refl _ _).alloc (Nat.le_refl _) _).alloc (by simp) _⟩

theorem bcell {W w1 : World} (hb : Below W.heap.size W w1) : (∀ b o, b < W.heap.size → w1.cell? ⟨b, o, none⟩ = W.cell? ⟨b, o, none⟩) ∧ (∀ b o, b < W.heap.size → w1.frozen? ⟨b, o, none⟩ = W.frozen? ⟨b, o, none⟩) :=
  ⟨fun b o h => hb.cell (p := ⟨b, o, none⟩) h, fun b o h => hb.frozen (p := ⟨b, o, none⟩) h⟩

set_option maxHeartbeats 1000000 in
theorem equal_same (n s : Int) (h0 : 0 ≤ n) (h1 : n < 1000000000) (w : World) :
    Calls Try.prog 29 #[tv n s, tv n s] w fun e w' => e = .returned (.bool true) ∧ Below w.heap.size w w' := by
  have ha := and_self h0 h1
  have hm := mono0 h0 h1
  unfold tv
  go_enter Try.func29, Try.ntmps29
  go_wp2_with fail
  refine (sec_any w.heap.size 0 n s h0 h1 _ (by simp) (by simp)).mono ?_
  rintro e w' ⟨rfl, rfl⟩
  go_wp2_with fail
  refine (sec_any (w.heap.size + 1) 0 n s h0 h1 _ (by simp) (by simp)).mono ?_
  rintro e w' ⟨rfl, rfl⟩
  go_wp2_with fail
  refine (nsec_any w.heap.size 0 n h0 h1 _ (by simp)).mono ?_
  rintro e w' ⟨rfl, rfl⟩
  go_wp2_with fail
  refine (nsec_any (w.heap.size + 1) 0 n h0 h1 _ (by simp)).mono ?_
  rintro e w' ⟨rfl, rfl⟩
  go_wp2
  go_ret
  exact ⟨rfl, ((Below.refl _ _).alloc (Nat.le_refl _) _).alloc (by simp) _⟩

set_option maxHeartbeats 1000000 in
theorem sub_core (n s d : Int) (hr0 : 0 ≤ n) (hr1 : n < 1000000000) (hs0 : -9223372037 ≤ s) (hs1 : s ≤ 9223372036) (HB : Hid (wrap64 (wrap64 (s * 1000000000) + n) = d))
    (HA : Hid (∀ w, Calls Try.prog 18 #[tv 0 0, .int .i64 d] w fun e w' => e = .returned (tv n s) ∧ Below w.heap.size w w')) (w : World) :
    Calls Try.prog 20 #[tv n s, tv 0 0] w fun e w' => e = .returned (.int .i64 d) ∧ Below w.heap.size w w' := by
  have ha := and_zero hr0 hr1
  have hm0 := mono0 (n := 0) (by omega) (by omega)
  have HE : Hid (∀ w, Calls Try.prog 29 #[tv n s, tv n s] w fun e w' => e = .returned (.bool true) ∧ Below w.heap.size w w') := fun w => equal_same n s hr0 hr1 w
  unfold tv
  go_enter Try.func20, Try.ntmps20
  go_wp2_with fail
  refine (sec_any w.heap.size 0 n s hr0 hr1 _ (by simp) (by simp)).mono ?_
  rintro e w' ⟨rfl, rfl⟩
  go_wp2_with fail
  refine (sec_any (w.heap.size + 1) 0 0 0 (by omega) (by omega) _ (by simp) (by simp)).mono ?_
  rintro e w' ⟨rfl, rfl⟩
  go_wp2_with fail
  refine (nsec_any w.heap.size 0 n hr0 hr1 _ (by simp)).mono ?_
  rintro e w' ⟨rfl, rfl⟩
  go_wp2_with fail
  refine (nsec_any (w.heap.size + 1) 0 0 (by omega) (by omega) _ (by simp)).mono ?_
  rintro e w' ⟨rfl, rfl⟩
  go_wp2
  rw [HB.out]
  unfold tv at HA HE
  go_region_with (first | (go_at_call 18; refine (HA.out _).mono ?_; rintro e w1 ⟨rfl, hb1⟩; obtain ⟨hc1, hf1⟩ := bcell hb1) | (go_at_call 29; refine (HE.out _).mono ?_; rintro e w2 ⟨rfl, hb2⟩))
  all_goals
    clear hc1 hf1
    have hw1 : Below w.heap.size w w1 := (((Below.refl _ w).alloc (Nat.le_refl _) _).alloc (by simp) _).drew.trans (hb1.mono (by simp; omega))
    have hw2 : Below w.heap.size w w2 := hw1.trans (hb2.mono hw1.size)
    clear hb1 hb2 hw1
    go_wp2
    go_ret
    exact ⟨rfl, hw2⟩

theorem sub_zero (d : Int) (hd0 : -9223372036854775808 ≤ d) (hd1 : d ≤ 9223372036854775807) (w : World) :
    Calls Try.prog 20 #[tv (rest d) (secs d), tv 0 0] w fun e w' => e = .returned (.int .i64 d) ∧ Below w.heap.size w w' :=
  sub_core (rest d) (secs d) d (rest_lo d) (rest_hi d) (secs_bd hd0 hd1).1 (secs_bd hd0 hd1).2 (back hd0 hd1) (fun w => add_zero d hd0 hd1 w) w

end Go.Proofs.Qxb6615065a
