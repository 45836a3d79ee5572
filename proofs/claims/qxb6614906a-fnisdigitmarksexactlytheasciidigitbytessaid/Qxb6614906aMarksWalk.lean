/-
  Seat b6614906a: the walk of FnIsDigitMarksExactlyTheASCIIDigitBytes and of its callees.
-/
import Derived.Test.Qxb6614906aMarksPlain
import Derived.WalkKit
import Derived.OpenShut
namespace Go.Proofs.Qxb6614906a.fnIsDigitMarksExactlyTheASCIIDigitBytes
open Go.RowKit

theorem ten {k : Nat} (h : k < 10) : k = 0 ∨ k = 1 ∨ k = 2 ∨ k = 3 ∨ k = 4 ∨ k = 5 ∨ k = 6 ∨ k = 7 ∨ k = 8 ∨ k = 9 := by omega

theorem tenth (k : Nat) (h : k < 10) : (((({ data := #[48, 49, 50, 51, 52, 53, 54, 55, 56, 57] } : ByteArray)[k]'h).toNat : Nat) : Int) = 48 + (k : Int) := by
  rcases ten h with rfl | rfl | rfl | rfl | rfl | rfl | rfl | rfl | rfl | rfl <;> rfl

theorem asciiByte_any (c : Int) (w : World) :
    Calls Try.prog 9 #[.int .u8 c] w fun e w' => e = .returned (.bool (isD c)) ∧ w' = w := by
  go_enter Try.func9, Try.ntmps9
  go_wp2
  go_loop [3] (fun i => ∃ k : Nat, k ≤ 10 ∧ i = .int .i64 k ∧ (c < 48 ∨ 48 + (k : Int) ≤ c)) (fun i => 10 - (intOf i).toNat)
  case atStart => exact ⟨0, by omega, rfl, by omega⟩
  case round =>
    obtain ⟨k, hk, rfl, hc⟩ := hrel
    by_cases hlt : k < 10
    · have hd := tenth k hlt
      by_cases he : c = 48 + k
      · have hf : isD c = true := isD_true (by omega) (by omega)
        have hq : (48 + (k : Int) == c) = true := by rw [he]; simp
        have HF : Hid (isD c = true) := hf
        clear he hf
        go_wp2
        go_ret
        exact ⟨by rw [HF.out]; rfl, rfl⟩
      · have hq : (48 + (k : Int) == c) = false := by simp; omega
        go_wp2
        go_round
        case rel => exact ⟨k + 1, by omega, by go_num, by omega⟩
        case measure => simp [intOf]; omega
    · have hf : isD c = false := isD_false (by omega)
      go_wp2
      go_ret
      exact ⟨rfl, rfl⟩

theorem zzBytes_big (s : ByteArray) (w : World) (h : 1048576 < s.size) :
    Calls Try.prog 7 #[.string s] w fun e w' => e = .returned (.bool false) ∧ w = w' := by
  have h' : (1048576 : Int) < (s.size : Int) := by omega
  go_enter Try.func7, Try.ntmps7
  go_wp2
  go_ret
  exact ⟨rfl, rfl⟩

theorem zzBytes_small (s : ByteArray) (w : World) (h : s.size ≤ 1048576) :
    Calls Try.prog 7 #[.string s] w fun e w' => e = .returned (.bool true) ∧ w = w' := by
  have h' : ¬ (1048576 : Int) < (s.size : Int) := by omega
  go_enter Try.func7, Try.ntmps7
  go_wp2
  go_ret
  exact ⟨rfl, rfl⟩

/-- A string's iterator laid behind a world: of what was there nothing turns. -/
theorem grown_iter (w : World) (s : ByteArray) (pos : Nat) : Grown w (w.iter s pos) := by
  refine ⟨World.keptBut_alloc _ _ _, fun a => ?_, by show w.heap.size ≤ (w.heap.push _).size; simp⟩
  show (w.alloc (.stringIter s pos)).frozen? a = w.frozen? a
  by_cases h : a.block = w.heap.size
  · have e1 : (w.alloc (.stringIter s pos)).heap[a.block]? = some (.stringIter s pos) := by rw [h]; exact (MapKept.heap_alloc w _).1
    have e2 : w.heap[a.block]? = none := by rw [h]; simp
    simp [World.frozen?, e1, e2]
  · exact World.frozen?_alloc_old _ _ _ h

theorem walk (a0 : ByteArray) (w0 : a0.size ≤ maxLen) (w : World) :
    Calls Try.prog 3 #[.string a0] w fun e w' => e = .returned (.bool true) ∧ Grown w w' := by
  unfold maxLen at w0
  by_cases hs : 1048576 < a0.size
  · go_enter Try.func3, Try.ntmps3
    go_wp2_with (go_at_call 7; refine (zzBytes_big _ _ hs).mono ?_; rintro e w' ⟨rfl, rfl⟩)
    go_ret
    exact ⟨rfl, Grown.refl _⟩
  · have hs' : a0.size ≤ 1048576 := by omega
    go_enter Try.func3, Try.ntmps3
    go_wp2_with (go_at_call 7; refine (zzBytes_small _ _ hs').mono ?_; rintro e w' ⟨rfl, rfl⟩)
    go_loopw [3] (fun n wr => ∃ pos : Nat, pos ≤ a0.size ∧ wr = w.iter a0 pos ∧ n = .int .i64 (cntB a0 pos : Nat)) (fun _ wr => a0.size - wr.iterPos w.heap.size)
    case atStart => exact ⟨0, Nat.zero_le _, rfl, rfl⟩
    case round =>
      obtain ⟨pos, hpos, rfl, rfl⟩ := hrel
      have hcl := cntB_le a0 pos
      by_cases hp : pos < a0.size
      · have hmu : (w.iter a0 pos).iterPos w.heap.size = pos := World.iterPos_iter w a0 pos
        obtain ⟨hn1, hn2, hr, hcnt⟩ := step a0 pos hp
        have hnext : ∀ ty, (Instr.next (.pointer (some ⟨w.heap.size, 0, none⟩)) true ty).run Try.prog (w.iter a0 pos) = _ := fun ty => run_next_any w a0 pos ty hp
        generalize Utf8.decode a0 pos = d at hn1 hn2 hr hcnt hnext
        obtain ⟨r, n⟩ := d
        have HC : Hid (cntB a0 (pos + n) = cntB a0 pos + if isD ((a0[pos]'hp).toNat : Int) then 1 else 0) := hcnt
        have HN : 1 ≤ n := hn1
        have HN2 : pos + n ≤ a0.size := hn2
        clear hcnt hn1 hn2
        by_cases hb : isD ((a0[pos]'hp).toNat : Int) = true
        · rw [hb] at hr
          go_wp2_with (first | (go_at_call 8; refine (zzIsDigit_any _ _).mono ?_; rintro e w' ⟨rfl, rfl⟩) | (go_at_call 9; refine (asciiByte_any _ _).mono ?_; rintro e w' ⟨rfl, rfl⟩))
          go_roundw
          case rel => exact ⟨pos + n, HN2, rfl, by rw [HC.out, hb]; go_num⟩
          case measure => rw [World.iterPos_iter, World.iterPos_iter]; omega
        · have hb' : isD ((a0[pos]'hp).toNat : Int) = false := by simpa using hb
          clear hb
          rw [hb'] at hr
          go_wp2_with (first | (go_at_call 8; refine (zzIsDigit_any _ _).mono ?_; rintro e w' ⟨rfl, rfl⟩) | (go_at_call 9; refine (asciiByte_any _ _).mono ?_; rintro e w' ⟨rfl, rfl⟩))
          go_roundw
          case rel => exact ⟨pos + n, HN2, rfl, by rw [HC.out, hb']; rfl⟩
          case measure => rw [World.iterPos_iter, World.iterPos_iter]; omega
      · obtain rfl : pos = a0.size := by omega
        have hnext : ∀ ty, (Instr.next (.pointer (some ⟨w.heap.size, 0, none⟩)) true ty).run Try.prog (w.iter a0 a0.size) = _ := fun ty => run_next_end w a0 a0.size ty hp
        clear hp hpos
        go_wp2
        go_loop [7, 8] (fun n i => ∃ k : Nat, k ≤ a0.size ∧ i = .int .i64 k ∧ n = .int .i64 (cntB a0 k : Nat)) (fun _ i => a0.size - (intOf i).toNat)
        case atStart => exact ⟨0, Nat.zero_le _, rfl, rfl⟩
        case round =>
          obtain ⟨k, hk, rfl, rfl⟩ := hrel
          have hck := cntB_le a0 k
          by_cases hlt : k < a0.size
          · have hsucc : cntB a0 (k + 1) = cntB a0 k + if isD ((a0[k]'hlt).toNat : Int) then 1 else 0 := by
              show cntB a0 k + (if isD ((a0.get! k).toNat : Int) then 1 else 0) = _
              rw [show a0.get! k = a0[k]'hlt from get_at a0 k hlt]
            have HS : Hid (cntB a0 (k + 1) = cntB a0 k + if isD ((a0[k]'hlt).toNat : Int) then 1 else 0) := hsucc
            clear hsucc
            by_cases hb : isD ((a0[k]'hlt).toNat : Int) = true
            · go_wp2_with (go_at_call 9; refine (asciiByte_any _ _).mono ?_; rintro e w' ⟨rfl, rfl⟩)
              go_round
              case rel => exact ⟨k + 1, by omega, by go_num, by rw [HS.out, hb]; go_num⟩
              case measure => simp [intOf]; omega
            · have hb' : isD ((a0[k]'hlt).toNat : Int) = false := by simpa using hb
              clear hb
              go_wp2_with (go_at_call 9; refine (asciiByte_any _ _).mono ?_; rintro e w' ⟨rfl, rfl⟩)
              go_round
              case rel => exact ⟨k + 1, by omega, by go_num, by rw [HS.out, hb']; rfl⟩
              case measure => simp [intOf]; omega
          · obtain rfl : k = a0.size := by omega
            go_wp2
            go_ret
            exact ⟨rfl, grown_iter _ _ _⟩

end Go.Proofs.Qxb6614906a.fnIsDigitMarksExactlyTheASCIIDigitBytes
