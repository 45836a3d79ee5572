/-
  Seat b6608600aD: the law FnWriteListReadsBack, its end: the text is written, cut and read back.
-/
import Derived.Test.Qxb6608600aDoorCopy
import Derived.Test.Qxb6608600aDoorBack1
namespace Go.Proofs.Qxb6608600aDoor
open Go.RowKit
set_option linter.unusedVariables false

theorem ext_data (x : ByteArray) (a b : Nat) : (x.extract a b).data.toList = (x.data.toList.drop a).take (b - a) := by
  have h := ByteArray.extract_mk x.data.toList a b
  have e : (⟨x.data.toList.toArray⟩ : ByteArray) = x := rfl
  rw [e] at h
  rw [h]

theorem ext_left (A C : ByteArray) : (A ++ C).extract 0 A.size = A := by
  apply ba_ext
  rw [ext_data, ba_app, List.drop_zero, Nat.sub_zero, ← data_len, List.take_left]

theorem ext_right (A C : ByteArray) : (A ++ C).extract A.size (A.size + C.size) = C := by
  apply ba_ext
  rw [ext_data, ba_app, ← data_len A, List.drop_left, Nat.add_sub_cancel_left, ← data_len C, List.take_length]

theorem ext_mid (A B C : ByteArray) : (A ++ B ++ C).extract A.size (A.size + B.size) = B := by
  apply ba_ext
  rw [ext_data, ba_app, ba_app, List.append_assoc, ← data_len A, List.drop_left, Nat.add_sub_cancel_left, ← data_len B, List.take_left]

/-- What follows the first n statements. -/
def tailM : Nat → Code → Code
  | 0, c => c
  | n + 1, .seq _ b => tailM n b
  | _ + 1, c => c

/-- Where the reading stands. -/
def AtK (xs : List ByteArray) (M : ByteArray) (k st i : Nat) : Prop :=
  (∃ h : k < xs.length, st = offs xs k ∧ offs xs k ≤ i ∧ i ≤ offs xs k + xs[k].size) ∨ (k = xs.length ∧ i = M.size + 1)

set_option maxRecDepth 100000 in
set_option maxHeartbeats 40000000 in
theorem back_end {u4 u5 u6 u7 u8 u9 u10 u11 u12 u13 u14 u15 u16 u17 u18 u19 u20 u21 u22 u23 u24 u25 u26 u27 u28 u29 u30 u31 u32 u33 u34 u35 u36 u37 u38 u39 u40 u41 u42 u43 u44 u45 u46 u47 u48 u49 u50 u51 u52 u53 u54 u55 u56 u57 u58 u59 u60 u61 u62 u63 u64 u65 u66 u67 u68 u69 u70 u71 u72 u73 u74 u75 u76 u77 u78 u79 u80 u81 u82 u83 u84 u85 u86 u87 u88 u89 u90 u91 u92 u93 u94 u95 u96 u97 u98 u99 u100 u101 u102 u103 u104 u105 u106 u107 u108 u109 u110 u111 u112 u113 u114 u115 u116 u117 u118 u119 u120 u121 u122 u123 u124 u125 u126 u127 u128 u129 u130 u131 u132 u133 u134 u135 u136 u137 u138 u139 u140 u141 u142 u143 u144 u145 u146 u147 u148 u149 u150 u151 u152 u153 u154 u155 u156 u157 u158 u159 u160 u161 u162 u163 u164 u165 u166 u167 u168 u169 u170 u171 u172 u173 u174 u175 u176 u177 u178 u179 u180 u181 u182 u183 u184 u185 u186 u187 u188 u189 u190 u191 u192 u193 u194 u195 u196 u197 u198 u199 u200 u201 u202 u203 u204 u205 u206 u207 u208 u209 u210 u211 u212 : Value} (p o c : ByteArray) (xs : List ByteArray) (w wc : World) (ao2 : Option Addr) (ca2 : Nat) (HR : Hid (Short xs xs.length))
    (g1 : (p.size : Int) ≤ 1048576) (g2 : (o.size : Int) ≤ 1048576) (g3 : (c.size : Int) ≤ 1048576) (g4 : (xs.length : Int) ≤ 65536)
    (HA2 : Hid (Names wc (.slice ao2 xs.length ca2) xs)) (HB2 : Hid (Below w.heap.size w wc)) (HCl : Hid (Clean xs xs.length))
    {cd : Code} (hcd : Tryd.f4.body = some cd) :
    Code.wp Tryd.prog (tailM 8 cd) (bodyPost Tryd.prog Tryd.f4 fun e w' => e = .returned (.bool true) ∧ Below w.heap.size w w') { tmps := #[.string p, .string o, .slice ao2 xs.length ca2, .string c, u4, u5, u6, u7, u8, u9, u10, u11, u12, u13, u14, u15, u16, u17, u18, u19, u20, u21, u22, u23, u24, u25, u26, u27, u28, u29, u30, u31, u32, u33, u34, u35, u36, u37, u38, u39, u40, u41, u42, u43, u44, u45, u46, u47, u48, u49, u50, u51, u52, u53, u54, u55, u56, u57, u58, u59, u60, u61, u62, u63, u64, u65, u66, u67, u68, u69, u70, u71, u72, u73, u74, u75, u76, u77, u78, u79, u80, u81, u82, u83, u84, u85, u86, u87, u88, u89, u90, u91, u92, u93, u94, u95, u96, u97, u98, u99, u100, u101, u102, u103, u104, u105, u106, u107, u108, u109, u110, u111, u112, u113, u114, u115, u116, u117, u118, u119, u120, u121, u122, u123, u124, u125, u126, u127, u128, u129, u130, u131, u132, u133, u134, u135, u136, u137, u138, u139, u140, u141, u142, u143, u144, u145, u146, u147, u148, u149, u150, u151, u152, u153, u154, u155, u156, u157, u158, u159, u160, u161, u162, u163, u164, u165, u166, u167, u168, u169, u170, u171, u172, u173, u174, u175, u176, u177, u178, u179, u180, u181, u182, u183, u184, u185, u186, u187, u188, u189, u190, u191, u192, u193, u194, u195, u196, u197, u198, u199, u200, u201, u202, u203, u204, u205, u206, u207, u208, u209, u210, u211, u212], defers := [] } wc := by
  cases hcd
  simp only [tailM]
  obtain ⟨M, eM⟩ : ∃ M, Hid ((⟨(joinTo xs xs.length).toArray⟩ : ByteArray) = M) := ⟨_, show _ = _ from rfl⟩
  have HW : Hid (written p o xs c = p ++ o ++ M ++ c) := by show _ = _; rw [← eM.out]; exact written_mid p o c xs
  have HMs : Hid (M.size ≤ 65536 * 1048578) := by
    show _ ≤ _
    rw [← eM.out, ← data_len]
    exact Nat.le_trans (joinTo_len (short_all HR.out) _) (Nat.mul_le_mul_right _ (by omega))
  have hMs : (M.size : Int) ≤ 68719607808 := by have := HMs.out; omega
  go_wp2_with fail
  refine (zzWriteList_any p o c _ xs wc HA2.out (by omega) (by omega) (by omega) (short_all HR.out) (by omega)).mono ?_
  rintro e w4 ⟨he, hb4⟩
  rw [HW.out] at he
  subst he
  have HF : Hid (Below w.heap.size w w4) := HB2.out.trans (hb4.mono HB2.out.size)
  have HA4 := Lib.hid (HA2.out.stay hb4)
  clear hb4
  have e1 : (p ++ o ++ M ++ c).extract 0 (p.size + o.size) = p ++ o := by
    have h := ext_left (p ++ o) (M ++ c)
    rw [ByteArray.size_append] at h
    rw [show p ++ o ++ M ++ c = (p ++ o) ++ (M ++ c) from ByteArray.append_assoc]
    exact h
  have e2 : (p ++ o ++ M ++ c).extract (p.size + o.size + M.size) (p.size + o.size + M.size + c.size) = c := by
    have h := ext_right (p ++ o ++ M) c
    rw [ByteArray.size_append, ByteArray.size_append] at h
    exact h
  have hsl : ∀ w, (Instr.slice 9 (.string (p ++ o ++ M ++ c)) (some (.int .i64 ((p.size : Int) + (o.size : Int)))) (some (.int .i64 ((p.size : Int) + (o.size : Int) + (M.size : Int)))) none).run Tryd.prog w = .ok (.string M) w := fun w => by
    rw [run_slice_string w 9 _ .i64 .i64 _ _ Tryd.underlying9 (by omega) (by omega) (by rw [ByteArray.size_append, ByteArray.size_append, ByteArray.size_append]; omega)]
    have h := ext_mid (p ++ o) M c
    rw [ByteArray.size_append] at h
    rw [show ((p.size : Int) + (o.size : Int)).toNat = p.size + o.size by omega, show ((p.size : Int) + (o.size : Int) + (M.size : Int)).toNat = p.size + o.size + M.size by omega, h]
  by_cases h0 : xs.length = 0
  · have hx : xs = [] := List.eq_nil_of_length_eq_zero h0
    subst hx
    have hM0 : Hid (M = ⟨#[]⟩) := eM.out.symm
    go_wp2
    go_ret
    refine ⟨?_, HF.out⟩
    show Ending.returned (.bool M.toList.isEmpty) = _
    rw [Go.ByteArray.toList_eq, hM0.out]
    rfl
  · have h0' : ((xs.length : Int) == 0) = false := beq_eq_false_iff_ne.2 (by omega)
    go_wp2
    clear e1 e2 hsl
    go_loop [18, 19, 20] (fun s18 s19 s20 => ∃ k st i : Nat, s18 = .int .i64 k ∧ s19 = .int .i64 st ∧ s20 = .int .i64 i ∧ Hid (AtK xs M k st i)) (fun _ _ s20 => M.size + 2 - (intOf s20).toNat)
    case atStart => exact ⟨0, 0, 0, rfl, rfl, rfl, Or.inl ⟨by omega, rfl, Nat.le_refl _, Nat.zero_le _⟩⟩
    case round =>
      obtain ⟨k, st, i, rfl, rfl, rfl, HK⟩ := hrel
      rcases id HK.out with ⟨hk, hst, hi0, hi1⟩ | ⟨hk, hi⟩
      · obtain ⟨m1, m2, m3, m4, m5⟩ := mid_at eM.out hk
        by_cases hlt : i < offs xs k + xs[k].size
        · have hiM : i < M.size := by omega
          have a1 : (i : Int) ≤ (M.size : Int) := by omega
          have a1' : (i : Int) < (M.size : Int) := by omega
          have a2 : ((i : Int) == (M.size : Int)) = false := beq_eq_false_iff_ne.2 (by omega)
          have a3 : ((M[i].toNat : Int) == 44) = false := by
            have hj : i - offs xs k < xs[k].size := by omega
            rw [m3 i hiM (i - offs xs k) hj (by omega)]
            exact HCl.out k hk hk _ hj hj
          have HN : Hid (AtK xs M k st (i + 1)) := Or.inl ⟨hk, hst, by omega, by omega⟩
          clear m1 m2 m3 m4 m5 hst hi0 hi1 hlt
          go_wp2
          go_round
          case rel => exact ⟨k, st, i + 1, rfl, rfl, by go_num, HN⟩
          case measure => simp [intOf]; omega
        · have hie : i = offs xs k + xs[k].size := by omega
          have hslk : ∀ w, (Instr.slice 9 (.string M) (some (.int .i64 (st : Int))) (some (.int .i64 (i : Int))) none).run Tryd.prog w = .ok (.string xs[k]) w := fun w => by
            rw [run_slice_string w 9 _ .i64 .i64 _ _ Tryd.underlying9 (by omega) (by omega) (by omega), Int.toNat_natCast, Int.toNat_natCast, hst, hie, m1]
          obtain ⟨g, off, c', hv, c0⟩ := HA4.out.cell (Below.refl _ _) k hk
          cases hv
          have hk' : (k : Int) < (xs.length : Int) := by omega
          by_cases hl : k + 1 = xs.length
          · have hMi := m4 hl
            have a2 : ((i : Int) == (M.size : Int)) = true := beq_iff_eq.2 (by omega)
            have a1 : (i : Int) ≤ (M.size : Int) := by omega
            have a4 : ¬ (i : Int) < (M.size : Int) := by omega
            have HN : Hid (AtK xs M (k + 1) st (i + 1)) := Or.inr ⟨hl, by omega⟩
            have hiM := Lib.hid hMi
            have HI := Lib.hid hie
            clear m1 m2 m3 m4 m5 hst hi0 hi1 hlt hMi hie hl
            go_wp2
            go_round
            case rel => exact ⟨k + 1, st, i + 1, by go_num, rfl, by go_num, HN⟩
            case measure => have := hiM.out; have := HI.out; simp [intOf]; omega
          · obtain ⟨q1, q2, q3, q4⟩ := m5 (by omega)
            have hiM : i < M.size := by omega
            have hiM1 : i + 1 < M.size := by omega
            have a1 : (i : Int) ≤ (M.size : Int) := by omega
            have a1' : (i : Int) < (M.size : Int) := by omega
            have a5 : (i : Int) + 1 < (M.size : Int) := by omega
            have a2 : ((i : Int) == (M.size : Int)) = false := beq_eq_false_iff_ne.2 (by omega)
            have a3 : ((M[i].toNat : Int) == 44) = true := by rw [q3 i hiM hie]; rfl
            have a6 : ((M[i + 1].toNat : Int) != 32) = false := by rw [q4 (i + 1) hiM1 (by omega)]; rfl
            have HN : Hid (AtK xs M (k + 1) (i + 2) (i + 2)) := Or.inl ⟨by omega, by omega, by omega, by omega⟩
            clear m1 m2 m3 m4 m5 hst hi0 hi1 hlt hie hl q1 q2 q3 q4
            go_wp2
            go_round
            case rel => exact ⟨k + 1, i + 2, i + 2, by go_num, by go_num, by go_num, HN⟩
            case measure => simp [intOf]; omega
      · have a1 : ¬ (i : Int) ≤ (M.size : Int) := by omega
        have HKn := Lib.hid hk
        clear HK
        subst hk
        go_wp2
        go_ret
        refine ⟨?_, HF.out⟩
        first | rfl | (simp; done)
end Go.Proofs.Qxb6608600aDoor
