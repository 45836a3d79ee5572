/-
  Seat b6608600aD: the law FnWriteListCutAnywhere, its end: the three texts are written and compared.
-/
import Derived.Test.Qxb6608600aDoorCopy
import Derived.Test.Qxb6608600aDoorPlain
namespace Go.Proofs.Qxb6608600aDoor
open Go.RowKit

/-- What follows the first n statements. -/
def tailN : Nat → Code → Code
  | 0, c => c
  | n + 1, .seq _ b => tailN n b
  | _ + 1, c => c

set_option maxRecDepth 100000 in
set_option maxHeartbeats 40000000 in
theorem cut_end {u5 u6 u7 u8 u9 u10 u11 u12 u13 u14 u15 u17 u18 u19 u20 u21 u22 u23 u24 u25 u26 u27 u28 u29 u30 u31 u32 u33 u34 u35 u36 u37 u38 u39 u40 u41 u42 u43 u44 u45 u46 u47 u48 u49 u50 u51 u52 u53 u54 u55 u56 u57 u58 u59 u60 u61 u62 u63 u64 u65 u66 u67 u68 u69 u70 u71 u72 u73 u74 u75 u76 u77 u78 u79 u80 u81 u82 u83 u84 u85 u86 u87 u88 u89 u90 u91 u92 u93 u94 u95 u96 u97 u98 u99 u100 u101 u102 u103 u104 u105 u106 u107 u108 u109 u110 u111 u112 u113 u114 u115 u116 u117 u118 u119 u120 u121 u122 u123 u124 u125 u126 u127 u128 u129 u130 u131 u132 u133 u134 u135 u136 u137 u138 u139 u140 u141 u142 u143 u144 u145 u146 u147 u148 u149 u150 u151 u152 u153 u154 u155 u156 u157 u158 u159 u160 u161 u162 u163 u164 u165 u166 u167 u168 u169 u170 u171 u172 u173 u174 u175 u176 u177 u178 u179 u180 u181 u182 u183 u184 u185 u186 u187 u188 u189 u190 u191 u192 u193 u194 u195 u196 u197 u198 u199 u200 u201 u202 u203 u204 u205 u206 u207 u208 u209 u210 u211 u212 u213 u214 u215 u216 u217 u218 u219 u220 u221 u222 u223 u224 u225 : Value} (p o c : ByteArray) (xa xb xs : List ByteArray) (w wc wr : World) (ao2 bo2 : Option Addr) (ca2 cb2 : Nat) (HR : Hid (Short xa xa.length ∧ Short xb xb.length))
    (g1 : (p.size : Int) ≤ 1048576) (g2 : (o.size : Int) ≤ 1048576) (g3 : (c.size : Int) ≤ 1048576) (g4 : (xa.length : Int) ≤ 65536) (g5 : (xb.length : Int) ≤ 65536)
    (HA2 : Hid (Names wc (.slice ao2 xa.length ca2) xa)) (HN2 : Hid (Names wc (.slice bo2 xb.length cb2) xb)) (HB2 : Hid (Below w.heap.size w wc))
    (HX : Hid (xs = xa ++ xb)) (HL : Hid (xs.length = xa.length + xb.length)) (v16 : Value)
    (HO : Hid (wr.ownsRow wc.heap.size 9 1 v16 (xa.length + xb.length) (taken xs (xa.length + xb.length)))) (HBr : Hid (Below wc.heap.size wc wr))
    {cd : Code} (hcd : Tryd.f3.body = some cd) :
    Code.wp Tryd.prog (tailN 12 cd) (bodyPost Tryd.prog Tryd.f3 fun e w' => e = .returned (.bool true) ∧ Below w.heap.size w w') { tmps := #[.string p, .string o, .slice ao2 xa.length ca2, .slice bo2 xb.length cb2, .string c, u5, u6, u7, u8, u9, u10, u11, u12, u13, u14, u15, v16, u17, u18, u19, u20, u21, u22, u23, u24, u25, u26, u27, u28, u29, u30, u31, u32, u33, u34, u35, u36, u37, u38, u39, u40, u41, u42, u43, u44, u45, u46, u47, u48, u49, u50, u51, u52, u53, u54, u55, u56, u57, u58, u59, u60, u61, u62, u63, u64, u65, u66, u67, u68, u69, u70, u71, u72, u73, u74, u75, u76, u77, u78, u79, u80, u81, u82, u83, u84, u85, u86, u87, u88, u89, u90, u91, u92, u93, u94, u95, u96, u97, u98, u99, u100, u101, u102, u103, u104, u105, u106, u107, u108, u109, u110, u111, u112, u113, u114, u115, u116, u117, u118, u119, u120, u121, u122, u123, u124, u125, u126, u127, u128, u129, u130, u131, u132, u133, u134, u135, u136, u137, u138, u139, u140, u141, u142, u143, u144, u145, u146, u147, u148, u149, u150, u151, u152, u153, u154, u155, u156, u157, u158, u159, u160, u161, u162, u163, u164, u165, u166, u167, u168, u169, u170, u171, u172, u173, u174, u175, u176, u177, u178, u179, u180, u181, u182, u183, u184, u185, u186, u187, u188, u189, u190, u191, u192, u193, u194, u195, u196, u197, u198, u199, u200, u201, u202, u203, u204, u205, u206, u207, u208, u209, u210, u211, u212, u213, u214, u215, u216, u217, u218, u219, u220, u221, u222, u223, u224, u225], defers := [] } wr := by
  cases hcd
  simp only [tailN]
  have HNw := Lib.hid (names_own (B := wc.heap.size) (n := xa.length + xb.length) (xs := xs) (by rw [← taken_all, HL.out]; exact HO.out))
  have hsh : Hid (∀ s ∈ xs, s.size ≤ 1048576) := fun s hs => by
    rw [HX.out] at hs
    rcases List.mem_append.1 hs with h | h
    · exact short_all HR.out.1 s h
    · exact short_all HR.out.2 s h
  obtain ⟨wo, cw, rfl, hw1, hw2, -⟩ := id HNw.out
  obtain ⟨L, eL⟩ : ∃ L, Hid (written p o xa ⟨#[]⟩ = L) := ⟨_, rfl⟩
  obtain ⟨S, eS⟩ : ∃ S, Hid (sepOf xa xb = S) := ⟨_, rfl⟩
  obtain ⟨T, eT⟩ : ∃ T, Hid (written ⟨#[]⟩ ⟨#[]⟩ xb c = T) := ⟨_, rfl⟩
  have HW : Hid (written p o xs c = L ++ S ++ T) := by show _ = _; rw [HX.out, written_cut, eL.out, eS.out, eT.out]
  have hsz : L.size + S.size + T.size = p.size + o.size + c.size + sumSz xs xs.length + 2 * (xs.length - 1) := by
    rw [← written_size, HW.out, ByteArray.size_append, ByteArray.size_append]
  have hN : xs.length ≤ 131072 := by rw [HL.out]; omega
  have hss : sumSz xs xs.length ≤ 131072 * 1048576 := Nat.le_trans (sumSz_le hsh.out _) (Nat.mul_le_mul_right _ hN)
  have hk1 : ¬ 9223372036854775807 < L.size + S.size := by omega
  have hk2 : ¬ 9223372036854775807 < L.size + S.size + T.size := by omega
  have HZ := Lib.hid hsz
  have HSS := Lib.hid hss
  have HN := Lib.hid hN
  clear hsz hss hN
  clear HO
  go_wp2_with fail
  refine (zzWriteList_any p o c _ xs wr HNw.out (by omega) (by omega) (by omega) hsh.out (by rw [HL.out]; omega)).mono ?_
  rintro e w4 ⟨he, hb4⟩
  rw [HW.out] at he
  subst he
  have HB4 : Hid (Below wc.heap.size wc w4) := HBr.out.trans (hb4.mono HBr.out.size)
  have HNw4 := Lib.hid (HNw.out.stay hb4)
  clear hb4 HNw HBr
  go_wp2_with fail
  refine (zzWriteList_any p o ⟨#[]⟩ _ xa w4 (HA2.out.stay HB4.out) (by omega) (by omega) (by decide) (short_all HR.out.1) (by omega)).mono ?_
  rintro e w5 ⟨he, hb5⟩
  rw [eL.out] at he
  subst he
  have HB5 : Hid (Below wc.heap.size wc w5) := HB4.out.trans (hb5.mono HB4.out.size)
  have HNw5 := Lib.hid (HNw4.out.stay hb5)
  clear hb5 HNw4 HB4
  go_wp2_with fail
  refine (zzWriteList_any ⟨#[]⟩ ⟨#[]⟩ c _ xb w5 (HN2.out.stay HB5.out) (by decide) (by decide) (by omega) (short_all HR.out.2) (by omega)).mono ?_
  rintro e w6 ⟨he, hb6⟩
  rw [eT.out] at he
  subst he
  have HB6 : Hid (Below wc.heap.size wc w6) := HB5.out.trans (hb6.mono HB5.out.size)
  have HNw6 := Lib.hid (HNw5.out.stay hb6)
  clear hb6 HNw5 HB5
  obtain ⟨bt, HT⟩ : ∃ bt : Bool, Hid (bt = !(decide (xa.length = 0 ∨ xb.length = 0))) := ⟨_, rfl⟩
  go_upto_region 41 with fail
  go_cut [184] (fun s184 wx => s184 = .bool bt ∧ w6 = wx)
  case first =>
    by_cases h0 : xa.length = 0
    · have hs : bt = false := by rw [HT.out, decide_eq_true (Or.inl h0)]; rfl
      have h0' : ¬ (0 : Int) < (xa.length : Int) := by omega
      clear h0
      go_wp2
      all_goals
        go_meet
        case rel => exact ⟨by subst hs; first | rfl | exact congrArg Value.bool (decide_eq_false (by omega)) | exact congrArg Value.bool (decide_eq_true (by omega)), rfl⟩
    · by_cases h1 : xb.length = 0
      · have hs : bt = false := by rw [HT.out, decide_eq_true (Or.inr h1)]; rfl
        have h1' : ¬ (0 : Int) < (xb.length : Int) := by omega
        have h0' : (0 : Int) < (xa.length : Int) := by omega
        clear h0 h1
        go_wp2
        all_goals
          go_meet
          case rel => exact ⟨by subst hs; first | rfl | exact congrArg Value.bool (decide_eq_false (by omega)) | exact congrArg Value.bool (decide_eq_true (by omega)), rfl⟩
      · have hs : bt = true := by rw [HT.out, decide_eq_false (by omega)]; rfl
        have h0' : (0 : Int) < (xa.length : Int) := by omega
        have h1' : (0 : Int) < (xb.length : Int) := by omega
        go_wp2
        all_goals
          go_meet
          case rel => exact ⟨by subst hs; first | rfl | exact congrArg Value.bool (decide_eq_false (by omega)) | exact congrArg Value.bool (decide_eq_true (by omega)), rfl⟩
  case rest =>
    obtain ⟨rfl, rfl⟩ := hcut
    have HSe : Hid (sepOf xa xb = if bt then ⟨#[44, 32]⟩ else ⟨#[]⟩) := by
      show sepOf xa xb = _
      rw [HT.out]
      unfold sepOf
      by_cases hh : xa.length = 0 ∨ xb.length = 0
      · rw [if_pos hh, decide_eq_true hh]; rfl
      · rw [if_neg hh, decide_eq_false hh]; rfl
    go_upto_if 184 with fail
    go_cut [22] (fun s22 wx => s22 = .string S ∧ w6 = wx)
    case first =>
      cases bt
      · go_wp2
        go_meet
        case rel => exact ⟨by rw [← eS.out, HSe.out]; rfl, rfl⟩
      · go_wp2
        go_meet
        case rel => exact ⟨by rw [← eS.out, HSe.out]; rfl, rfl⟩
    case rest =>
      obtain ⟨rfl, rfl⟩ := hcut
      go_wp2
      have hzb : ∀ k, k ≤ xs.length → sumSz xs k ≤ 131072 * 1048576 := fun k hk => Nat.le_trans (sumSz_le hsh.out _) (Nat.mul_le_mul_right _ (Nat.le_trans hk HN.out))
      have HZB := Lib.hid hzb
      clear hzb
      go_loop [23, 24] (fun n j => ∃ (z : Int) (k : Nat), k ≤ xs.length ∧ n = .int .i64 z ∧ j = .int .i64 k ∧ Hid (z = ((p.size + o.size + c.size + sumSz xs k : Nat) : Int))) (fun _ j => xs.length - (intOf j).toNat)
      case atStart => exact ⟨_, 0, Nat.zero_le _, rfl, rfl, by show _ = _; have : sumSz xs 0 = 0 := rfl; omega⟩
      case round =>
        obtain ⟨z, k, hk5, rfl, rfl, EZ⟩ := hrel
        have hzk := HZB.out k hk5
        have hz0 : 0 ≤ z := by rw [EZ.out]; omega
        have hz1 : z ≤ 137442099200 := by rw [EZ.out]; omega
        have hNi : (xs.length : Int) ≤ 131072 := by have := HN.out; omega
        by_cases hlt : k < xs.length
        · obtain ⟨g, off, c', hv, c0⟩ := HNw6.out.cell (Below.refl _ _) k hlt
          cases hv
          have hlt' : (k : Int) < (xs.length : Int) := by omega
          have hs1 : (xs[k].size : Int) ≤ 1048576 := by have := hsh.out _ (List.getElem_mem hlt); omega
          have ES : Hid (sumSz xs (k + 1) = sumSz xs k + xs[k].size) := sumSz_succ hlt
          go_wp2
          go_round
          case rel => exact ⟨_, k + 1, by omega, rfl, by go_num, by show _ = _; rw [ES.out, EZ.out]; omega⟩
          case measure => simp [intOf]; omega
        · obtain rfl : k = xs.length := by omega
          have HF : Hid (Below w.heap.size w w6) := HB2.out.trans (HB6.out.mono HB2.out.size)
          by_cases h1 : (1 : Int) < (xs.length : Int)
          · have he : ((L.size : Int) + (S.size : Int) + (T.size : Int) == z + 2 * ((xs.length : Int) - 1)) = true := by
              rw [beq_iff_eq, EZ.out]
              have := HZ.out
              omega
            have HE := Lib.hid he
            clear he
            go_wp2
            go_ret
            refine ⟨?_, HF.out⟩
            show Ending.returned (.bool ((L.size : Int) + (S.size : Int) + (T.size : Int) == z + 2 * ((xs.length : Int) - 1))) = _
            rw [HE.out]
          · have he : ((L.size : Int) + (S.size : Int) + (T.size : Int) == z) = true := by
              rw [beq_iff_eq, EZ.out]
              have := HZ.out
              omega
            have HE := Lib.hid he
            clear he
            go_wp2
            go_ret
            refine ⟨?_, HF.out⟩
            show Ending.returned (.bool ((L.size : Int) + (S.size : Int) + (T.size : Int) == z)) = _
            rw [HE.out]

end Go.Proofs.Qxb6608600aDoor
