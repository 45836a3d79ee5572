/-
  Seat b6608600aD: the law FnWriteListCutAnywhere, its middle: the sizes are summed, the two lists laid end to end.
-/
import Derived.Test.Qxb6608600aDoorCutC
import Derived.Deep.CutBlock
namespace Go.Proofs.Qxb6608600aDoor
open Go.RowKit
set_option linter.unusedVariables false

set_option maxRecDepth 100000 in
set_option maxHeartbeats 40000000 in
theorem cut_mid {u5 u6 u7 u8 u9 u10 u11 u12 u13 u14 u15 u16 u17 u18 u19 u20 u21 u22 u23 u24 u25 u26 u27 u28 u29 u30 u31 u32 u33 u34 u35 u36 u37 u38 u39 u40 u41 u42 u43 u44 u45 u46 u47 u48 u49 u50 u51 u52 u53 u54 u55 u56 u57 u58 u59 u60 u61 u62 u63 u64 u65 u66 u67 u68 u69 u70 u71 u72 u73 u74 u75 u76 u77 u78 u79 u80 u81 u82 u83 u84 u85 u86 u87 u88 u89 u90 u91 u92 u93 u94 u95 u96 u97 u98 u99 u100 u101 u102 u103 u104 u105 u106 u107 u108 u109 u110 u111 u112 u113 u114 u115 u116 u117 u118 u119 u120 u121 u122 u123 u124 u125 u126 u127 u128 u129 u130 u131 u132 u133 u134 u135 u136 u137 u138 u139 u140 u141 u142 u143 u144 u145 u146 u147 u148 u149 u150 u151 u152 u153 u154 u155 u156 u157 u158 u159 u160 u161 u162 u163 u164 u165 u166 u167 u168 u169 u170 u171 u172 u173 u174 u175 u176 u177 u178 u179 u180 u181 u182 u183 u184 u185 u186 u187 u188 u189 u190 u191 u192 u193 u194 u195 u196 u197 u198 u199 u200 u201 u202 u203 u204 u205 u206 u207 u208 u209 u210 u211 u212 u213 u214 u215 u216 u217 u218 u219 u220 u221 u222 u223 u224 u225 : Value} (p o c : ByteArray) (xa xb : List ByteArray) (w wc : World) (ao2 bo2 : Option Addr) (ca2 cb2 : Nat) (HR : Hid (Short xa xa.length ∧ Short xb xb.length))
    (g1 : (p.size : Int) ≤ 1048576) (g2 : (o.size : Int) ≤ 1048576) (g3 : (c.size : Int) ≤ 1048576) (g4 : (xa.length : Int) ≤ 65536) (g5 : (xb.length : Int) ≤ 65536)
    (HA2 : Hid (Names wc (.slice ao2 xa.length ca2) xa)) (HN2 : Hid (Names wc (.slice bo2 xb.length cb2) xb)) (HB2 : Hid (Below w.heap.size w wc)) (hx1 : xa.length ≤ ca2) (hx2 : ca2 ≤ 9223372036854775807) (hy1 : xb.length ≤ cb2) (hy2 : cb2 ≤ 9223372036854775807)
    {cd : Code} (hcd : Tryd.f3.body = some cd) :
    Code.wp Tryd.prog (tailN 5 cd) (bodyPost Tryd.prog Tryd.f3 fun e w' => e = .returned (.bool true) ∧ Below w.heap.size w w') { tmps := #[.string p, .string o, .slice ao2 xa.length ca2, .slice bo2 xb.length cb2, .string c, u5, u6, u7, u8, u9, u10, u11, u12, u13, u14, u15, u16, u17, u18, u19, u20, u21, u22, u23, u24, u25, u26, u27, u28, u29, u30, u31, u32, u33, u34, u35, u36, u37, u38, u39, u40, u41, u42, u43, u44, u45, u46, u47, u48, u49, u50, u51, u52, u53, u54, u55, u56, u57, u58, u59, u60, u61, u62, u63, u64, u65, u66, u67, u68, u69, u70, u71, u72, u73, u74, u75, u76, u77, u78, u79, u80, u81, u82, u83, u84, u85, u86, u87, u88, u89, u90, u91, u92, u93, u94, u95, u96, u97, u98, u99, u100, u101, u102, u103, u104, u105, u106, u107, u108, u109, u110, u111, u112, u113, u114, u115, u116, u117, u118, u119, u120, u121, u122, u123, u124, u125, u126, u127, u128, u129, u130, u131, u132, u133, u134, u135, u136, u137, u138, u139, u140, u141, u142, u143, u144, u145, u146, u147, u148, u149, u150, u151, u152, u153, u154, u155, u156, u157, u158, u159, u160, u161, u162, u163, u164, u165, u166, u167, u168, u169, u170, u171, u172, u173, u174, u175, u176, u177, u178, u179, u180, u181, u182, u183, u184, u185, u186, u187, u188, u189, u190, u191, u192, u193, u194, u195, u196, u197, u198, u199, u200, u201, u202, u203, u204, u205, u206, u207, u208, u209, u210, u211, u212, u213, u214, u215, u216, u217, u218, u219, u220, u221, u222, u223, u224, u225], defers := [] } wc := by
  cases hcd
  simp only [tailN]
  go_wp2
  any_goals (go_ret; exact ⟨rfl, HB2.out⟩)
  go_loop [13, 14] (fun n j => ∃ (z : Int) (k : Nat), k ≤ xa.length ∧ n = .int .i64 z ∧ j = .int .i64 k) (fun _ j => xa.length - (intOf j).toNat)
  case atStart => exact ⟨_, 0, Nat.zero_le _, rfl, rfl⟩
  case round =>
    obtain ⟨z, k, hk, rfl, rfl⟩ := hrel
    by_cases hlt : k < xa.length
    · obtain ⟨g, off, c', hv, c0⟩ := HA2.out.cell (Below.refl _ _) k hlt
      cases hv
      have hlt' : (k : Int) < (xa.length : Int) := by omega
      go_wp2
      any_goals (go_ret; exact ⟨rfl, HB2.out⟩)
      all_goals
        go_round
        case rel => exact ⟨_, k + 1, by omega, rfl, by go_num⟩
        case measure => simp [intOf]; omega
    · obtain rfl : k = xa.length := by omega
      go_wp2
      go_loop [13, 15] (fun n j => ∃ (z : Int) (k : Nat), k ≤ xb.length ∧ n = .int .i64 z ∧ j = .int .i64 k) (fun _ j => xb.length - (intOf j).toNat)
      case atStart => exact ⟨_, 0, Nat.zero_le _, rfl, rfl⟩
      case round =>
        obtain ⟨z2, k, hk2, rfl, rfl⟩ := hrel
        by_cases hlt : k < xb.length
        · obtain ⟨g, off, c', hv, c0⟩ := HN2.out.cell (Below.refl _ _) k hlt
          cases hv
          have hlt' : (k : Int) < (xb.length : Int) := by omega
          go_wp2
          any_goals (go_ret; exact ⟨rfl, HB2.out⟩)
          all_goals
            go_round
            case rel => exact ⟨_, k + 1, by omega, rfl, by go_num⟩
            case measure => simp [intOf]; omega
        · obtain rfl : k = xb.length := by omega
          have hmr : ∀ w, (Instr.makeSlice 22 (.int .i64 0) (.int .i64 ((xa.length : Int) + (xb.length : Int)))).run Tryd.prog w = .ok (.slice (some ⟨w.heap.size, 0, none⟩) 0 (xa.length + xb.length)) (w.alloc (.cells (madeCells #[.string ⟨#[]⟩] (xa.length + xb.length)) 9)) := fun w => by
            rw [← Int.natCast_add]
            exact run_make_room 22 9 (.string ⟨#[]⟩) 16 Tryd.underlying22 info9 rfl .i64 .i64 _ (by omega) (by omega) w
          go_wp2
          clear hmr
          obtain ⟨xs, HX⟩ : ∃ xs, Hid (xs = xa ++ xb) := ⟨_, rfl⟩
          have HL : Hid (xs.length = xa.length + xb.length) := by show xs.length = _; rw [HX.out, List.length_append]
          have HO0 := Lib.hid (own_start wc (xa.length + xb.length) (by unfold maxLen; omega))
          go_loopw [16, 17] (fun v j wr => ∃ k : Nat, k ≤ xa.length ∧ j = .int .i64 k ∧ Hid (wr.ownsRow wc.heap.size 9 1 v k (taken xs k)) ∧ Hid (Below wc.heap.size wc wr)) (fun _ j _ => xa.length - (intOf j).toNat)
          case atStart => exact ⟨0, Nat.zero_le _, rfl, HO0, (Below.refl _ _).alloc (Nat.le_refl _) _⟩
          case round =>
            clear HO0
            obtain ⟨k, hk3, rfl, HO, HBr⟩ := hrel
            by_cases hlt : k < xa.length
            · obtain ⟨g, off, c', hv, c0⟩ := HA2.out.cell HBr.out k hlt
              cases hv
              have hlt' : (k : Int) < (xa.length : Int) := by omega
              obtain ⟨i0, hi, hz0, hz1, hz2⟩ := info_parts info9
              go_wp2_with (at_builtin; refine wpList_append_own _ rfl _ _ 22 rfl wc.heap.size 9 i0 (.string ⟨#[]⟩) 1 16 Tryd.underlying22 hi hz0 hz1 hz2 rfl (by decide) _ _ _ rfl (HO.out.alloc _) ⟨wr.heap.size, 0, none⟩ 1 1 [.string xa[k]] rfl rfl ?c1 ?c2 ?c3 ?c4 ?c5 ?_)
              case c1 =>
                intro j u hj
                match j, hj with
                | 0, hj => simp at hj; subst hj; simp [Addr.add]
              case c2 => intro u hu; simp at hu; subst hu; rfl
              case c3 => unfold maxLen; omega
              case c4 => omega
              case c5 => have := HBr.out.size; simp; omega
              intro v' w2 hown' hgrow _
              rw [taken_snoc (by rw [HX.out, List.getElem?_append_left hlt]; exact List.getElem?_eq_getElem hlt)] at hown'
              have HO' := Lib.hid hown'
              have HBn : Hid (Below wc.heap.size wc w2) := (HBr.out.alloc HBr.out.size _).grown hgrow (by have := HBr.out.size; simp; omega) (fun q hq => (HO.out.lt q hq).1)
              clear hown' hgrow c0
              go_wp2
              go_roundw
              case rel => exact ⟨k + 1, by omega, by go_num, HO', HBn⟩
              case measure => simp [intOf]; omega
            · obtain rfl : k = xa.length := by omega
              go_upto_block 6 with fail
              go_cut [16, 18] (fun v _ wx => Hid (wx.ownsRow wc.heap.size 9 1 v (xa.length + xb.length) (taken xs (xa.length + xb.length))) ∧ Hid (Below wc.heap.size wc wx))
              case rest =>
                obtain ⟨HO', HB'⟩ := hcut
                exact (by assumption : ∀ (a : Act) (w : World), Code.wp Tryd.prog _ _ a w → _) _ _
                  (cut_end (p := p) (o := o) (c := c) (xa := xa) (xb := xb) (xs := xs) (w := w) (wc := _) (wr := _) (ao2 := ao2) (bo2 := bo2) (ca2 := ca2) (cb2 := cb2) (HR := HR) (g1 := g1) (g2 := g2) (g3 := g3) (g4 := g4) (g5 := g5) (HA2 := HA2) (HN2 := HN2) (HB2 := HB2) (HX := HX) (HL := HL) (HO := HO') (HBr := HB') (hcd := rfl))
              case first =>
                go_wp2
                go_loopw [16, 18] (fun v j wr => ∃ k : Nat, k ≤ xb.length ∧ j = .int .i64 k ∧ Hid (wr.ownsRow wc.heap.size 9 1 v (xa.length + k) (taken xs (xa.length + k))) ∧ Hid (Below wc.heap.size wc wr)) (fun _ j _ => xb.length - (intOf j).toNat)
                case atStart => exact ⟨0, Nat.zero_le _, rfl, HO, HBr⟩
                case round =>
                  clear HO HBr
                  obtain ⟨k, hk4, rfl, HO, HBr⟩ := hrel
                  by_cases hlt : k < xb.length
                  · obtain ⟨g, off, c', hv, c0⟩ := HN2.out.cell HBr.out k hlt
                    cases hv
                    have hlt' : (k : Int) < (xb.length : Int) := by omega
                    obtain ⟨i0, hi, hz0, hz1, hz2⟩ := info_parts info9
                    go_wp2_with (at_builtin; refine wpList_append_own _ rfl _ _ 22 rfl wc.heap.size 9 i0 (.string ⟨#[]⟩) 1 16 Tryd.underlying22 hi hz0 hz1 hz2 rfl (by decide) _ _ _ rfl (HO.out.alloc _) ⟨wr.heap.size, 0, none⟩ 1 1 [.string xb[k]] rfl rfl ?c1 ?c2 ?c3 ?c4 ?c5 ?_)
                    case c1 =>
                      intro j u hj
                      match j, hj with
                      | 0, hj => simp at hj; subst hj; simp [Addr.add]
                    case c2 => intro u hu; simp at hu; subst hu; rfl
                    case c3 => unfold maxLen; omega
                    case c4 => omega
                    case c5 => have := HBr.out.size; simp; omega
                    intro v' w2 hown' hgrow _
                    rw [taken_snoc (by rw [HX.out, List.getElem?_append_right (by omega), Nat.add_sub_cancel_left]; exact List.getElem?_eq_getElem hlt)] at hown'
                    have HO' := Lib.hid hown'
                    have HBn : Hid (Below wc.heap.size wc w2) := (HBr.out.alloc HBr.out.size _).grown hgrow (by have := HBr.out.size; simp; omega) (fun q hq => (HO.out.lt q hq).1)
                    clear hown' hgrow c0
                    go_wp2
                    go_roundw
                    case rel => exact ⟨k + 1, by omega, by go_num, HO', HBn⟩
                    case measure => simp [intOf]; omega
                  · obtain rfl : k = xb.length := by omega
                    go_wp2
                    go_meet
                    case rel => exact ⟨HO, HBr⟩

end Go.Proofs.Qxb6608600aDoor
