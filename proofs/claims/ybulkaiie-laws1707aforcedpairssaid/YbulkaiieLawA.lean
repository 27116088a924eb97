/-
  The law's first part: loop 1.
-/
import Derived.Test.YbulkaiieNest
import Derived.Test.YbulkaiieArgs
import Derived.Test.YbulkaiieLawP
import Derived.Deep.CutRange
import Derived.Deep.RegionLaw
namespace Go.Proofs.Ybulkaiie
open Go.RowKit
set_option linter.unusedSimpArgs false
set_option linter.unusedVariables false

theorem wp_tail8 {P : Program} {f : Func} {Q : Exit → Act → World → Prop} {a : Act} {w : World} {x1 x2 x3 x4 x5 x6 x7 x8 c : Code} (h : f.body = some (.seq x1 (.seq x2 (.seq x3 (.seq x4 (.seq x5 (.seq x6 (.seq x7 (.seq x8 c))))))))) (hc : Code.wp P c Q a w) : Code.wp P (tailOf 8 (f.body.getD .skip)) Q a w := by
  rw [h]; exact hc

theorem info26 : (Yba.prog.info? 26).map (fun i => (i.zero, i.size, i.bytes)) = some (some (.agg #[.int .i64 0, .int .i64 0]), 2, 16) := by kernel_rfl
theorem info27 : (Yba.prog.info? 27).map (fun i => (i.zero, i.size, i.bytes)) = some (some (.slice none 0 0), 1, 24) := by kernel_rfl
theorem info29 : (Yba.prog.info? 29).map (fun i => (i.zero, i.size, i.bytes)) = some (some (.int .u64 0), 1, 8) := by kernel_rfl

theorem make23 (n : Nat) (hn : n ≤ 256) (w : World) : (Instr.makeSlice 23 (.int .i64 (n : Int)) (.int .i64 (n : Int))).run Yba.prog w = .ok (.slice (some ⟨w.heap.size, 0, none⟩) n n) (w.alloc (.cells (madeCells #[.int .i64 0, .int .i64 0] (n * 2)) 26)) := by
  obtain ⟨i0, hi, hz0, hz1, hz2⟩ := info_parts info26
  have hr := run_make (P := Yba.prog) w 23 26 i0 (.agg #[.int .i64 0, .int .i64 0]) Yba.underlying23 hi hz0 .i64 .i64 (n : Int) (n : Int) (by omega) (by omega) (by rw [hz2]; omega) (by omega)
  simp only [hz1, Int.toNat_natCast] at hr
  exact hr
theorem make24 (n : Nat) (hn : n ≤ 256) (w : World) : (Instr.makeSlice 24 (.int .i64 (n : Int)) (.int .i64 (n : Int))).run Yba.prog w = .ok (.slice (some ⟨w.heap.size, 0, none⟩) n n) (w.alloc (.cells (madeCells #[.slice none 0 0] n) 27)) :=
  run_make_row' 24 27 (.slice none 0 0) 24 Yba.underlying24 info27 rfl .i64 .i64 n (by omega) (by omega) w
theorem make28 (w : World) : (Instr.makeSlice 28 (.int .i64 8) (.int .i64 8)).run Yba.prog w = .ok (.slice (some ⟨w.heap.size, 0, none⟩) 8 8) (w.alloc (.cells (madeCells #[.int .u64 0] 8) 29)) :=
  run_make_row' 28 29 (.int .u64 0) 8 Yba.underlying28 info29 rfl .i64 .i64 8 (by omega) (by omega) w
theorem make278 (w : World) : (Instr.makeSlice 27 (.int .i64 8) (.int .i64 8)).run Yba.prog w = .ok (.slice (some ⟨w.heap.size, 0, none⟩) 8 8) (w.alloc (.cells (madeCells #[.int .i64 0] 8) 3)) :=
  run_make_row' 27 3 (.int .i64 0) 8 Yba.underlying27 info3 rfl .i64 .i64 8 (by omega) (by omega) w

set_option maxHeartbeats 4000000 in
set_option maxRecDepth 100000 in
theorem partA (R : Nat) (a0 : Option Addr) (cap0 : Nat) (z0 : List Int) (a1 : Option Addr) (len1 cap1 : Nat) (z1 : List Int) (a2 : Option Addr) (len2 cap2 : Nat) (z2 : List Int) (a3 : Option Addr) (len3 cap3 : Nat) (z3 : List Int) (a4 a5 a6 : Int) (w wc : World) (W0 : Hid (IsRowU w a0 R cap0 z0)) (W1 : Hid (IsRowU w a1 len1 cap1 z1)) (W2 : Hid (IsRowU w a2 len2 cap2 z2)) (W3 : Hid (IsRowU w a3 len3 cap3 z3)) (w4 : (Lit.int .u8 a4).wf = true) (w5 : (Lit.int .u8 a5).wf = true) (w6 : (Lit.int .u8 a6).wf = true)
    (hR : R ≤ 256) (hz : ¬ R = 0) (HN : Hid (Nest w wc R (fun _ => 0) (fun _ => 0) (fun _ => .slice none 0 0) (fun _ => []) (bnd0 R 0)))
    (u40 u41 u42 u43 u44 u45 u46 u47 u48 u49 u50 u51 u52 u53 u54 u55 u56 u57 u58 u59 u60 u61 u62 u63 u64 u65 u66 u67 u68 u69 u70 u71 u72 u73 u74 u75 u76 u77 u78 u79 u80 u81 u82 u83 u84 u85 u86 u87 u88 u89 u90 u91 u92 u93 u94 u95 u96 u97 u98 u99 u100 u101 u102 u103 u104 u105 u106 u107 u108 u109 u110 u111 u112 u113 u114 u115 u116 u117 u118 u119 u120 u121 u122 u123 u124 u125 u126 u127 u128 u129 u130 u131 u132 u133 u134 u135 u136 u137 u138 u139 u140 u141 u142 u143 u144 u145 u146 u147 u148 u149 u150 u151 u152 u153 u154 u155 u156 u157 u158 u159 u160 u161 u162 u163 u164 u165 u166 u167 u168 u169 u170 u171 u172 u173 u174 u175 u176 u177 u178 u179 u180 u181 u182 u183 u184 u185 u186 u187 u188 u189 u190 u191 u192 u193 u194 u195 u196 u197 u198 u199 u200 u201 u202 u203 u204 u205 u206 u207 u208 u209 u210 u211 u212 u213 u214 u215 u216 u217 u218 u219 u220 u221 u222 u223 u224 u225 u226 u227 u228 u229 u230 u231 u232 u233 u234 u235 u236 u237 u238 u239 u240 u241 u242 u243 u244 u245 u246 u247 u248 u249 u250 u251 u252 u253 u254 u255 u256 u257 u258 u259 u260 u261 u262 u263 u264 u265 u266 u267 u268 u269 u270 : Value) :
    Code.wp Yba.prog (tailOf 8 (Yba.f3.body.getD .skip)) (bodyPost Yba.prog Yba.f3 fun e w' => e = .returned (.bool true) ∧ Below w.heap.size w w') { tmps := #[.slice a0 R cap0, .slice a1 len1 cap1, .slice a2 len2 cap2, .slice a3 len3 cap3, .int .u8 a4, .int .u8 a5, .int .u8 a6, undef, undef, undef, undef, undef, undef, undef, .bool false, .int .i64 R, .pointer (some ⟨w.heap.size + 1, 0, none⟩), .pointer (some ⟨w.heap.size + 3, 0, none⟩), .slice (some ⟨w.heap.size + 4, 0, none⟩) 8 8, .slice (some ⟨w.heap.size + 5, 0, none⟩) 8 8, undef, undef, undef, undef, undef, undef, undef, undef, undef, undef, undef, undef, undef, undef, undef, undef, undef, undef, undef, undef, u40, u41, u42, u43, u44, u45, u46, u47, u48, u49, u50, u51, u52, u53, u54, u55, u56, u57, u58, u59, u60, u61, u62, u63, u64, u65, u66, u67, u68, u69, u70, u71, u72, u73, u74, u75, u76, u77, u78, u79, u80, u81, u82, u83, u84, u85, u86, u87, u88, u89, u90, u91, u92, u93, u94, u95, u96, u97, u98, u99, u100, u101, u102, u103, u104, u105, u106, u107, u108, u109, u110, u111, u112, u113, u114, u115, u116, u117, u118, u119, u120, u121, u122, u123, u124, u125, u126, u127, u128, u129, u130, u131, u132, u133, u134, u135, u136, u137, u138, u139, u140, u141, u142, u143, u144, u145, u146, u147, u148, u149, u150, u151, u152, u153, u154, u155, u156, u157, u158, u159, u160, u161, u162, u163, u164, u165, u166, u167, u168, u169, u170, u171, u172, u173, u174, u175, u176, u177, u178, u179, u180, u181, u182, u183, u184, u185, u186, u187, u188, u189, u190, u191, u192, u193, u194, u195, u196, u197, u198, u199, u200, u201, u202, u203, u204, u205, u206, u207, u208, u209, u210, u211, u212, u213, u214, u215, u216, u217, u218, u219, u220, u221, u222, u223, u224, u225, u226, u227, u228, u229, u230, u231, u232, u233, u234, u235, u236, u237, u238, u239, u240, u241, u242, u243, u244, u245, u246, u247, u248, u249, u250, u251, u252, u253, u254, u255, u256, u257, u258, u259, u260, u261, u262, u263, u264, u265, u266, u267, u268, u269, u270], defers := [] } wc := by
  refine wp_tail8 rfl ?_
  go_wp2_with fail
  go_loopw [54] (fun i wr => ∃ k : Nat, k ≤ R ∧ i = .int .i64 k ∧ ∃ lock first V L, Nest w wr R lock first V L (bnd0 R k)) (fun i _ => R - (intOf i).toNat)
  case atStart => exact ⟨0, by omega, rfl, _, _, _, _, HN.out⟩
  case round =>
    clear HN
    obtain ⟨k, hk, rfl, lock, first, V, L, hN⟩ := hrel
    by_cases hkR : k < R
    · have hkR' : (k : Int) < (R : Int) := by omega
      have HN : Hid (Nest w wr R lock first V L (bnd0 R k)) := hN
      clear hN
      have w54 : IntKind.i64.wrap ((k : Int) + 1) = (k : Int) + 1 := by rw [IntKind.wrap_i64]; omega
      go_upto_if 60 with fail
      go_cut [21, 54] from 54 to 125 (fun s21 s54 wx => s54 = .int .i64 k ∧ wx = wr ∧ ∃ f : Nat, f < 8 ∧ s21 = .int .i64 f)
      case first =>
        by_cases h1 : k < len1
        · have h1' : (k : Int) < (len1 : Int) := by omega
          obtain ⟨x, z, rfl, hx, hz8⟩ := W1.out.at h1 HN.out.bel
          have hzm : (z : Int).tmod 8 = ((z % 8 : Nat) : Int) := by rw [Int.tmod_eq_emod_of_nonneg (by omega)]; omega
          go_wp2_with fail
          go_meet
          case rel => exact ⟨rfl, rfl, z % 8, by omega, congrArg (Value.int .i64) (by omega)⟩
        · have h1' : ¬ (k : Int) < (len1 : Int) := by omega
          go_wp2_with fail
          go_meet
          case rel => exact ⟨rfl, rfl, 0, by omega, rfl⟩
      case rest =>
        obtain ⟨rfl, rfl, f, hf, rfl⟩ := hcut
        go_upto_region 16 with fail
        go_cut [54] from 54 to 125 (fun s54 wx => s54 = .int .i64 k ∧ ∃ l, Nest w wx R (upd lock k l) (upd first k f) V L (bnd0 R k))
        case first =>
          obtain ⟨x, z, rfl, hx, hz8⟩ := W0.out.at hkR HN.out.bel
          have hzm : (z : Int).tmod 3 = ((z % 3 : Nat) : Int) := by rw [Int.tmod_eq_emod_of_nonneg (by omega)]; omega
          have p1 := HN.out.p1
          have r1 := HN.out.rl k hkR
          have r2 := HN.out.rf k hkR
          have f1 := HN.out.frz w.heap.size (k * 2) (by omega) (by omega)
          have f2 := HN.out.frz w.heap.size (k * 2 + 1) (by omega) (by omega)
          go_region
          all_goals
            go_wp2_with fail
            go_meet
            case rel => exact ⟨rfl, _, HN.out.run hkR hf rfl rfl rfl rfl (fun _ _ => Nat.le_refl _)⟩
        case rest =>
          obtain ⟨rfl, l, hN⟩ := hcut
          have HN1 : Hid (Nest w wc R (upd lock k l) (upd first k f) V L (bnd0 R k)) := hN
          clear hN HN
          go_upto_region 17 with fail
          go_cut [54] from 54 to 125 (fun s54 wx => s54 = .int .i64 k ∧ ∃ V L, Nest w wx R (upd lock k l) (upd first k f) V L (bnd1 R k 0))
          case first =>
            have hc := HN1.out.cell (R + f) (by omega)
            rw [adr_fo _ _ _ hf] at hc
            have hfz := HN1.out.frz (w.heap.size + 4) f (by omega) (by omega)
            have hlf : (f : Int) < 8 := by omega
            obtain ⟨va, vc, hv⟩ := own_form (HN1.out.own (R + f) (by omega))
            rw [hv] at hc
            have HO : Hid ((wc.alloc (.cells #[.int .i64 (k : Int)] 3)).ownsRow (w.heap.size + 6) 3 1 (.slice va (L (R + f)).length vc) (L (R + f)).length (encI (L (R + f))) ∧ Sl (wc.heap.size + 1) (wc.alloc (.cells #[.int .i64 (k : Int)] 3)) (.slice (some ⟨wc.heap.size, 0, none⟩) 1 1) [(k : Int)]) := ⟨by rw [← hv]; exact (HN1.out.own (R + f) (by omega)).alloc _, sl_one wc k⟩
            have HL : Hid ((L (R + f)).length ≤ k) := by
              have := HN1.out.len (R + f) (by omega)
              unfold bnd0 at this
              rw [if_neg (by omega)] at this
              exact this
            have HV : Hid (V (R + f) = .slice va (L (R + f)).length vc) := hv
            clear hv
            have hL1 : (L (R + f)).length + [(k : Int)].length ≤ 100000 := by have := HL.out; simp; omega
            have hszc : w.heap.size + 6 ≤ wc.heap.size + 1 := by have := HN1.out.size; omega
            go_wp2_with (at_builtin; refine wpList_append_sl _ rfl (.tmp 83) (.tmp 85) rfl (w.heap.size + 6) (wc.heap.size + 1) _ _ _ (.slice (some ⟨wc.heap.size, 0, none⟩) 1 1) _ rfl rfl HO.out.1 HO.out.2 hL1 (by simpa using hszc) ?_)
            intro v' w1 ho hg hat
            rw [← HV.out] at hg hat
            obtain ⟨e1, e2⟩ := HN1.out.after (t := R + f) (by omega) (.inl rfl) hg (w.heap.size + 4) f (by omega)
            rw [hc] at e1
            rw [hfz] at e2
            have hN2 := HN1.out.app (by omega) (.inl rfl) ho hg (by simpa using hat) (y := (k : Int)) ⟨by omega, by unfold rngB; rw [if_neg (by omega)]; exact hkR'⟩ (bnd_fo hkR hf HL.out)
            rw [adr_fo _ _ _ hf] at hN2
            have HN2 := (show Hid _ from hN2)
            obtain ⟨va', vc', rfl⟩ := own_form ho
            clear ho hg hat hN2 hc hfz
            go_wp2_with fail
            go_meet
            case rel => exact ⟨rfl, _, _, HN2.out⟩
          case rest =>
            obtain ⟨rfl, V1, L1, hN⟩ := hcut
            obtain ⟨lock1, hlock1⟩ : ∃ lock1, lock1 = upd lock k l := ⟨_, rfl⟩
            obtain ⟨first1, hfirst1⟩ : ∃ first1, first1 = upd first k f := ⟨_, rfl⟩
            rw [← hlock1, ← hfirst1] at hN
            clear hlock1 hfirst1 HN1
            have HN : Hid (Nest w wc R lock1 first1 V1 L1 (bnd1 R k 0)) := hN
            clear hN
            go_upto_if 91 with fail
            go_cut [22, 54] from 54 to 125 (fun s22 s54 wx => s54 = .int .i64 k ∧ wx = wc ∧ ∃ cb : Nat, cb < 256 ∧ s22 = .int .u8 cb)
            case first =>
              by_cases h1 : k < len2
              · have h1' : (k : Int) < (len2 : Int) := by omega
                obtain ⟨x, z, rfl, hx, hz8⟩ := W2.out.at h1 HN.out.bel
                go_wp2_with fail
                go_meet
                case rel => exact ⟨rfl, rfl, z, by omega, rfl⟩
              · have h1' : ¬ (k : Int) < (len2 : Int) := by omega
                go_wp2_with fail
                go_meet
                case rel => exact ⟨rfl, rfl, 0, by omega, rfl⟩
            case rest =>
              obtain ⟨rfl, rfl, cb, hcb, rfl⟩ := hcut
              go_wp2_with fail
              go_loopw [96] (fun i wq => ∃ j : Nat, j ≤ 8 ∧ i = .int .i64 j ∧ ∃ V L, Nest w wq R lock1 first1 V L (bnd1 R k j)) (fun i _ => 8 - (intOf i).toNat)
              case atStart => exact ⟨0, by omega, rfl, _, _, HN.out⟩
              case round =>
                clear HN
                obtain ⟨j, hj, rfl, V, L, hN⟩ := hrel
                by_cases hj8 : j < 8
                · have hj8' : (j : Int) < 8 := by omega
                  have HN : Hid (Nest w wr R lock1 first1 V L (bnd1 R k j)) := hN
                  clear hN
                  have wj : IntKind.i64.wrap ((j : Int) + 1) = (j : Int) + 1 := by rw [IntKind.wrap_i64]; omega
                  go_upto_if 103 with fail
                  rcases Bool.eq_false_or_eq_true (bits BinOp.and IntKind.u8 (cb : Int) ((2 : Int) ^ j % 256) != 0) with hbb | hbb
                  · have hc := HN.out.cell k (by omega)
                    rw [adr_cl _ _ _ hkR] at hc
                    have hfz := HN.out.frz (w.heap.size + 2) k (by omega) (by omega)
                    have p3 := HN.out.p3
                    obtain ⟨va, vc, hv⟩ := own_form (HN.out.own k (by omega))
                    rw [hv] at hc
                    have HO : Hid ((wr.alloc (.cells #[.int .i64 (j : Int)] 3)).drew.ownsRow (w.heap.size + 6) 3 1 (.slice va (L k).length vc) (L k).length (encI (L k)) ∧ Sl (wr.heap.size + 1) (wr.alloc (.cells #[.int .i64 (j : Int)] 3)).drew (.slice (some ⟨wr.heap.size, 0, none⟩) 1 1) [(j : Int)]) := ⟨by rw [← hv]; exact (HN.out.own k (by omega)).alloc _, sl_one wr j⟩
                    have HL : Hid ((L k).length ≤ j) := by
                      have := HN.out.len k (by omega)
                      unfold bnd1 at this
                      rw [if_pos hkR, if_neg (by omega), if_pos rfl] at this
                      exact this
                    have HV : Hid (V k = .slice va (L k).length vc) := hv
                    clear hv
                    have hL1 : (L k).length + [(j : Int)].length ≤ 100000 := by have := HL.out; simp; omega
                    have hszc : w.heap.size + 6 ≤ (wr.alloc (.cells #[.int .i64 (j : Int)] 3)).drew.heap.size := by have := HN.out.size; show _ ≤ (wr.alloc _).heap.size; simp; omega
                    have HAft : Hid (∀ w1 : World, (wr.alloc (.cells #[.int .i64 (j : Int)] 3)).drew.grownBy w1 (Value.slice va (L k).length vc).ownBlock → w1.cell? ⟨w.heap.size + 2, k, none⟩ = some (.slice va (L k).length vc) ∧ w1.frozen? ⟨w.heap.size + 2, k, none⟩ = false ∧ w1.cell? ⟨w.heap.size + 3, 0, none⟩ = some (.slice (some ⟨w.heap.size + 2, 0, none⟩) R R)) := fun w1 hg => by
                      rw [← HV.out] at hg ⊢
                      obtain ⟨e1, e2⟩ := HN.out.after (t := k) (by omega) (.inr (.inl rfl)) hg (w.heap.size + 2) k (by omega)
                      obtain ⟨e3, _⟩ := HN.out.after (t := k) (by omega) (.inr (.inl rfl)) hg (w.heap.size + 3) 0 (by omega)
                      rw [e1, e2, e3]
                      exact ⟨by rw [hc, HV.out], hfz, p3⟩
                    have hc' : (wr.alloc (.cells #[.int .i64 (j : Int)] 3)).cell? ⟨w.heap.size + 2, k, none⟩ = some (.slice va (L k).length vc) := by rw [World.cell?_alloc_lt _ _ _ (World.block_lt_of_cell? _ _ hc)]; exact hc
                    have p3' : (wr.alloc (.cells #[.int .i64 (j : Int)] 3)).cell? ⟨w.heap.size + 3, 0, none⟩ = some (.slice (some ⟨w.heap.size + 2, 0, none⟩) R R) := by rw [World.cell?_alloc_lt _ _ _ (World.block_lt_of_cell? _ _ p3)]; exact p3
                    go_upto_region 25 with fail
                    go_cut [96] from 96 to 124 (fun s96 wx => s96 = .int .i64 j ∧ ∃ V' L', Nest w wx R lock1 first1 V' L' (bndM R k j))
                    case first =>
                      go_region_law (refine step_append_sl _ rfl (.tmp 109) (.tmp 111) rfl (w.heap.size + 6) (wr.heap.size + 1) (L k).length (.slice va (L k).length vc) (encI (L k)) (.slice (some ⟨wr.heap.size, 0, none⟩) 1 1) [(j : Int)] rfl rfl HO.out.1 HO.out.2 hL1 hszc ?_; intro v' w1 ho hg hat; obtain ⟨e1, e2, e3⟩ := HAft.out w1 hg; obtain ⟨va', vc', rfl⟩ := own_form ho; have HE1 := (show Hid _ from And.intro ho (And.intro hg hat)); clear ho hg hat)
                      all_goals
                        go_wp2_with fail
                        go_meet
                        case rel =>
                          obtain ⟨ho, hg, hat⟩ := HE1.out
                          rw [← HV.out] at hg hat
                          have hN2 := HN.out.app (by omega) (.inr (.inl rfl)) ho hg (by simpa using hat) (y := (j : Int)) ⟨by omega, by unfold rngB; rw [if_pos hkR]; exact hj8'⟩ (bnd_cl hkR HL.out)
                          rw [adr_cl _ _ _ hkR] at hN2
                          exact ⟨rfl, _, _, hN2⟩
                    case rest =>
                    obtain ⟨rfl, V2, L2, hN2⟩ := hcut
                    obtain ⟨W2, hW2⟩ : ∃ W2, W2 = wc := ⟨_, rfl⟩
                    subst hW2
                    have HN3 : Hid (Nest w W2 R lock1 first1 V2 L2 (bndM R k j)) := hN2
                    clear hN2 HAft HO HL HV hL1 hszc hc hfz p3 hc' p3' HN
                    have hc := HN3.out.cell (R + 8 + j) (by omega)
                    rw [adr_co _ _ _ hj8] at hc
                    have hfz := HN3.out.frz (w.heap.size + 5) j (by omega) (by omega)
                    obtain ⟨vb, vd, hv⟩ := own_form (HN3.out.own (R + 8 + j) (by omega))
                    rw [hv] at hc
                    have HO : Hid ((W2.alloc (.cells #[.int .i64 (k : Int)] 3)).ownsRow (w.heap.size + 6) 3 1 (.slice vb (L2 (R + 8 + j)).length vd) (L2 (R + 8 + j)).length (encI (L2 (R + 8 + j))) ∧ Sl (W2.heap.size + 1) (W2.alloc (.cells #[.int .i64 (k : Int)] 3)) (.slice (some ⟨W2.heap.size, 0, none⟩) 1 1) [(k : Int)]) := ⟨by rw [← hv]; exact (HN3.out.own (R + 8 + j) (by omega)).alloc _, sl_one W2 k⟩
                    have HL : Hid ((L2 (R + 8 + j)).length ≤ k) := by
                      have := HN3.out.len (R + 8 + j) (by omega)
                      unfold bndM bnd1 at this
                      rw [if_neg (by omega), if_neg (by omega), if_neg (by omega), if_neg (by omega)] at this
                      exact this
                    have HV : Hid (V2 (R + 8 + j) = .slice vb (L2 (R + 8 + j)).length vd) := hv
                    clear hv
                    have hL1 : (L2 (R + 8 + j)).length + [(k : Int)].length ≤ 100000 := by have := HL.out; simp; omega
                    have hszc : w.heap.size + 6 ≤ W2.heap.size + 1 := by have := HN3.out.size; omega
                    go_wp2_with (at_builtin; refine wpList_append_sl _ rfl (.tmp 119) (.tmp 121) rfl (w.heap.size + 6) (W2.heap.size + 1) _ _ _ (.slice (some ⟨W2.heap.size, 0, none⟩) 1 1) _ rfl rfl HO.out.1 HO.out.2 hL1 (by simpa using hszc) ?_)
                    intro v2 w2 ho hg hat
                    rw [← HV.out] at hg hat
                    obtain ⟨e1, e2⟩ := HN3.out.after (t := R + 8 + j) (by omega) (.inl rfl) hg (w.heap.size + 5) j (by omega)
                    rw [hc] at e1
                    rw [hfz] at e2
                    have hN2 := HN3.out.app (by omega) (.inl rfl) ho hg (by simpa using hat) (y := (k : Int)) ⟨by omega, by unfold rngB; rw [if_neg (by omega)]; exact hkR'⟩ (bnd_co hkR hj8 HL.out)
                    rw [adr_co _ _ _ hj8] at hN2
                    have HN4 := (show Hid _ from hN2)
                    obtain ⟨vb', vd', rfl⟩ := own_form ho
                    clear ho hg hat hN2 hc hfz
                    go_wp2_with fail
                    go_roundw
                    case rel => exact ⟨j + 1, by omega, by go_num, _, _, HN4.out⟩
                    case measure => simp [intOf]; omega
                  · go_wp2_with fail
                    go_roundw
                    case rel => exact ⟨j + 1, by omega, by go_num, _, _, HN.out.mono bnd_no⟩
                    case measure => simp [intOf]; omega
                · obtain rfl : j = 8 := by omega
                  have HN : Hid (Nest w wr R lock1 first1 V L (bnd0 R (k + 1))) := hN.mono (bnd_end hkR)
                  clear hN
                  go_wp2_with fail
                  go_roundw
                  case rel => exact ⟨k + 1, by omega, by go_num, _, _, _, _, HN.out⟩
                  case measure => simp [intOf]; omega
    · obtain rfl : k = R := by omega
      obtain ⟨wE, hwE⟩ : ∃ wE, wE = wr := ⟨_, rfl⟩
      subst hwE
      have HN : Hid (Nest w wE k lock first V L (bnd0 k k)) := hN
      clear hN
      have m4 := make28
      have m5 := make278
      go_upto_region 30 with fail
      rename_i K30 a30
      go_cut [24, 25] from 40 (fun s24 s25 wx => s24 = .pointer (some ⟨wE.heap.size + 1, 0, none⟩) ∧ s25 = .slice (some ⟨wE.heap.size + 2, 0, none⟩) 8 8 ∧ Rows3 wE wx (fun _ => 0) (fun _ => 0))
      case first =>
        go_wp2_with fail
        go_meet
        case rel => exact ⟨rfl, rfl, rows3_start wE⟩
      case rest =>
        obtain ⟨rfl, rfl, hR3⟩ := hcut
        refine a30 _ _ ?_
        exact partB k a0 cap0 a1 len1 cap1 a2 len2 cap2 a3 len3 cap3 z3 a4 a5 a6 w wE wc W3 (u8_of_wf w4) (u8_of_wf w5) (u8_of_wf w6) (w.heap.size + 2) (w.heap.size + 4) (w.heap.size + 5) rfl rfl rfl hR hz lock first V L HN hR3 _ _ _ _ _ _ _ _ _ _ _ _ _ _ _ _ _ _ _ _ _ _ _ _ _ _ _ _ _ _ _ _ _ _ _ _ _ _ _ _ _ _ _ _ _ _ _ _ _ _ _ _ _ _ _ _ _ _ _ _ _ _ _ _ _ _ _ _ _ _ _ _ _ _ _ _ _ _ _ _ _ _ _ _ _ _ _ _ _ _ _ _ _ _ _ _ _ _ _ _ _ _ _ _ _ _ _ _ _ _ _ _ _ _ _ _ _ _ _ _ _ _ _ _ _ _ _ _ _ _ _ _ _ _ _ _ _ _ _ _ _ _ _ _ _ _ _ _ _ _ _ _ _ _ _ _ _ _ _ _ _ _ _ _ _ _ _ _ _ _ _ _ _ _ _ _ _ _ _ _ _ _ _ _ _ _ _ _ _ _ _ _ _ _ _ _ _ _ _ _ _ _ _ _ _ _ _ _ _ _ _ _ _ _ _ _ _ _ _ _ _ _ _ _ _ _ _ _ _ _ _ _ _ _ _
end Go.Proofs.Ybulkaiie
