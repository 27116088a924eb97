/-
  The law's third part: the want loops, the sorts, the comparison.
-/
import Derived.Test.YbulkaiieTail
import Derived.Test.YbulkaiieArgs
import Derived.Test.YbulkaiieEnd
import Derived.Deep.CutRange
import Derived.Deep.RegionLaw
import Derived.Deep.RegionHeld
namespace Go.Proofs.Ybulkaiie
open Go.RowKit
set_option linter.unusedSimpArgs false
set_option linter.unusedVariables false

/-- The memory ahead of the want loops. -/
structure Ready (w wG : World) (R p4 p5 bv mi ai : Nat) (xi : Int) (pa ph : Addr) (lock : Nat → Int) (first : Nat → Nat) (V : Nat → Value) (cl : Nat → List Int) (rv : Nat → Int) (lf lc : List Int) (D : List Fp) : Prop where
  bel : Below w.heap.size w wG
  base : ∃ B gw pw, B ≤ wG.heap.size ∧ Base B wG R w.heap.size (w.heap.size + 2) gw lock first V cl rv ∧ wG.cell? ph = some (.func (.func 6) #[] #[.pointer (some pw)]) ∧ wG.cell? pw = some (.slice (some ⟨gw, 0, none⟩) 8 8)
  p16 : wG.cell? ⟨w.heap.size + 1, 0, none⟩ = some (.slice (some ⟨w.heap.size, 0, none⟩) R R)
  p17 : wG.cell? ⟨w.heap.size + 3, 0, none⟩ = some (.slice (some ⟨w.heap.size + 2, 0, none⟩) R R)
  hpa : wG.cell? pa = some (.int .i64 ai)
  fo : ∃ v, wG.cell? ⟨p4, mi, none⟩ = some v ∧ Sl wG.heap.size wG v lf
  co : ∃ v, wG.cell? ⟨p5, mi, none⟩ = some v ∧ Sl wG.heap.size wG v lc
  rf : ∀ y ∈ lf, 0 ≤ y ∧ y < R
  rc : ∀ y ∈ lc, 0 ≤ y ∧ y < R
  len : lf.length + lc.length ≤ 4095
  cll : (cl ai).length ≤ 4096
  v14 : ∃ v base, w.heap.size ≤ base ∧ wG.cell? ⟨bv, 14, none⟩ = some v ∧ wG.ownsRow base 59 3 v D.length (D.flatMap encFp)
  perm : D.Perm (selF lock first cl rv ai xi lf ++ selF lock first cl rv ai xi lc)

set_option maxHeartbeats 4000000 in
set_option maxRecDepth 100000 in
theorem partC (R : Nat) (a0 : Option Addr) (cap0 : Nat) (a1 : Option Addr) (len1 cap1 : Nat) (a2 : Option Addr) (len2 cap2 : Nat) (a3 : Option Addr) (len3 cap3 : Nat) (a4 a5 a6 : Int) (w wG : World) (p4 p5 bv mi ai : Nat) (xi : Int) (pa ph : Addr) (lock : Nat → Int) (first : Nat → Nat) (V : Nat → Value) (cl : Nat → List Int) (rv : Nat → Int) (lf lc : List Int) (D : List Fp)
    (hR : R ≤ 256) (hai : ai < R) (hmi : mi < 8) (HR : Hid (Ready w wG R p4 p5 bv mi ai xi pa ph lock first V cl rv lf lc D))
    (u20 u21 u22 u23 u24 u25 u26 u27 u32 u40 u41 u42 u43 u44 u45 u46 u47 u48 u49 u50 u51 u52 u53 u54 u55 u56 u57 u58 u59 u60 u61 u62 u63 u64 u65 u66 u67 u68 u69 u70 u71 u72 u73 u74 u75 u76 u77 u78 u79 u80 u81 u82 u83 u84 u85 u86 u87 u88 u89 u90 u91 u92 u93 u94 u95 u96 u97 u98 u99 u100 u101 u102 u103 u104 u105 u106 u107 u108 u109 u110 u111 u112 u113 u114 u115 u116 u117 u118 u119 u120 u121 u122 u123 u124 u125 u126 u127 u128 u129 u130 u131 u132 u133 u134 u135 u136 u137 u138 u139 u140 u141 u142 u143 u144 u145 u146 u147 u148 u149 u150 u151 u152 u153 u154 u155 u156 u157 u158 u159 u160 u161 u162 u163 u164 u165 u166 u167 u168 u169 u170 u171 u172 u173 u174 u175 u176 u177 u178 u179 u180 u181 u182 u183 u184 u185 u186 u187 u188 u189 u190 u191 u192 u193 u194 u195 u196 u197 u198 u199 u200 u201 u202 u203 u204 u205 u206 u207 u208 u209 u210 u211 u212 u213 u214 u215 u216 u217 u218 u219 u220 u221 u222 u223 u224 u225 u226 u227 u228 u229 u230 u231 u232 u233 u234 u235 u236 u237 u238 u239 u240 u241 u242 u243 u244 u245 u246 u247 u248 u249 u250 u251 u252 u253 u254 u255 u256 u257 u258 u259 u260 u261 u262 u263 u264 u265 u266 u267 u268 u269 u270 : Value) :
    Code.wp Yba.prog (tailOf 21 (Yba.f3.body.getD .skip)) (bodyPost Yba.prog Yba.f3 fun e w' => e = .returned (.bool true) ∧ Below w.heap.size w w') { tmps := #[.slice a0 R cap0, .slice a1 len1 cap1, .slice a2 len2 cap2, .slice a3 len3 cap3, .int .u8 a4, .int .u8 a5, .int .u8 a6, undef, undef, undef, undef, undef, undef, undef, .bool false, .int .i64 R, .pointer (some ⟨w.heap.size + 1, 0, none⟩), .pointer (some ⟨w.heap.size + 3, 0, none⟩), .slice (some ⟨p4, 0, none⟩) 8 8, .slice (some ⟨p5, 0, none⟩) 8 8, u20, u21, u22, u23, u24, u25, u26, u27, .pointer (some ⟨bv, 0, none⟩), .pointer (some pa), .int .i64 xi, .int .i64 mi, u32, .func (.func 7) #[] #[.pointer (some ⟨w.heap.size + 1, 0, none⟩), .pointer (some ⟨w.heap.size + 3, 0, none⟩), .pointer (some pa), .pointer (some ph)], .slice none 0 0, undef, undef, undef, undef, undef, u40, u41, u42, u43, u44, u45, u46, u47, u48, u49, u50, u51, u52, u53, u54, u55, u56, u57, u58, u59, u60, u61, u62, u63, u64, u65, u66, u67, u68, u69, u70, u71, u72, u73, u74, u75, u76, u77, u78, u79, u80, u81, u82, u83, u84, u85, u86, u87, u88, u89, u90, u91, u92, u93, u94, u95, u96, u97, u98, u99, u100, u101, u102, u103, u104, u105, u106, u107, u108, u109, u110, u111, u112, u113, u114, u115, u116, u117, u118, u119, u120, u121, u122, u123, u124, u125, u126, u127, u128, u129, u130, u131, u132, u133, u134, u135, u136, u137, u138, u139, u140, u141, u142, u143, u144, u145, u146, u147, u148, u149, u150, u151, u152, u153, u154, u155, u156, u157, u158, u159, u160, u161, u162, u163, u164, u165, u166, u167, u168, u169, u170, u171, u172, u173, u174, u175, u176, u177, u178, u179, u180, u181, u182, u183, u184, u185, u186, u187, u188, u189, u190, u191, u192, u193, u194, u195, u196, u197, u198, u199, u200, u201, u202, u203, u204, u205, u206, u207, u208, u209, u210, u211, u212, u213, u214, u215, u216, u217, u218, u219, u220, u221, u222, u223, u224, u225, u226, u227, u228, u229, u230, u231, u232, u233, u234, u235, u236, u237, u238, u239, u240, u241, u242, u243, u244, u245, u246, u247, u248, u249, u250, u251, u252, u253, u254, u255, u256, u257, u258, u259, u260, u261, u262, u263, u264, u265, u266, u267, u268, u269, u270], defers := [] } wG := by
  refine wp_tail21 rfl ?_
  obtain ⟨i0, hi, hz0, hz1, hz2⟩ := info_parts info59
  have hmi' : (mi : Int) < 8 := by omega
  obtain ⟨vf, hvf, hsf⟩ := HR.out.fo
  obtain ⟨fa, fc, rfl, _, hfcells⟩ := hsf.form
  have HF : Hid (0 < lf.length → ∃ g o, fa = some ⟨g, o, none⟩ ∧ g < wG.heap.size ∧ ∀ i, i < lf.length → wG.cell? ⟨g, o + i, none⟩ = some (.int .i64 (lf.getD i 0))) := hfcells
  clear hfcells hsf
  obtain ⟨n, hn⟩ : ∃ n, n = lf.length := ⟨_, rfl⟩
  rw [← hn] at hvf
  have HNn : Hid (n = lf.length) := hn
  clear hn
  have hn4 : n ≤ 4095 := by have := HR.out.len; rw [HNn.out]; omega
  have HPre1 : Hid (([] : List Fp).length + lf.length ≤ 4095) := by unfold Hid; have := HR.out.len; simp; omega
  go_wp2_with fail
  go_loopw [34, 186] (fun v i wq => ∃ k : Nat, k ≤ n ∧ i = .int .i64 k ∧ wq.ownsRow wG.heap.size 59 3 v (([] : List Fp) ++ selF lock first cl rv ai xi (lf.take k)).length ((([] : List Fp) ++ selF lock first cl rv ai xi (lf.take k)).flatMap encFp) ∧ Below wG.heap.size wG wq) (fun _ i _ => n - (intOf i).toNat)
  case atStart => exact ⟨0, by omega, rfl, World.ownsRow_nil _ _ _ _, Below.refl _ _⟩
  case round =>
    obtain ⟨k, hk, rfl, hown, hbel⟩ := hrel
    obtain ⟨va, vc, rfl⟩ := own_form hown
    have HW : Hid (wr.ownsRow wG.heap.size 59 3 (.slice va (([] : List Fp) ++ selF lock first cl rv ai xi (lf.take k)).length vc) (([] : List Fp) ++ selF lock first cl rv ai xi (lf.take k)).length ((([] : List Fp) ++ selF lock first cl rv ai xi (lf.take k)).flatMap encFp) ∧ Below wG.heap.size wG wr) := ⟨hown, hbel⟩
    obtain ⟨m, hm⟩ : ∃ m, m = (([] : List Fp) ++ selF lock first cl rv ai xi (lf.take k)).length := ⟨_, rfl⟩
    rw [← hm]
    have HM : Hid (m = (([] : List Fp) ++ selF lock first cl rv ai xi (lf.take k)).length) := hm
    clear hown hbel hm
    by_cases hkn : k < n
    · have hlt : (k : Int) < (n : Int) := by omega
      have hkl : k < lf.length := by rw [← HNn.out]; exact hkn
      obtain ⟨g, o, rfl, hgB, hcc⟩ := HF.out (by omega)
      have hbel := HW.out.2
      have hce : wr.cell? ⟨g, o + k, none⟩ = some (.int .i64 (lf.getD k 0)) := (hbel.cell (p := ⟨g, o + k, none⟩) hgB).trans (hcc k hkl)
      obtain ⟨y0, y8⟩ := HR.out.rf _ (getD_mem hkl)
      obtain ⟨y, hy⟩ : ∃ y : Nat, lf.getD k 0 = (y : Int) := ⟨(lf.getD k 0).toNat, by omega⟩
      rw [hy] at hce y8
      have yR : y < R := by omega
      have yR' : (y : Int) < (R : Int) := y8
      obtain ⟨B, gw, pw, hBB, hBase, hph, hpw⟩ := HR.out.base
      have hBr := hBase.keep (hbel.mono hBB)
      have q16 := (hbel.cell (World.block_lt_of_cell? _ _ HR.out.p16)).trans HR.out.p16
      have q17 := (hbel.cell (World.block_lt_of_cell? _ _ HR.out.p17)).trans HR.out.p17
      have q29 := (hbel.cell (World.block_lt_of_cell? _ _ HR.out.hpa)).trans HR.out.hpa
      have qph := (hbel.cell (World.block_lt_of_cell? _ _ hph)).trans hph
      have qpw := (hbel.cell (World.block_lt_of_cell? _ _ hpw)).trans hpw
      have q4 := hBr.rl y yR
      have q5 := hBr.rf y yR
      have HBr : Hid (Base B wr R w.heap.size (w.heap.size + 2) gw lock first V cl rv ∧ wr.cell? ph = some (.func (.func 6) #[] #[.pointer (some pw)]) ∧ wr.cell? pw = some (.slice (some ⟨gw, 0, none⟩) 8 8) ∧ wr.cell? ⟨w.heap.size + 3, 0, none⟩ = some (.slice (some ⟨w.heap.size + 2, 0, none⟩) R R)) := ⟨hBr, qph, qpw, q17⟩
      have HY : Hid (lf.getD k 0 = (y : Int) ∧ k < lf.length) := ⟨hy, hkl⟩
      clear hcc hy y0 y8 hkl hbel hBase hph hpw hBr q17 qph qpw hBB
      cases e1 : ((y : Int) != (ai : Int)) with
      | false =>
        go_wp2_with fail
        go_roundw
        case rel =>
          refine ⟨k + 1, by omega, by go_num, ?_, HW.out.2⟩
          rw [selF_no HY.out.2 HY.out.1 (by unfold keepF; rw [e1]; rfl), HM.out]
          exact HW.out.1
        case measure => simp [intOf]; omega
      | true =>
        cases e2 : (lock y == xi) with
        | false =>
          go_wp2_with fail
          go_roundw
          case rel =>
            refine ⟨k + 1, by omega, by go_num, ?_, HW.out.2⟩
            rw [selF_no HY.out.2 HY.out.1 (by unfold keepF; rw [e1, Int.toNat_natCast, e2]; rfl), HM.out]
            exact HW.out.1
          case measure => simp [intOf]; omega
        | true =>
          go_wp2_with fail
          refine (bef7 B wr R w.heap.size (w.heap.size + 2) gw lock first V cl rv HBr.out.1 ⟨w.heap.size + 1, 0, none⟩ ⟨w.heap.size + 3, 0, none⟩ pa ph pw ai y hai yR hR HR.out.cll q16 HBr.out.2.2.2 q29 HBr.out.2.1 HBr.out.2.2.1).mono ?_
          rintro e w1 ⟨rfl, hw1⟩
          have hb1 : Below wr.heap.size wr w1 := by obtain ⟨j, rfl⟩ := hw1; exact below_drewN (Below.refl _ _) j
          have HW1 : Hid (w1.ownsRow wG.heap.size 59 3 (.slice va m vc) m ((([] : List Fp) ++ selF lock first cl rv ai xi (lf.take k)).flatMap encFp) ∧ Below wG.heap.size wG w1) := ⟨by rw [HM.out]; exact own_below HW.out.1 hb1, HW.out.2.trans (hb1.mono HW.out.2.size)⟩
          have r16 := (hb1.cell (World.block_lt_of_cell? _ _ q16)).trans q16
          have r29 := (hb1.cell (World.block_lt_of_cell? _ _ q29)).trans q29
          have r5 := (hb1.cell (World.block_lt_of_cell? _ _ q5)).trans q5
          clear hw1 hb1 q16 q29 q4 q5
          cases e3 : befF first cl rv ai y with
          | true =>
            go_wp2_with fail
            go_roundw
            case rel =>
              refine ⟨k + 1, by omega, by go_num, ?_, HW1.out.2⟩
              rw [selF_no HY.out.2 HY.out.1 (by unfold keepF; rw [e1, Int.toNat_natCast, e2, e3]; rfl), ← HM.out]
              exact HW1.out.1
            case measure => simp [intOf]; omega
          | false =>
            have hm4 : m ≤ 4095 := by
              have h2 := selF_len lock first cl rv ai xi (lf.take k)
              have h4 := HY.out.2
              have h5 := HR.out.len
              have h6 := HPre1.out
              rw [List.length_take] at h2
              rw [HM.out, List.length_append]
              omega
            have hnb : Hid ((w1.alloc (.cells #[.int .i64 (ai : Int), .int .i64 (y : Int), .int .i64 (first y : Int)] 59)).drew.heap[w1.heap.size]? = some (.cells #[.int .i64 (ai : Int), .int .i64 (y : Int), .int .i64 (first y : Int)] 59 (0, 0))) := heap_alloc_new w1 _
            have h1c : Hid (∀ u ∈ encFp ((ai : Int), (y : Int), (first y : Int)), u.oneCell' = true) := fun u hu => by
              simp [encFp] at hu
              rcases hu with rfl | rfl | rfl <;> rfl
            have hs1 : Hid ((w1.alloc (.cells #[.int .i64 (ai : Int), .int .i64 (y : Int), .int .i64 (first y : Int)] 59)).drew.heap.size = w1.heap.size + 1) := size_alloc1 w1 _
            have hbs : wG.heap.size ≤ (w1.alloc (.cells #[.int .i64 (ai : Int), .int .i64 (y : Int), .int .i64 (first y : Int)] 59)).drew.heap.size := by rw [hs1.out]; have := HW1.out.2.size; omega
            have HO : Hid ((w1.alloc (.cells #[.int .i64 (ai : Int), .int .i64 (y : Int), .int .i64 (first y : Int)] 59)).drew.ownsRow wG.heap.size 59 3 (.slice va m vc) m ((([] : List Fp) ++ selF lock first cl rv ai xi (lf.take k)).flatMap encFp)) := HW1.out.1.alloc _
            have hmx : m + 1 ≤ maxLen := by unfold maxLen; omega
            go_wp2_with fail
            go_region_law (refine step_append_lies _ rfl (.tmp 208) (.tmp 217) 49 rfl wG.heap.size 59 i0 (.agg #[.int .i64 0, .int .i64 0, .int .i64 0]) 3 24 Yba.underlying49 hi hz0 hz1 hz2 rfl (by decide) (.slice va m vc) m _ rfl HO.out ⟨w1.heap.size, 0, none⟩ 1 1 (encFp ((ai : Int), (y : Int), (first y : Int))) rfl rfl (World.news_of_block hnb.out) h1c.out (by decide) hmx (by omega) hbs (w1.heap.size + 1) hs1.out ?_; intro g1 cap1 w2 hown1 hg1 hat1 hlt1; have HE1 := (show Hid _ from And.intro hown1 hg1); clear hown1 hg1 hat1 hlt1)
            all_goals
              go_wp2_with fail
              go_roundw
              case rel =>
                obtain ⟨ho, hg⟩ := HE1.out
                refine ⟨k + 1, by omega, by go_num, ?_, ?_⟩
                · rw [selF_yes HY.out.2 HY.out.1 (by unfold keepF; rw [e1, Int.toNat_natCast, e2, e3]; rfl), ← List.append_assoc, List.length_append, ← HM.out, List.flatMap_append]
                  simpa using ho
                · exact ((HW1.out.2.alloc HW1.out.2.size _).drew).grown hg hbs (fun j hj => (HO.out.lt j hj).1)
              case measure => simp [intOf]; omega
    · obtain rfl : k = n := by omega
      have HW0 : Hid (wr.ownsRow wG.heap.size 59 3 (.slice va m vc) (selF lock first cl rv ai xi lf).length ((selF lock first cl rv ai xi lf).flatMap encFp) ∧ Below wG.heap.size wG wr) := by
        have h1 := HW.out.1
        have h2 := HM.out
        have e : ([] : List Fp) ++ selF lock first cl rv ai xi (lf.take k) = selF lock first cl rv ai xi lf := by rw [HNn.out, List.take_length]; rfl
        rw [e] at h1 h2
        rw [h2]
        exact ⟨h1, HW.out.2⟩
      obtain ⟨vf2, hvf2, hsf2⟩ := HR.out.co
      obtain ⟨fa2, fc2, rfl, _, hfcells2⟩ := hsf2.form
      have HF2 : Hid (0 < lc.length → ∃ g o, fa2 = some ⟨g, o, none⟩ ∧ g < wG.heap.size ∧ ∀ i, i < lc.length → wG.cell? ⟨g, o + i, none⟩ = some (.int .i64 (lc.getD i 0))) := hfcells2
      have hvc := (HW0.out.2.cell (World.block_lt_of_cell? _ _ hvf2)).trans hvf2
      clear hfcells2 hsf2 hvf2 hvf
      obtain ⟨n2, hn2⟩ : ∃ n2, n2 = lc.length := ⟨_, rfl⟩
      rw [← hn2] at hvc
      have HNn2 : Hid (n2 = lc.length) := hn2
      clear hn2
      have hn24 : n2 ≤ 4095 := by have := HR.out.len; rw [HNn2.out]; omega
      have HPre2 : Hid ((selF lock first cl rv ai xi lf).length + lc.length ≤ 4095) := by
        have h1 := selF_len lock first cl rv ai xi lf
        have h2 := HR.out.len
        unfold Hid; omega
      go_wp2_with fail
      go_loopw [34, 225] (fun v i wq => ∃ k : Nat, k ≤ n2 ∧ i = .int .i64 k ∧ wq.ownsRow wG.heap.size 59 3 v ((selF lock first cl rv ai xi lf) ++ selF lock first cl rv ai xi (lc.take k)).length (((selF lock first cl rv ai xi lf) ++ selF lock first cl rv ai xi (lc.take k)).flatMap encFp) ∧ Below wG.heap.size wG wq) (fun _ i _ => n2 - (intOf i).toNat)
      case atStart => exact ⟨0, by omega, rfl, by simpa [selF] using HW0.out.1, HW0.out.2⟩
      case round =>
        obtain ⟨k, hk, rfl, hown, hbel⟩ := hrel
        obtain ⟨va, vc, rfl⟩ := own_form hown
        have HW : Hid (wr.ownsRow wG.heap.size 59 3 (.slice va ((selF lock first cl rv ai xi lf) ++ selF lock first cl rv ai xi (lc.take k)).length vc) ((selF lock first cl rv ai xi lf) ++ selF lock first cl rv ai xi (lc.take k)).length (((selF lock first cl rv ai xi lf) ++ selF lock first cl rv ai xi (lc.take k)).flatMap encFp) ∧ Below wG.heap.size wG wr) := ⟨hown, hbel⟩
        obtain ⟨m, hm⟩ : ∃ m, m = ((selF lock first cl rv ai xi lf) ++ selF lock first cl rv ai xi (lc.take k)).length := ⟨_, rfl⟩
        rw [← hm]
        have HM : Hid (m = ((selF lock first cl rv ai xi lf) ++ selF lock first cl rv ai xi (lc.take k)).length) := hm
        clear hown hbel hm
        by_cases hkn : k < n2
        · have hlt : (k : Int) < (n2 : Int) := by omega
          have hkl : k < lc.length := by rw [← HNn2.out]; exact hkn
          obtain ⟨g, o, rfl, hgB, hcc⟩ := HF2.out (by omega)
          have hbel := HW.out.2
          have hce : wr.cell? ⟨g, o + k, none⟩ = some (.int .i64 (lc.getD k 0)) := (hbel.cell (p := ⟨g, o + k, none⟩) hgB).trans (hcc k hkl)
          obtain ⟨y0, y8⟩ := HR.out.rc _ (getD_mem hkl)
          obtain ⟨y, hy⟩ : ∃ y : Nat, lc.getD k 0 = (y : Int) := ⟨(lc.getD k 0).toNat, by omega⟩
          rw [hy] at hce y8
          have yR : y < R := by omega
          have yR' : (y : Int) < (R : Int) := y8
          obtain ⟨B, gw, pw, hBB, hBase, hph, hpw⟩ := HR.out.base
          have hBr := hBase.keep (hbel.mono hBB)
          have q16 := (hbel.cell (World.block_lt_of_cell? _ _ HR.out.p16)).trans HR.out.p16
          have q17 := (hbel.cell (World.block_lt_of_cell? _ _ HR.out.p17)).trans HR.out.p17
          have q29 := (hbel.cell (World.block_lt_of_cell? _ _ HR.out.hpa)).trans HR.out.hpa
          have qph := (hbel.cell (World.block_lt_of_cell? _ _ hph)).trans hph
          have qpw := (hbel.cell (World.block_lt_of_cell? _ _ hpw)).trans hpw
          have q4 := hBr.rl y yR
          have q5 := hBr.rf y yR
          have HBr : Hid (Base B wr R w.heap.size (w.heap.size + 2) gw lock first V cl rv ∧ wr.cell? ph = some (.func (.func 6) #[] #[.pointer (some pw)]) ∧ wr.cell? pw = some (.slice (some ⟨gw, 0, none⟩) 8 8) ∧ wr.cell? ⟨w.heap.size + 3, 0, none⟩ = some (.slice (some ⟨w.heap.size + 2, 0, none⟩) R R)) := ⟨hBr, qph, qpw, q17⟩
          have HY : Hid (lc.getD k 0 = (y : Int) ∧ k < lc.length) := ⟨hy, hkl⟩
          clear hcc hy y0 y8 hkl hbel hBase hph hpw hBr q17 qph qpw hBB
          cases e1 : ((y : Int) != (ai : Int)) with
          | false =>
            go_wp2_with fail
            go_roundw
            case rel =>
              refine ⟨k + 1, by omega, by go_num, ?_, HW.out.2⟩
              rw [selF_no HY.out.2 HY.out.1 (by unfold keepF; rw [e1]; rfl), HM.out]
              exact HW.out.1
            case measure => simp [intOf]; omega
          | true =>
            cases e2 : (lock y == xi) with
            | false =>
              go_wp2_with fail
              go_roundw
              case rel =>
                refine ⟨k + 1, by omega, by go_num, ?_, HW.out.2⟩
                rw [selF_no HY.out.2 HY.out.1 (by unfold keepF; rw [e1, Int.toNat_natCast, e2]; rfl), HM.out]
                exact HW.out.1
              case measure => simp [intOf]; omega
            | true =>
              go_wp2_with fail
              refine (bef7 B wr R w.heap.size (w.heap.size + 2) gw lock first V cl rv HBr.out.1 ⟨w.heap.size + 1, 0, none⟩ ⟨w.heap.size + 3, 0, none⟩ pa ph pw ai y hai yR hR HR.out.cll q16 HBr.out.2.2.2 q29 HBr.out.2.1 HBr.out.2.2.1).mono ?_
              rintro e w1 ⟨rfl, hw1⟩
              have hb1 : Below wr.heap.size wr w1 := by obtain ⟨j, rfl⟩ := hw1; exact below_drewN (Below.refl _ _) j
              have HW1 : Hid (w1.ownsRow wG.heap.size 59 3 (.slice va m vc) m (((selF lock first cl rv ai xi lf) ++ selF lock first cl rv ai xi (lc.take k)).flatMap encFp) ∧ Below wG.heap.size wG w1) := ⟨by rw [HM.out]; exact own_below HW.out.1 hb1, HW.out.2.trans (hb1.mono HW.out.2.size)⟩
              have r16 := (hb1.cell (World.block_lt_of_cell? _ _ q16)).trans q16
              have r29 := (hb1.cell (World.block_lt_of_cell? _ _ q29)).trans q29
              have r5 := (hb1.cell (World.block_lt_of_cell? _ _ q5)).trans q5
              clear hw1 hb1 q16 q29 q4 q5
              cases e3 : befF first cl rv ai y with
              | true =>
                go_wp2_with fail
                go_roundw
                case rel =>
                  refine ⟨k + 1, by omega, by go_num, ?_, HW1.out.2⟩
                  rw [selF_no HY.out.2 HY.out.1 (by unfold keepF; rw [e1, Int.toNat_natCast, e2, e3]; rfl), ← HM.out]
                  exact HW1.out.1
                case measure => simp [intOf]; omega
              | false =>
                have hm4 : m ≤ 4095 := by
                  have h2 := selF_len lock first cl rv ai xi (lc.take k)
                  have h4 := HY.out.2
                  have h5 := HR.out.len
                  have h6 := HPre2.out
                  rw [List.length_take] at h2
                  rw [HM.out, List.length_append]
                  omega
                have hnb : Hid ((w1.alloc (.cells #[.int .i64 (ai : Int), .int .i64 (y : Int), .int .i64 (first y : Int)] 59)).drew.heap[w1.heap.size]? = some (.cells #[.int .i64 (ai : Int), .int .i64 (y : Int), .int .i64 (first y : Int)] 59 (0, 0))) := heap_alloc_new w1 _
                have h1c : Hid (∀ u ∈ encFp ((ai : Int), (y : Int), (first y : Int)), u.oneCell' = true) := fun u hu => by
                  simp [encFp] at hu
                  rcases hu with rfl | rfl | rfl <;> rfl
                have hs1 : Hid ((w1.alloc (.cells #[.int .i64 (ai : Int), .int .i64 (y : Int), .int .i64 (first y : Int)] 59)).drew.heap.size = w1.heap.size + 1) := size_alloc1 w1 _
                have hbs : wG.heap.size ≤ (w1.alloc (.cells #[.int .i64 (ai : Int), .int .i64 (y : Int), .int .i64 (first y : Int)] 59)).drew.heap.size := by rw [hs1.out]; have := HW1.out.2.size; omega
                have HO : Hid ((w1.alloc (.cells #[.int .i64 (ai : Int), .int .i64 (y : Int), .int .i64 (first y : Int)] 59)).drew.ownsRow wG.heap.size 59 3 (.slice va m vc) m (((selF lock first cl rv ai xi lf) ++ selF lock first cl rv ai xi (lc.take k)).flatMap encFp)) := HW1.out.1.alloc _
                have hmx : m + 1 ≤ maxLen := by unfold maxLen; omega
                go_wp2_with fail
                go_region_law (refine step_append_lies _ rfl (.tmp 247) (.tmp 256) 49 rfl wG.heap.size 59 i0 (.agg #[.int .i64 0, .int .i64 0, .int .i64 0]) 3 24 Yba.underlying49 hi hz0 hz1 hz2 rfl (by decide) (.slice va m vc) m _ rfl HO.out ⟨w1.heap.size, 0, none⟩ 1 1 (encFp ((ai : Int), (y : Int), (first y : Int))) rfl rfl (World.news_of_block hnb.out) h1c.out (by decide) hmx (by omega) hbs (w1.heap.size + 1) hs1.out ?_; intro g1 cap1 w2 hown1 hg1 hat1 hlt1; have HE1 := (show Hid _ from And.intro hown1 hg1); clear hown1 hg1 hat1 hlt1)
                all_goals
                  go_wp2_with fail
                  go_roundw
                  case rel =>
                    obtain ⟨ho, hg⟩ := HE1.out
                    refine ⟨k + 1, by omega, by go_num, ?_, ?_⟩
                    · rw [selF_yes HY.out.2 HY.out.1 (by unfold keepF; rw [e1, Int.toNat_natCast, e2, e3]; rfl), ← List.append_assoc, List.length_append, ← HM.out, List.flatMap_append]
                      simpa using ho
                    · exact ((HW1.out.2.alloc HW1.out.2.size _).drew).grown hg hbs (fun j hj => (HO.out.lt j hj).1)
                  case measure => simp [intOf]; omega
        · obtain rfl : k = n2 := by omega
          have HW9 : Hid (FpS wr (.slice va m vc) (selF lock first cl rv ai xi lf ++ selF lock first cl rv ai xi lc) ∧ (∀ j, (Value.slice va m vc).ownBlock = some j → wG.heap.size ≤ j ∧ j < wr.heap.size) ∧ Below wG.heap.size wG wr ∧ (selF lock first cl rv ai xi lf ++ selF lock first cl rv ai xi lc).length ≤ 4096) := by
            have h1 := HW.out.1
            have h2 := HM.out
            have e : selF lock first cl rv ai xi lf ++ selF lock first cl rv ai xi (lc.take k) = selF lock first cl rv ai xi lf ++ selF lock first cl rv ai xi lc := by rw [HNn2.out, List.take_length]
            rw [e] at h1 h2
            have h3 := h1.lt
            rw [h2]
            refine ⟨fpS_of_own h1, h3, HW.out.2, ?_⟩
            have h4 := selF_len lock first cl rv ai xi lf
            have h5 := selF_len lock first cl rv ai xi lc
            have h6 := HR.out.len
            rw [List.length_append]; omega
          obtain ⟨vD, bs, hbs0, hc14, hoD⟩ := HR.out.v14
          have c14 := (HW9.out.2.2.1.cell (World.block_lt_of_cell? _ _ hc14)).trans hc14
          have hDl : D.length ≤ 4096 := by rw [HR.out.perm.length_eq]; exact HW9.out.2.2.2
          have HD : Hid (FpS wr vD D) := fpS_of_own (own_below hoD HW9.out.2.2.1)
          obtain ⟨da, dc, rfl⟩ := own_form hoD
          clear hoD hc14 HW HM hvc
          go_wp2_with fail
          refine (clone8 wr _ D HD.out hDl).mono ?_
          rintro e w1 ⟨vg, rfl, hg1, hg2, hg3⟩
          obtain ⟨ga, gc, rfl⟩ := hg1.form
          have HG1 : Hid (FpS w1 (.slice ga D.length gc) D ∧ Below wr.heap.size wr w1 ∧ ∀ k, (Value.slice ga D.length gc).ownBlock = some k → wr.heap.size ≤ k) := ⟨hg1, hg2, hg3⟩
          clear hg1 hg2 hg3 c14 HD
          go_wp2_with fail
          refine (sort9s w1 _ D HG1.out.1 hDl).mono ?_
          rintro e w2 ⟨rfl, hs1, hs2⟩
          have HG2 : Hid (FpS w2 (.slice ga D.length gc) (sortD D) ∧ FpS w2 (.slice va m vc) (selF lock first cl rv ai xi lf ++ selF lock first cl rv ai xi lc) ∧ Below w.heap.size w w2 ∧ (∀ j, (Value.slice va m vc).ownBlock = some j → wG.heap.size ≤ j ∧ j < wr.heap.size) ∧ (∀ k, (Value.slice ga D.length gc).ownBlock = some k → wr.heap.size ≤ k) ∧ w.heap.size ≤ w2.heap.size) := by
            obtain ⟨k1, k2, k3, k4⟩ := HW9.out
            obtain ⟨g1, g2, g3⟩ := HG1.out
            have hw1 : FpS w1 (.slice va m vc) (selF lock first cl rv ai xi lf ++ selF lock first cl rv ai xi lc) := k1.kept (row := none) ⟨g2.os, g2.tape, g2.output, g2.size, fun j hj _ => g2.block j hj⟩ (by
              cases (Value.slice va m vc).ownBlock with
              | none => exact .inl rfl
              | some j => exact .inr (by simp))
            have hne : (Value.slice va m vc).ownBlock = none ∨ (Value.slice va m vc).ownBlock ≠ (Value.slice ga D.length gc).ownBlock := by
              cases e1 : (Value.slice va m vc).ownBlock with
              | none => exact .inl rfl
              | some j =>
                refine .inr (fun e2 => ?_)
                have := k2 j e1
                have := g3 j e2.symm
                omega
            have hbw : Below w.heap.size w w1 := (HR.out.bel.trans (k3.mono HR.out.bel.size)).trans (g2.mono (Nat.le_trans HR.out.bel.size k3.size))
            have hbw2 : Below w.heap.size w w2 := hbw.grown hs2 hbw.size (fun j hj => by have := g3 j hj; have := HR.out.bel.size; have := k3.size; omega)
            exact ⟨hs1, hw1.kept hs2 hne, hbw2, k2, g3, hbw2.size⟩
          clear hs1 hs2 HG1
          go_wp2_with fail
          have hWl : (selF lock first cl rv ai xi lf ++ selF lock first cl rv ai xi lc).length ≤ 4096 := HW9.out.2.2.2
          refine (sort9s w2 _ _ HG2.out.2.1 hWl).mono ?_
          rintro e w3 ⟨rfl, hs1, hs2⟩
          have HG3 : Hid (FpS w3 (.slice ga D.length gc) (sortD D) ∧ FpS w3 (.slice va m vc) (sortD D) ∧ Below w.heap.size w w3 ∧ (sortD D).length ≤ 4096) := by
            obtain ⟨k1, k2, k3, k4, k5, k6⟩ := HG2.out
            have hne : (Value.slice ga D.length gc).ownBlock = none ∨ (Value.slice ga D.length gc).ownBlock ≠ (Value.slice va m vc).ownBlock := by
              cases e1 : (Value.slice ga D.length gc).ownBlock with
              | none => exact .inl rfl
              | some j =>
                refine .inr (fun e2 => ?_)
                have := k4 j e2.symm
                have := k5 j e1
                omega
            refine ⟨k1.kept hs2 hne, ?_, k3.grown hs2 k6 (fun j hj => by have := k4 j hj; have := HR.out.bel.size; omega), ?_⟩
            · rw [sortD_perm HR.out.perm]; exact hs1
            · have : (sortD D).length = D.length := (List.mergeSort_perm _ _).length_eq
              omega
          clear hs1 hs2 HG2
          go_wp2_with fail
          refine (equal11 w3 _ _ (sortD D) HG3.out.1 HG3.out.2.1 HG3.out.2.2.2).mono ?_
          rintro e w4 ⟨rfl, hb4⟩
          have HB4 : Hid (Below w.heap.size w w4) := HG3.out.2.2.1.trans (hb4.mono HG3.out.2.2.1.size)
          clear hb4
          go_wp2_with fail
          go_ret
          exact ⟨rfl, HB4.out⟩




end Go.Proofs.Ybulkaiie
