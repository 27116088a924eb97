/-
  The law's second part: loop 3, the three groups, the boxes, forceBefore, the closures.
-/
import Derived.Test.YbulkaiieTail
import Derived.Test.YbulkaiieArgs
import Derived.Test.YbulkaiieLawQ
import Derived.Deep.CutRange
import Derived.Deep.RegionLaw
import Derived.Laws.EntriesVeiled
import Derived.Deep.RegionHeld
namespace Go.Proofs.Ybulkaiie
open Go.RowKit
set_option linter.unusedSimpArgs false
set_option linter.unusedVariables false

/-- The box of the constraints in block bc. -/
structure Boxed (wx : World) (R bc gr : Nat) (cl fo co : Nat → List Int) : Prop where
  lt : bc < wx.heap.size
  c3 : wx.cell? ⟨bc, 3, none⟩ = some (.slice (some ⟨gr, 0, none⟩) R R)
  bcl : ∃ a s, wx.cell? ⟨bc, 5, none⟩ = some a ∧ wx.cell? ⟨bc, 6, none⟩ = some s ∧ Grp wx.heap.size wx (.agg #[a, s]) R cl
  bfo : ∃ a s, wx.cell? ⟨bc, 9, none⟩ = some a ∧ wx.cell? ⟨bc, 10, none⟩ = some s ∧ Grp wx.heap.size wx (.agg #[a, s]) 8 fo
  bco : ∃ a s, wx.cell? ⟨bc, 11, none⟩ = some a ∧ wx.cell? ⟨bc, 12, none⟩ = some s ∧ Grp wx.heap.size wx (.agg #[a, s]) 8 co

theorem boxed_alloc (wC : World) (R gr : Nat) (cl fo co : Nat → List Int) (a1 s1 a2 s2 a3 s3 e0 e1 e2 e4 e7 e8 : Value) (h1 : Grp wC.heap.size wC (.agg #[a1, s1]) R cl) (h2 : Grp wC.heap.size wC (.agg #[a2, s2]) 8 fo) (h3 : Grp wC.heap.size wC (.agg #[a3, s3]) 8 co) :
    Boxed (wC.alloc (.cells #[e0, e1, e2, .slice (some ⟨gr, 0, none⟩) R R, e4, a1, s1, e7, e8, a2, s2, a3, s3] 38)) R wC.heap.size gr cl fo co := by
  have hb : (wC.alloc (.cells #[e0, e1, e2, .slice (some ⟨gr, 0, none⟩) R R, e4, a1, s1, e7, e8, a2, s2, a3, s3] 38)).heap[wC.heap.size]? = some (.cells #[e0, e1, e2, .slice (some ⟨gr, 0, none⟩) R R, e4, a1, s1, e7, e8, a2, s2, a3, s3] 38) := heap_alloc_new _ _
  have hk : Below wC.heap.size wC (wC.alloc (.cells #[e0, e1, e2, .slice (some ⟨gr, 0, none⟩) R R, e4, a1, s1, e7, e8, a2, s2, a3, s3] 38)) := (Below.refl _ _).alloc (Nat.le_refl _) _
  have hc : ∀ i, (wC.alloc (.cells #[e0, e1, e2, .slice (some ⟨gr, 0, none⟩) R R, e4, a1, s1, e7, e8, a2, s2, a3, s3] 38)).cell? ⟨wC.heap.size, i, none⟩ = #[e0, e1, e2, .slice (some ⟨gr, 0, none⟩) R R, e4, a1, s1, e7, e8, a2, s2, a3, s3][i]? := fun i => cell_of_row _ _ _ _ 38 (0, 0) hb
  exact ⟨by simp, by rw [hc]; rfl, ⟨a1, s1, by rw [hc]; rfl, by rw [hc]; rfl, h1.go hk⟩, ⟨a2, s2, by rw [hc]; rfl, by rw [hc]; rfl, h2.go hk⟩, ⟨a3, s3, by rw [hc]; rfl, by rw [hc]; rfl, h3.go hk⟩⟩

/-- The boxes of reachSets (block wc.heap.size) and viewSearch (the next), and the variable ai. -/
structure Boxed2 (wc wx : World) (bc gw gk ai : Nat) : Prop where
  bel : Below wc.heap.size wc wx
  size : wx.heap.size = wc.heap.size + 3
  r0 : wx.cell? ⟨wc.heap.size, 0, none⟩ = some (.slice (some ⟨gk, 0, none⟩) 8 8)
  r1 : wx.cell? ⟨wc.heap.size, 1, none⟩ = some (.int .i64 1)
  r2 : wx.cell? ⟨wc.heap.size, 2, none⟩ = some (.slice (some ⟨gw, 0, none⟩) 8 8)
  v0 : wx.cell? ⟨wc.heap.size + 1, 0, none⟩ = some (.pointer (some ⟨bc, 0, none⟩))
  v2 : wx.cell? ⟨wc.heap.size + 1, 2, none⟩ = some (.pointer (some ⟨wc.heap.size, 0, none⟩))
  v14 : wx.cell? ⟨wc.heap.size + 1, 14, none⟩ = some (.slice none 0 0)
  vf : wx.frozen? ⟨wc.heap.size + 1, 14, none⟩ = false
  pa : wx.cell? ⟨wc.heap.size + 2, 0, none⟩ = some (.int .i64 ai)

theorem boxed2_alloc (wc : World) (bc gw gk ai : Nat) (f3 f4 f5 f6 f7 e1 e3 e4 e5 e6 e7 e8 e9 e10 e11 e12 e13 e15 e16 e17 : Value) :
    Boxed2 wc (((wc.alloc (.cells #[.slice (some ⟨gk, 0, none⟩) 8 8, .int .i64 1, .slice (some ⟨gw, 0, none⟩) 8 8, f3, f4, f5, f6, f7] 43)).alloc (.cells #[.pointer (some ⟨bc, 0, none⟩), e1, .pointer (some ⟨wc.heap.size, 0, none⟩), e3, e4, e5, e6, e7, e8, e9, e10, e11, e12, e13, .slice none 0 0, e15, e16, e17] 53)).alloc (.cells #[.int .i64 ai] 3)) bc gw gk ai := by
  have b0 : (((wc.alloc (.cells #[.slice (some ⟨gk, 0, none⟩) 8 8, .int .i64 1, .slice (some ⟨gw, 0, none⟩) 8 8, f3, f4, f5, f6, f7] 43)).alloc (.cells #[.pointer (some ⟨bc, 0, none⟩), e1, .pointer (some ⟨wc.heap.size, 0, none⟩), e3, e4, e5, e6, e7, e8, e9, e10, e11, e12, e13, .slice none 0 0, e15, e16, e17] 53)).alloc (.cells #[.int .i64 ai] 3)).heap[wc.heap.size]? = some (.cells #[.slice (some ⟨gk, 0, none⟩) 8 8, .int .i64 1, .slice (some ⟨gw, 0, none⟩) 8 8, f3, f4, f5, f6, f7] 43) := by
    simp only [heap_alloc_if, size_alloc1, Nat.add_assoc]; simp
  have b1 : (((wc.alloc (.cells #[.slice (some ⟨gk, 0, none⟩) 8 8, .int .i64 1, .slice (some ⟨gw, 0, none⟩) 8 8, f3, f4, f5, f6, f7] 43)).alloc (.cells #[.pointer (some ⟨bc, 0, none⟩), e1, .pointer (some ⟨wc.heap.size, 0, none⟩), e3, e4, e5, e6, e7, e8, e9, e10, e11, e12, e13, .slice none 0 0, e15, e16, e17] 53)).alloc (.cells #[.int .i64 ai] 3)).heap[wc.heap.size + 1]? = some (.cells #[.pointer (some ⟨bc, 0, none⟩), e1, .pointer (some ⟨wc.heap.size, 0, none⟩), e3, e4, e5, e6, e7, e8, e9, e10, e11, e12, e13, .slice none 0 0, e15, e16, e17] 53) := by
    simp only [heap_alloc_if, size_alloc1, Nat.add_assoc]; simp
  have b2 : (((wc.alloc (.cells #[.slice (some ⟨gk, 0, none⟩) 8 8, .int .i64 1, .slice (some ⟨gw, 0, none⟩) 8 8, f3, f4, f5, f6, f7] 43)).alloc (.cells #[.pointer (some ⟨bc, 0, none⟩), e1, .pointer (some ⟨wc.heap.size, 0, none⟩), e3, e4, e5, e6, e7, e8, e9, e10, e11, e12, e13, .slice none 0 0, e15, e16, e17] 53)).alloc (.cells #[.int .i64 ai] 3)).heap[wc.heap.size + 2]? = some (.cells #[.int .i64 ai] 3) := by
    simp only [heap_alloc_if, size_alloc1, Nat.add_assoc]; simp
  refine ⟨(((Below.refl _ _).alloc (Nat.le_refl _) _).alloc (by simp) _).alloc (by simp; omega) _, by simp, ?_, ?_, ?_, ?_, ?_, ?_, frz_of b1, ?_⟩
  · rw [cell_of_row _ _ _ _ 43 (0, 0) b0]; rfl
  · rw [cell_of_row _ _ _ _ 43 (0, 0) b0]; rfl
  · rw [cell_of_row _ _ _ _ 43 (0, 0) b0]; rfl
  · rw [cell_of_row _ _ _ _ 53 (0, 0) b1]; rfl
  · rw [cell_of_row _ _ _ _ 53 (0, 0) b1]; rfl
  · rw [cell_of_row _ _ _ _ 53 (0, 0) b1]; rfl
  · rw [cell_of_row _ _ _ _ 3 (0, 0) b2]; rfl

theorem ready_of (w wE wr wX wc w2 : World) (R bc bv mi ai p4 p5 : Nat) (xi : Int) (lock : Nat → Int) (first : Nat → Nat) (V : Nat → Value) (L : Nat → List Int) (rv : Nat → Int) (D : List Fp)
    (hN : Nest w wE R lock first V L (bnd0 R R)) {cv : Nat → Int} (hR3 : Rows3 wE wr rv cv) (hE : Below wE.heap.size wE wc) (hr : Below wr.heap.size wr wc) (h4 : p4 = w.heap.size + 4) (h5 : p5 = w.heap.size + 5) (hbv : bv = wX.heap.size + 1) (hB2 : Boxed2 wX wc bc wE.heap.size (wE.heap.size + 2) ai)
    (hBase : Base bv wc R w.heap.size (w.heap.size + 2) wE.heap.size lock first V L rv)
    (hL8 : (L ai).length ≤ 4096 ∧ (L (R + mi)).length ≤ 256 ∧ (L (R + 8 + mi)).length ≤ 256 ∧ (∀ y ∈ L (R + mi), 0 ≤ y ∧ y < (R : Int)) ∧ (∀ y ∈ L (R + 8 + mi), 0 ≤ y ∧ y < (R : Int)))
    (hF : FSt wc w2 bv D) (hP : D.Perm (selF lock first L rv ai xi (L (R + mi)) ++ selF lock first L rv ai xi (L (R + 8 + mi)))) (hEX : wE.heap.size + 3 ≤ wX.heap.size) (hmi : mi < 8) :
    Ready w (w2.alloc (.cells #[.func (.func 6) #[] #[.pointer (some ⟨wE.heap.size + 1, 0, none⟩)]] 56)) R p4 p5 bv mi ai xi ⟨wX.heap.size + 2, 0, none⟩ ⟨w2.heap.size, 0, none⟩ lock first V L rv (L (R + mi)) (L (R + 8 + mi)) D := by
  have hg0 : Below w2.heap.size w2 (w2.alloc (.cells #[.func (.func 6) #[] #[.pointer (some ⟨wE.heap.size + 1, 0, none⟩)]] 56)) := (Below.refl _ _).alloc (Nat.le_refl _) _
  have hnew : (w2.alloc (.cells #[.func (.func 6) #[] #[.pointer (some ⟨wE.heap.size + 1, 0, none⟩)]] 56)).heap[w2.heap.size]? = some (.cells #[.func (.func 6) #[] #[.pointer (some ⟨wE.heap.size + 1, 0, none⟩)]] 56) := heap_alloc_new _ _
  have hsz : wc.heap.size = wX.heap.size + 3 := hB2.size
  have hs2 := hF.bel.size
  generalize w2.alloc (.cells #[.func (.func 6) #[] #[.pointer (some ⟨wE.heap.size + 1, 0, none⟩)]] 56) = wG at hg0 hnew ⊢
  have hsG := hg0.size
  have hbelV : Below bv wc wG := (hF.bel.below (by omega) (Nat.le_refl _)).trans (hg0.mono (by omega))
  have hcx : ∀ a : Addr, a.block < wc.heap.size → a.block ≠ bv → wG.cell? a = wc.cell? a := fun a h1 h2 => (hg0.cell (by omega)).trans (hF.bel.cell h1 h2)
  have hEG : Below wE.heap.size wE wG := hE.trans (hbelV.mono (by omega))
  have hws := hN.size
  have hwE := hN.bel.size
  obtain ⟨l1, l2, l3, l4, l5⟩ := hL8
  refine ⟨hN.bel.trans (hEG.mono hwE), ⟨bv, wE.heap.size, ⟨wE.heap.size + 1, 0, none⟩, by omega, hBase.keep hbelV, ?_, ?_⟩, ?_, ?_, ?_, ?_, ?_, l4, l5, by omega, l1, ?_, hP⟩
  · rw [cell_of_row _ _ _ _ 56 (0, 0) hnew]; rfl
  · have h := hR3.pw
    rw [hbelV.cell (show wE.heap.size + 1 < bv by omega), hr.cell (World.block_lt_of_cell? _ _ h), h]
  · have h := hN.p1
    rw [hEG.cell (World.block_lt_of_cell? _ _ h), h]
  · have h := hN.p3
    rw [hEG.cell (World.block_lt_of_cell? _ _ h), h]
  · rw [hcx _ (show wX.heap.size + 2 < wc.heap.size by omega) (show wX.heap.size + 2 ≠ bv by omega)]; exact hB2.pa
  · have h := hN.cell (R + mi) (by omega)
    rw [adr_fo _ _ _ hmi, ← h4] at h
    exact ⟨V (R + mi), by rw [hEG.cell (World.block_lt_of_cell? _ _ h), h], ((sl_of_own (hN.own (R + mi) (by omega))).keep hEG).up hEG.size⟩
  · have h := hN.cell (R + 8 + mi) (by omega)
    rw [adr_co _ _ _ hmi, ← h5] at h
    exact ⟨V (R + 8 + mi), by rw [hEG.cell (World.block_lt_of_cell? _ _ h), h], ((sl_of_own (hN.own (R + 8 + mi) (by omega))).keep hEG).up hEG.size⟩
  · obtain ⟨v, c, o⟩ := hF.own
    refine ⟨v, wc.heap.size, by omega, ?_, own_below o hg0⟩
    rw [hg0.cell (World.block_lt_of_cell? _ _ c), c]

set_option maxHeartbeats 4000000 in
set_option maxRecDepth 100000 in
theorem partB (R : Nat) (a0 : Option Addr) (cap0 : Nat) (a1 : Option Addr) (len1 cap1 : Nat) (a2 : Option Addr) (len2 cap2 : Nat) (a3 : Option Addr) (len3 cap3 : Nat) (z3 : List Int) (a4 a5 a6 : Int) (w wE wc : World) (W3 : Hid (IsRowU w a3 len3 cap3 z3)) (w4 : 0 ≤ a4 ∧ a4 < 256) (w5 : 0 ≤ a5 ∧ a5 < 256) (w6 : 0 ≤ a6 ∧ a6 < 256)
    (p2 p4 p5 : Nat) (hp2 : Hid (p2 = w.heap.size + 2)) (hp4 : Hid (p4 = w.heap.size + 4)) (hp5 : Hid (p5 = w.heap.size + 5)) (hR : R ≤ 256) (hz : ¬ R = 0) (lock : Nat → Int) (first : Nat → Nat) (V : Nat → Value) (L : Nat → List Int) (HN : Hid (Nest w wE R lock first V L (bnd0 R R))) (HR3 : Hid (Rows3 wE wc (fun _ => 0) (fun t => if t < 0 then (t : Int) else 0)))
    (u20 u21 u22 u23 u40 u41 u42 u43 u44 u45 u46 u47 u48 u49 u50 u51 u52 u53 u54 u55 u56 u57 u58 u59 u60 u61 u62 u63 u64 u65 u66 u67 u68 u69 u70 u71 u72 u73 u74 u75 u76 u77 u78 u79 u80 u81 u82 u83 u84 u85 u86 u87 u88 u89 u90 u91 u92 u93 u94 u95 u96 u97 u98 u99 u100 u101 u102 u103 u104 u105 u106 u107 u108 u109 u110 u111 u112 u113 u114 u115 u116 u117 u118 u119 u120 u121 u122 u123 u124 u125 u126 u127 u128 u129 u130 u131 u132 u133 u134 u135 u136 u137 u138 u139 u140 u141 u142 u143 u144 u145 u146 u147 u148 u149 u150 u151 u152 u153 u154 u155 u156 u157 u158 u159 u160 u161 u162 u163 u164 u165 u166 u167 u168 u169 u170 u171 u172 u173 u174 u175 u176 u177 u178 u179 u180 u181 u182 u183 u184 u185 u186 u187 u188 u189 u190 u191 u192 u193 u194 u195 u196 u197 u198 u199 u200 u201 u202 u203 u204 u205 u206 u207 u208 u209 u210 u211 u212 u213 u214 u215 u216 u217 u218 u219 u220 u221 u222 u223 u224 u225 u226 u227 u228 u229 u230 u231 u232 u233 u234 u235 u236 u237 u238 u239 u240 u241 u242 u243 u244 u245 u246 u247 u248 u249 u250 u251 u252 u253 u254 u255 u256 u257 u258 u259 u260 u261 u262 u263 u264 u265 u266 u267 u268 u269 u270 : Value) :
    Code.wp Yba.prog (tailOf 11 (Yba.f3.body.getD .skip)) (bodyPost Yba.prog Yba.f3 fun e w' => e = .returned (.bool true) ∧ Below w.heap.size w w') { tmps := #[.slice a0 R cap0, .slice a1 len1 cap1, .slice a2 len2 cap2, .slice a3 len3 cap3, .int .u8 a4, .int .u8 a5, .int .u8 a6, undef, undef, undef, undef, undef, undef, undef, .bool false, .int .i64 R, .pointer (some ⟨w.heap.size + 1, 0, none⟩), .pointer (some ⟨w.heap.size + 3, 0, none⟩), .slice (some ⟨p4, 0, none⟩) 8 8, .slice (some ⟨p5, 0, none⟩) 8 8, u20, u21, u22, u23, .pointer (some ⟨wE.heap.size + 1, 0, none⟩), .slice (some ⟨wE.heap.size + 2, 0, none⟩) 8 8, undef, undef, undef, undef, undef, undef, undef, undef, undef, undef, undef, undef, undef, undef, u40, u41, u42, u43, u44, u45, u46, u47, u48, u49, u50, u51, u52, u53, u54, u55, u56, u57, u58, u59, u60, u61, u62, u63, u64, u65, u66, u67, u68, u69, u70, u71, u72, u73, u74, u75, u76, u77, u78, u79, u80, u81, u82, u83, u84, u85, u86, u87, u88, u89, u90, u91, u92, u93, u94, u95, u96, u97, u98, u99, u100, u101, u102, u103, u104, u105, u106, u107, u108, u109, u110, u111, u112, u113, u114, u115, u116, u117, u118, u119, u120, u121, u122, u123, u124, u125, u126, u127, u128, u129, u130, u131, u132, u133, u134, u135, u136, u137, u138, u139, u140, u141, u142, u143, u144, u145, u146, u147, u148, u149, u150, u151, u152, u153, u154, u155, u156, u157, u158, u159, u160, u161, u162, u163, u164, u165, u166, u167, u168, u169, u170, u171, u172, u173, u174, u175, u176, u177, u178, u179, u180, u181, u182, u183, u184, u185, u186, u187, u188, u189, u190, u191, u192, u193, u194, u195, u196, u197, u198, u199, u200, u201, u202, u203, u204, u205, u206, u207, u208, u209, u210, u211, u212, u213, u214, u215, u216, u217, u218, u219, u220, u221, u222, u223, u224, u225, u226, u227, u228, u229, u230, u231, u232, u233, u234, u235, u236, u237, u238, u239, u240, u241, u242, u243, u244, u245, u246, u247, u248, u249, u250, u251, u252, u253, u254, u255, u256, u257, u258, u259, u260, u261, u262, u263, u264, u265, u266, u267, u268, u269, u270], defers := [] } wc := by
  refine wp_tail11 rfl ?_
  go_wp2_with fail
  go_loopw [128] (fun i wq => ∃ j : Nat, j ≤ 8 ∧ i = .int .i64 j ∧ ∃ rv, Rows3 wE wq rv (fun t => if t < j then (t : Int) else 0)) (fun i _ => 8 - (intOf i).toNat)
  case atStart => exact ⟨0, by omega, rfl, _, HR3.out⟩
  case round =>
    clear HR3
    obtain ⟨j, hj, rfl, rv, hR3⟩ := hrel
    by_cases hj8 : j < 8
    · have hj8' : (j : Int) < 8 := by omega
      have HR3 : Hid (Rows3 wE wr rv (fun t => if t < j then (t : Int) else 0)) := hR3
      clear hR3
      have wj : IntKind.i64.wrap ((j : Int) + 1) = (j : Int) + 1 := by rw [IntKind.wrap_i64]; omega
      go_upto_if 134 with fail
      go_cut [128] from 128 to 147 (fun s128 wx => s128 = .int .i64 j ∧ ∃ rv', Rows3 wE wx rv' (fun t => if t < j then (t : Int) else 0))
      case first =>
        by_cases h1 : j < len3
        · have h1' : (j : Int) < (len3 : Int) := by omega
          obtain ⟨x, z, rfl, hx, hz8⟩ := W3.out.at h1 (HN.out.bel.trans (HR3.out.bel.mono HN.out.bel.size))
          have p1 := HR3.out.pw
          have p2 := HR3.out.rows.cell hj8
          have p3 := HR3.out.rows.frozen j
          go_wp2_with fail
          go_region
          all_goals
            go_wp2_with fail
            go_meet
            case rel => exact ⟨rfl, _, HR3.out.drew.setRow j z⟩
        · have h1' : ¬ (j : Int) < (len3 : Int) := by omega
          go_wp2_with fail
          go_meet
          case rel => exact ⟨rfl, _, HR3.out⟩
      case rest =>
        obtain ⟨rfl, rv', hR3⟩ := hcut
        have HR4 : Hid (Rows3 wE wc rv' (fun t => if t < j then (t : Int) else 0)) := hR3
        have p2 := hR3.col.cell hj8
        have p3 := hR3.col.frozen j
        clear hR3 HR3
        go_wp2_with fail
        go_roundw
        case rel => exact ⟨j + 1, by omega, by go_num, _, HR4.out.setCol⟩
        case measure => simp [intOf]; omega
    · obtain rfl : j = 8 := by omega
      have HR3 : Hid (Rows3 wE wr rv (fun t => if t < 8 then (t : Int) else 0)) := hR3
      clear hR3
      have hbE := HR3.out.bel
      have HGc : Hid (∀ w', Below wE.heap.size wE w' → Calls Yba.prog 4 #[.slice (some ⟨p2, 0, none⟩) R R] w' fun e w'' => ∃ (x1 : Option Addr) (n1 c1 : Nat) (x2 : Option Addr) (n2 c2 : Nat), e = .returned (.agg #[.slice x1 n1 c1, .slice x2 n2 c2]) ∧ Below wE.heap.size wE w'' ∧ Below w'.heap.size w' w'' ∧ Grp w''.heap.size w'' (.agg #[.slice x1 n1 c1, .slice x2 n2 c2]) R L) :=
        groups_any wE p2 R R V L hR (fun t ht => by rw [hp2.out, ← adr_cl _ R t ht]; exact HN.out.cell t (by omega)) (fun t ht => sl_of_own (HN.out.own t (by omega))) (by
          have h1 := joinL_le L R 8 (fun t ht => by have := HN.out.len t (by omega); unfold bnd0 at this; rw [if_pos ht, if_pos ht] at this; exact this)
          omega)
      have HGf : Hid (∀ w', Below wE.heap.size wE w' → Calls Yba.prog 4 #[.slice (some ⟨p4, 0, none⟩) 8 8] w' fun e w'' => ∃ (x1 : Option Addr) (n1 c1 : Nat) (x2 : Option Addr) (n2 c2 : Nat), e = .returned (.agg #[.slice x1 n1 c1, .slice x2 n2 c2]) ∧ Below wE.heap.size wE w'' ∧ Below w'.heap.size w' w'' ∧ Grp w''.heap.size w'' (.agg #[.slice x1 n1 c1, .slice x2 n2 c2]) 8 (fun t => L (R + t))) :=
        groups_any wE p4 8 8 (fun t => V (R + t)) (fun t => L (R + t)) (by omega) (fun t ht => by rw [hp4.out, ← adr_fo _ R t ht]; exact HN.out.cell (R + t) (by omega)) (fun t ht => sl_of_own (HN.out.own (R + t) (by omega))) (by
          have h1 := joinL_le (fun t => L (R + t)) 8 256 (fun t ht => by have := HN.out.len (R + t) (by omega); unfold bnd0 at this; rw [if_neg (by omega)] at this; show (L (R + t)).length ≤ 256; omega)
          omega)
      have HGo : Hid (∀ w', Below wE.heap.size wE w' → Calls Yba.prog 4 #[.slice (some ⟨p5, 0, none⟩) 8 8] w' fun e w'' => ∃ (x1 : Option Addr) (n1 c1 : Nat) (x2 : Option Addr) (n2 c2 : Nat), e = .returned (.agg #[.slice x1 n1 c1, .slice x2 n2 c2]) ∧ Below wE.heap.size wE w'' ∧ Below w'.heap.size w' w'' ∧ Grp w''.heap.size w'' (.agg #[.slice x1 n1 c1, .slice x2 n2 c2]) 8 (fun t => L (R + 8 + t))) :=
        groups_any wE p5 8 8 (fun t => V (R + 8 + t)) (fun t => L (R + 8 + t)) (by omega) (fun t ht => by rw [hp5.out, ← adr_co _ R t ht]; exact HN.out.cell (R + 8 + t) (by omega)) (fun t ht => sl_of_own (HN.out.own (R + 8 + t) (by omega))) (by
          have h1 := joinL_le (fun t => L (R + 8 + t)) 8 256 (fun t ht => by have := HN.out.len (R + 8 + t) (by omega); unfold bnd0 at this; rw [if_neg (by omega)] at this; show (L (R + 8 + t)).length ≤ 256; omega)
          omega)
      have HK : Hid (∀ w', Below wE.heap.size wE w' → w'.cell? ⟨w.heap.size + 1, 0, none⟩ = some (.slice (some ⟨w.heap.size, 0, none⟩) R R) ∧ w'.cell? ⟨w.heap.size + 3, 0, none⟩ = some (.slice (some ⟨p2, 0, none⟩) R R)) := fun w' hb => by
        have h1 := HN.out.p1
        have h3 := HN.out.p3
        rw [← hp2.out] at h3
        exact ⟨(hb.cell (World.block_lt_of_cell? _ _ h1)).trans h1, (hb.cell (World.block_lt_of_cell? _ _ h3)).trans h3⟩
      have HbE : Hid (Below wE.heap.size wE wr) := hbE
      clear hbE
      go_upto_region 38 with fail
      go_cut [27] from 40 (fun s27 wx => ∃ bc, s27 = .pointer (some ⟨bc, 0, none⟩) ∧ Below wr.heap.size wr wx ∧ Boxed wx R bc w.heap.size L (fun t => L (R + t)) (fun t => L (R + 8 + t)))
      case first =>
        have HK0 := HK.out _ HbE.out.drew
        go_region_held (fun w' => w'.cell? ⟨w.heap.size + 1, 0, none⟩ = some (.slice (some ⟨w.heap.size, 0, none⟩) R R) ∧ w'.cell? ⟨w.heap.size + 3, 0, none⟩ = some (.slice (some ⟨p2, 0, none⟩) R R)) (first | exact HK0 | exact HK.out _ HX.out | exact HK.out _ (HX.out.alloc HX.out.size _)) (first
          | (go_at_call_of 4 p2; refine (HGc.out _ ?_).mono ?_; (exact HbE.out.drew); rintro e wA ⟨x1, n1, c1, x2, n2, c2, rfl, hb1, hb2, hg1⟩; have HX := (show Hid (Below wE.heap.size wE wA) from hb1); have HA := (show Hid (Below wr.heap.size wr wA ∧ Grp wA.heap.size wA (.agg #[.slice x1 n1 c1, .slice x2 n2 c2]) R L) from ⟨⟨hb2.os, hb2.tape, hb2.output, hb2.size, hb2.block⟩, hg1⟩); clear hb1 hb2 hg1)
          | (go_at_call_of 4 p4; refine (HGf.out _ ?_).mono ?_; (exact HX.out); rintro e wB ⟨x3, n3, c3, x4, n4, c4, rfl, hb1, hb2, hg1⟩; have HX := (show Hid (Below wE.heap.size wE wB) from hb1); have HB := (show Hid (Below wA.heap.size wA wB ∧ Grp wB.heap.size wB (.agg #[.slice x3 n3 c3, .slice x4 n4 c4]) 8 (fun t => L (R + t))) from ⟨hb2, hg1⟩); clear hb1 hb2 hg1)
          | (go_at_call_of 4 p5; refine (HGo.out _ ?_).mono ?_; (exact HX.out); rintro e wC ⟨x5, n5, c5, x6, n6, c6, rfl, hb1, hb2, hg1⟩; have HX := (show Hid (Below wE.heap.size wE wC) from hb1); have HC := (show Hid (Below wB.heap.size wB wC ∧ Grp wC.heap.size wC (.agg #[.slice x5 n5 c5, .slice x6 n6 c6]) 8 (fun t => L (R + 8 + t))) from ⟨hb2, hg1⟩); clear hb1 hb2 hg1))
        all_goals
          go_wp2_with fail
          go_meet
          case rel =>
            refine ⟨_, rfl, ?_, boxed_alloc wC R w.heap.size _ _ _ _ _ _ _ _ _ _ _ _ _ _ _ ((HA.out.2.go HB.out.1).go HC.out.1) (HB.out.2.go HC.out.1) HC.out.2⟩
            refine Below.alloc (Below.trans HA.out.1 (Below.trans (HB.out.1.mono HA.out.1.size) (HC.out.1.mono (Nat.le_trans HA.out.1.size HB.out.1.size)))) (Nat.le_trans HA.out.1.size (Nat.le_trans HB.out.1.size HC.out.1.size)) _
      case rest =>
        obtain ⟨bc, rfl, hb38, hbox⟩ := hcut
        obtain ⟨wX, hwX⟩ : ∃ wX, wX = wc := ⟨_, rfl⟩
        subst hwX
        have HBx : Hid (Below wr.heap.size wr wX ∧ Boxed wX R bc w.heap.size L (fun t => L (R + t)) (fun t => L (R + 8 + t))) := ⟨hb38, hbox⟩
        have pwc : wX.cell? ⟨wE.heap.size + 1, 0, none⟩ = some (.slice (some ⟨wE.heap.size, 0, none⟩) 8 8) := (hb38.cell (World.block_lt_of_cell? _ _ HR3.out.pw)).trans HR3.out.pw
        clear hb38 hbox HGc HGf HGo HK
        obtain ⟨A, rfl⟩ : ∃ A : Nat, a4 = (A : Int) := ⟨a4.toNat, by omega⟩
        obtain ⟨X, rfl⟩ : ∃ X : Nat, a5 = (X : Int) := ⟨a5.toNat, by omega⟩
        obtain ⟨M, rfl⟩ : ∃ M : Nat, a6 = (M : Int) := ⟨a6.toNat, by omega⟩
        have hA : (A : Int).tmod (R : Int) = ((A % R : Nat) : Int) := by rw [Int.tmod_eq_emod_of_nonneg (by omega)]; omega
        have hX : (X : Int).tmod 4 = ((X % 4 : Nat) : Int) := by rw [Int.tmod_eq_emod_of_nonneg (by omega)]; omega
        have hM : (M : Int).tmod 8 = ((M % 8 : Nat) : Int) := by rw [Int.tmod_eq_emod_of_nonneg (by omega)]; omega
        have hA256 : A < 256 := by omega
        have hX256 : X < 256 := by omega
        have hM256 : M < 256 := by omega
        have hAR : A % R < R := Nat.mod_lt _ (by omega)
        have hRz : ((R : Int) == 0) = false := by simp; omega
        have hRz' : ¬ (R : Int) = 0 := by omega
        clear w4 w5 w6
        go_upto_region 42 with fail
        go_cut [28, 29, 30, 31] from 40 (fun s28 s29 s30 s31 wx => s28 = .pointer (some ⟨wX.heap.size + 1, 0, none⟩) ∧ s29 = .pointer (some ⟨wX.heap.size + 2, 0, none⟩) ∧ s30 = .int .i64 ((X % 4 : Nat) : Int) ∧ s31 = .int .i64 ((M % 8 : Nat) : Int) ∧ Boxed2 wX wx bc wE.heap.size (wE.heap.size + 2) (A % R))
        case first =>
          go_wp2_with fail
          go_meet
          case rel =>
            refine ⟨rfl, rfl, congrArg (Value.int .i64) (by omega), congrArg (Value.int .i64) (by omega), ?_⟩
            have hAm : ((A : Int) % (R : Int)) = ((A % R : Nat) : Int) := by omega
            rw [hAm]
            exact boxed2_alloc wX bc wE.heap.size (wE.heap.size + 2) (A % R) _ _ _ _ _ _ _ _ _ _ _ _ _ _ _ _ _ _ _ _
        case rest =>
          obtain ⟨rfl, rfl, rfl, rfl, hb2⟩ := hcut
          obtain ⟨ai, hai⟩ : ∃ ai, ai = A % R := ⟨_, rfl⟩
          obtain ⟨mi, hmi⟩ : ∃ mi, mi = M % 8 := ⟨_, rfl⟩
          obtain ⟨xi, hxi⟩ : ∃ xi : Int, xi = ((X % 4 : Nat) : Int) := ⟨_, rfl⟩
          rw [← hai] at hb2 hAR
          rw [← hmi, ← hxi]
          have hmi8 : mi < 8 := by omega
          clear hxi hai hmi hA hX hM hA256 hX256 hM256
          obtain ⟨bv, hbv⟩ : ∃ bv, bv = wX.heap.size + 1 := ⟨_, rfl⟩
          have hbE : Below wE.heap.size wE wc := (HbE.out.trans (HBx.out.1.mono HbE.out.size)).trans (hb2.bel.mono (Nat.le_trans HbE.out.size HBx.out.1.size))
          have hbR : Below wr.heap.size wr wc := HBx.out.1.trans (hb2.bel.mono HBx.out.1.size)
          have hEs : wE.heap.size + 3 ≤ wX.heap.size := by have := HBx.out.1.size; have := HR3.out.size; omega
          have hws := HN.out.size
          have HBase : Hid (Base bv wc R w.heap.size (w.heap.size + 2) wE.heap.size lock first V L rv) :=
            ⟨fun b hb => (hbE.cell (World.block_lt_of_cell? _ _ (HN.out.rl b hb))).trans (HN.out.rl b hb), fun b hb => (hbE.cell (World.block_lt_of_cell? _ _ (HN.out.rf b hb))).trans (HN.out.rf b hb), HN.out.f8,
              fun r hr => by
                have h := HN.out.cell r (by omega)
                rw [adr_cl _ R r hr] at h
                exact (hbE.cell (World.block_lt_of_cell? _ _ h)).trans h,
              fun r hr => ((sl_of_own (HN.out.own r (by omega))).keep hbE).up (by omega),
              fun r hr x hx => by
                have h := HN.out.rng r (by omega) x hx
                unfold rngB at h
                rw [if_pos hr] at h
                exact h,
              fun i hi => (hbR.cell (World.block_lt_of_cell? _ _ (HR3.out.rows.cell hi))).trans (HR3.out.rows.cell hi), by omega, by omega, by omega⟩
          have HCons : Hid (Cons bv wc R bc wX.heap.size w.heap.size wE.heap.size (wE.heap.size + 2) L (fun t => L (R + t)) (fun t => L (R + 8 + t))) := by
            have hk : ∀ o, wc.cell? ⟨bc, o, none⟩ = wX.cell? ⟨bc, o, none⟩ := fun o => hb2.bel.cell (p := ⟨bc, o, none⟩) HBx.out.2.lt
            obtain ⟨x1, y1, i1, j1, k1⟩ := HBx.out.2.bcl
            obtain ⟨x2, y2, i2, j2, k2⟩ := HBx.out.2.bfo
            obtain ⟨x3, y3, i3, j3, k3⟩ := HBx.out.2.bco
            have up : ∀ {G n L'}, Grp wX.heap.size wX G n L' → Grp bv wc G n L' := fun {G n L'} h => by
              obtain ⟨a, s, e, h1, h2⟩ := h
              exact ⟨a, s, e, (h1.keep hb2.bel).up (by omega), (h2.keep hb2.bel).up (by omega)⟩
            refine ⟨by rw [hk]; exact HBx.out.2.c3, ⟨x1, y1, by rw [hk]; exact i1, by rw [hk]; exact j1, up k1⟩, ⟨x2, y2, by rw [hk]; exact i2, by rw [hk]; exact j2, up k2⟩, ⟨x3, y3, by rw [hk]; exact i3, by rw [hk]; exact j3, up k3⟩, hb2.r0, hb2.r1, hb2.r2, fun t ht => ?_, by have := HBx.out.2.lt; omega, by omega, by omega, ?_, ?_, ?_⟩
            · have h := HR3.out.col.cell ht
              simp only [if_pos ht] at h
              exact (hbR.cell (World.block_lt_of_cell? _ _ h)).trans h
            · have h1 := joinL_le L R 8 (fun t ht => by have := HN.out.len t (by omega); unfold bnd0 at this; rw [if_pos ht, if_pos ht] at this; exact this)
              omega
            · have h1 := joinL_le (fun t => L (R + t)) 8 256 (fun t ht => by have := HN.out.len (R + t) (by omega); unfold bnd0 at this; rw [if_neg (by omega)] at this; show (L (R + t)).length ≤ 256; omega)
              omega
            · have h1 := joinL_le (fun t => L (R + 8 + t)) 8 256 (fun t ht => by have := HN.out.len (R + 8 + t) (by omega); unfold bnd0 at this; rw [if_neg (by omega)] at this; show (L (R + 8 + t)).length ≤ 256; omega)
              omega
          have HL8 : Hid ((L ai).length ≤ 4096 ∧ (L (R + mi)).length ≤ 256 ∧ (L (R + 8 + mi)).length ≤ 256 ∧ (∀ y ∈ L (R + mi), 0 ≤ y ∧ y < (R : Int)) ∧ (∀ y ∈ L (R + 8 + mi), 0 ≤ y ∧ y < (R : Int))) := by
            have l1 := HN.out.len ai (by omega)
            have l2 := HN.out.len (R + mi) (by omega)
            have l3 := HN.out.len (R + 8 + mi) (by omega)
            unfold bnd0 at l1 l2 l3
            rw [if_pos hAR, if_pos hAR] at l1
            rw [if_neg (by omega)] at l2 l3
            have r2 := HN.out.rng (R + mi) (by omega)
            have r3 := HN.out.rng (R + 8 + mi) (by omega)
            unfold rngB at r2 r3
            rw [if_neg (by omega)] at r2 r3
            exact ⟨by omega, by omega, by omega, r2, r3⟩
          have HB2 : Hid (Boxed2 wX wc bc wE.heap.size (wE.heap.size + 2) ai) := hb2
          have HbE2 : Hid (Below wE.heap.size wE wc ∧ Below wr.heap.size wr wc) := ⟨hbE, hbR⟩
          have v0 := hb2.v0
          have v2 := hb2.v2
          have v14 := hb2.v14
          have vf := hb2.vf
          have pac := hb2.pa
          rw [← hbv] at v0 v2 v14 vf ⊢
          have Hbv : Hid (bv = wX.heap.size + 1) := hbv
          have HEX : Hid (wE.heap.size + 3 ≤ wX.heap.size) := hEs
          clear hb2 hbE hbR hbv hEs hws pwc
          go_wp2_with fail
          refine (force5 bv wc R bv bc wX.heap.size w.heap.size (w.heap.size + 2) wE.heap.size (wE.heap.size + 2) lock first V L (fun t => L (R + t)) (fun t => L (R + 8 + t)) rv HBase.out HCons.out ai mi xi hAR hmi8 hR HL8.out.1 HL8.out.2.2.2.1 HL8.out.2.2.2.2 (by have := HL8.out.2.1; have := HL8.out.2.2.1; show (L (R + mi)).length + (L (R + 8 + mi)).length ≤ 4095; omega) (Nat.le_refl _) v0 v2 v14 vf).mono ?_
          rintro e w2 ⟨rfl, D, hF, hP⟩
          have HF5 : Hid (FSt wc w2 bv D ∧ D.Perm (selF lock first L rv ai xi (L (R + mi)) ++ selF lock first L rv ai xi (L (R + 8 + mi)))) := ⟨hF, hP⟩
          clear hF hP v0 v2 v14 vf pac
          go_upto_region 46 with fail
          rename_i K46 a46
          go_cut [33, 34] from 40 (fun s33 s34 wx => s33 = .func (.func 7) #[] #[.pointer (some ⟨w.heap.size + 1, 0, none⟩), .pointer (some ⟨w.heap.size + 3, 0, none⟩), .pointer (some ⟨wX.heap.size + 2, 0, none⟩), .pointer (some ⟨w2.heap.size, 0, none⟩)] ∧ s34 = .slice none 0 0 ∧ Ready w wx R p4 p5 bv mi ai xi ⟨wX.heap.size + 2, 0, none⟩ ⟨w2.heap.size, 0, none⟩ lock first V L rv (L (R + mi)) (L (R + 8 + mi)) D)
          case first =>
            go_wp2_with fail
            go_meet
            case rel => exact ⟨rfl, rfl, ready_of w wE wr wX wc w2 R bc bv mi ai p4 p5 xi lock first V L rv D HN.out HR3.out HbE2.out.1 HbE2.out.2 hp4.out hp5.out Hbv.out HB2.out HBase.out HL8.out HF5.out.1 HF5.out.2 HEX.out hmi8⟩
          case rest =>
            obtain ⟨rfl, rfl, hRd⟩ := hcut
            refine a46 _ _ ?_
            exact partC R a0 cap0 a1 len1 cap1 a2 len2 cap2 a3 len3 cap3 _ _ _ w _ p4 p5 bv mi ai xi _ _ lock first V L rv _ _ D hR hAR hmi8 hRd _ _ _ _ _ _ _ _ _ _ _ _ _ _ _ _ _ _ _ _ _ _ _ _ _ _ _ _ _ _ _ _ _ _ _ _ _ _ _ _ _ _ _ _ _ _ _ _ _ _ _ _ _ _ _ _ _ _ _ _ _ _ _ _ _ _ _ _ _ _ _ _ _ _ _ _ _ _ _ _ _ _ _ _ _ _ _ _ _ _ _ _ _ _ _ _ _ _ _ _ _ _ _ _ _ _ _ _ _ _ _ _ _ _ _ _ _ _ _ _ _ _ _ _ _ _ _ _ _ _ _ _ _ _ _ _ _ _ _ _ _ _ _ _ _ _ _ _ _ _ _ _ _ _ _ _ _ _ _ _ _ _ _ _ _ _ _ _ _ _ _ _ _ _ _ _ _ _ _ _ _ _ _ _ _ _ _ _ _ _ _ _ _ _ _ _ _ _ _ _ _ _ _ _ _ _ _ _ _ _ _ _ _ _ _ _ _ _ _ _ _ _ _ _ _ _ _ _ _ _ _ _ _ _ _ _ _ _ _ _
end Go.Proofs.Ybulkaiie
