/-
  LawS1704CRoundTrip: her walk.
-/
import Derived.Test.YbulkaigoCLaws
import Derived.Deep.DeepCutAuto
namespace Go.Proofs.Ybulkaigo
open Go.RowKit
set_option linter.unusedSimpArgs false

/-- The three arguments' own boxes. -/
theorem boxes3 (w : World) (A B C : Obj) : (((w.alloc A).alloc B).alloc C).heap[w.heap.size]? = some A ∧ (((w.alloc A).alloc B).alloc C).heap[w.heap.size + 1]? = some B ∧ (((w.alloc A).alloc B).alloc C).heap[w.heap.size + 1 + 1]? = some C := by
  refine ⟨?_, ?_, ?_⟩
  · rw [Below.heap_alloc _ _ _ (by simp; omega)]
    exact heap_alloc2_old _ _ _
  · rw [Below.heap_alloc _ _ _ (by simp)]
    exact heap_alloc2_new _ _ _
  · have := heap_alloc_new ((w.alloc A).alloc B) C
    simpa using this

set_option maxHeartbeats 200000 in
set_option maxRecDepth 100000 in
theorem law_trip (w : World) (K C P : Array Value) (hK : K.size = 32) (hC : C.size = 16) (hP : P.size = 16) (bK : BL K.toList) (bC : BL C.toList) (bP : BL P.toList) :
    Calls Yba.prog 7 #[.agg K, .agg C, .agg P] w fun e w' => e = .returned (.bool true) ∧ Below w.heap.size w w' := by
  obtain ⟨z, hz, hzs⟩ := zero61
  obtain ⟨M, hM⟩ : ∃ M, M = K ++ C ++ P := ⟨_, rfl⟩
  have hMs : M.size = 64 := by rw [hM]; simp; omega
  have bM : BL M.toList := by
    rw [hM]; intro v hv
    simp only [Array.toList_append, List.mem_append] at hv
    rcases hv with (hv | hv) | hv
    · exact bK v hv
    · exact bC v hv
    · exact bP v hv
  obtain ⟨x1, x2, x3⟩ := boxes3 w (.cells K 44) (.cells C 57) (.cells P 57)
  have E1 : Hid ((Instr.loadAt 44 (.pointer (some ⟨w.heap.size, 0, none⟩))).run Yba.prog (((w.alloc (.cells K 44)).alloc (.cells C 57)).alloc (.cells P 57)) = .ok (.agg K) (((w.alloc (.cells K 44)).alloc (.cells C 57)).alloc (.cells P 57))) := load_row x1 Yba.underlying44 rfl (by rw [csize44, hK])
  have E2 : Hid ((Instr.loadAt 57 (.pointer (some ⟨w.heap.size + 1, 0, none⟩))).run Yba.prog (((w.alloc (.cells K 44)).alloc (.cells C 57)).alloc (.cells P 57)) = .ok (.agg C) (((w.alloc (.cells K 44)).alloc (.cells C 57)).alloc (.cells P 57))) := load_row x2 Yba.underlying57 rfl (by rw [csize57, hC])
  have E3 : Hid ((Instr.loadAt 57 (.pointer (some ⟨w.heap.size + 1 + 1, 0, none⟩))).run Yba.prog (((w.alloc (.cells K 44)).alloc (.cells C 57)).alloc (.cells P 57)) = .ok (.agg P) (((w.alloc (.cells K 44)).alloc (.cells C 57)).alloc (.cells P 57))) := load_row x3 Yba.underlying57 rfl (by rw [csize57, hP])
  have EB : Hid ((Instr.build 61 #[(0, .agg K), (1, .agg C), (2, .agg P)]).run Yba.prog (((w.alloc (.cells K 44)).alloc (.cells C 57)).alloc (.cells P 57)) = .ok (.agg M) (((w.alloc (.cells K 44)).alloc (.cells C 57)).alloc (.cells P 57))) := by
    show _ = _
    rw [hM]; exact build61 _ K C P hK hC hP
  have ES : Hid ((Instr.storeAt 61 (.pointer (some ⟨w.heap.size + 1 + 1 + 1, 0, none⟩)) (.agg M)).run Yba.prog ((((w.alloc (.cells K 44)).alloc (.cells C 57)).alloc (.cells P 57)).alloc (.cells z 61)) = .ok () ((((w.alloc (.cells K 44)).alloc (.cells C 57)).alloc (.cells P 57)).alloc (.cells M 61))) := by
    have := crun_storeAt_row (P := Yba.prog) (w := (((w.alloc (.cells K 44)).alloc (.cells C 57)).alloc (.cells P 57)).alloc (.cells z 61)) (((w.alloc (.cells K 44)).alloc (.cells C 57)).alloc (.cells P 57)).heap.size 61 61 z M (heap_alloc_new _ _) (by rw [csize61, hMs]) (by rw [hzs, hMs]) bM.one
    rw [World.setRow_alloc_new] at this
    show _ = _
    simpa using this
  clear x1 x2 x3 hM bK bC bP
  have Hz : Hid (∀ w : World, Sem.run Yba.prog (zeroValue 61) w = .ok (.agg z) w) := hz
  clear hz
  go_enter Yba.func7, Yba.ntmps7
  go_upto_region 2 with (first | (refine wpList_load_any (ty := 44) (x := .tmp 3) (p := .pointer (some ⟨w.heap.size, 0, none⟩)) (v := .agg K) ?_ rfl rfl rfl ?_; exact E1.out; simp only [Act.put, List.setIfInBounds_toArray, List.set_cons_succ, List.set_cons_zero, World.size_alloc]) | (refine wpList_load_any (ty := 57) (x := .tmp 4) (p := .pointer (some ⟨w.heap.size + 1, 0, none⟩)) (v := .agg C) ?_ rfl rfl rfl ?_; exact E2.out; simp only [Act.put, List.setIfInBounds_toArray, List.set_cons_succ, List.set_cons_zero, World.size_alloc]) | (refine wpList_load_any (ty := 57) (x := .tmp 5) (p := .pointer (some ⟨w.heap.size + 1 + 1, 0, none⟩)) (v := .agg P) ?_ rfl rfl rfl ?_; exact E3.out; simp only [Act.put, List.setIfInBounds_toArray, List.set_cons_succ, List.set_cons_zero, World.size_alloc]) | (refine wpList_build3 (t := 61) (x0 := .tmp 11) (x1 := .tmp 12) (x2 := .tmp 13) (v0 := .agg K) (v1 := .agg C) (v2 := .agg P) (v := .agg M) ?_ rfl rfl rfl rfl rfl ?_; exact EB.out; simp only [Act.put, List.setIfInBounds_toArray, List.set_cons_succ, List.set_cons_zero, World.size_alloc]) | (refine wpList_alloc_any (t := 61) (z := z) ?_ rfl rfl ?_; exact Hz.out _; simp only [Act.put, List.setIfInBounds_toArray, List.set_cons_succ, List.set_cons_zero, World.size_alloc]) | (refine wpList_store_any (ty := 61) (x := .tmp 7) (y := .tmp 14) (p := .pointer (some ⟨w.heap.size + 1 + 1 + 1, 0, none⟩)) (v := .agg M) (w' := (((w.alloc (.cells K 44)).alloc (.cells C 57)).alloc (.cells P 57)).alloc (.cells M 61)) ?_ rfl rfl rfl rfl ?_; exact ES.out; simp only [Act.put, List.setIfInBounds_toArray, List.set_cons_succ, List.set_cons_zero, World.size_alloc]))
  clear E1 E2 E3 EB ES
  have m1 : ((((w.alloc (.cells K 44)).alloc (.cells C 57)).alloc (.cells P 57)).alloc (.cells M 61)).heap[w.heap.size + 1 + 1 + 1]? = some (.cells M 61 (0, 0)) := by
    have := heap_alloc_new (((w.alloc (.cells K 44)).alloc (.cells C 57)).alloc (.cells P 57)) (.cells M 61)
    simpa using this
  have m2 : ((((w.alloc (.cells K 44)).alloc (.cells C 57)).alloc (.cells P 57)).alloc (.cells M 61)).heap.size = w.heap.size + 1 + 1 + 1 + 1 := by simp
  have m3 : Below w.heap.size w ((((w.alloc (.cells K 44)).alloc (.cells C 57)).alloc (.cells P 57)).alloc (.cells M 61)) := ((((Below.refl _ w).alloc (Nat.le_refl _) _).alloc (by simp) _).alloc (by simp; omega) _).alloc (by simp; omega) _
  generalize (((w.alloc (.cells K 44)).alloc (.cells C 57)).alloc (.cells P 57)).alloc (.cells M 61) = W2 at m1 m2 m3 ⊢
  generalize hmb : w.heap.size + 1 + 1 + 1 = mb at m1 m2 ⊢
  have M1 : Hid (W2.heap[mb]? = some (.cells M 61 (0, 0)) ∧ Below w.heap.size w W2 ∧ w.heap.size ≤ mb) := ⟨m1, m3, by omega⟩
  have hs2 : mb < W2.heap.size := by omega
  clear m1 m2 m3 hmb
  go_wp2_with fail
  refine (layout_w _ (W2.heap.size + 1) W2.heap.size mb (.slice none 0 0) [] M ?_ hMs bM.one (by simp) (by simp) (by omega) (by simp [Value.ownBlock]) (by simp [Value.ownBlock]) ?_ ?_ ?_ ?_ (World.ownsRow_nil _ _ _ _)).mono ?_
  · rw [Below.heap_alloc _ _ _ hs2]; exact M1.out.1
  · simp
  · simp
  · simp
  · simp
  rintro e w4 ⟨rfl, k4, v4, g4, o4, _⟩
  simp only [List.nil_append] at o4
  have hl4 : M.toList.length = 64 := by simpa using hMs
  rw [hl4] at o4
  obtain ⟨og, oc, ocur, rfl, oN, ob, on1, on2, on3, on4⟩ : ∃ g c cur, v4 = .slice (some ⟨g, 0, none⟩) 64 c ∧ W2.heap.size + 1 ≤ g ∧ w4.heap[g]? = some (.cells cur 5 (0, 0)) ∧ 64 ≤ c ∧ c ≤ maxLen ∧ cur.size = c * 1 ∧ cur.toList.take (64 * 1) = M.toList := by
    obtain ⟨_, ⟨_, h0⟩ | ⟨g, c, cur, h1, h2, h3, h4, h5, h6, h7⟩⟩ := o4
    · omega
    · exact ⟨g, c, cur, h1, h2, h3, h4, h5, h6, h7⟩
  have s4 : W2.heap.size < w4.heap.size := by have := k4.size; simp at this; omega
  have K4 : Hid (Wrote none W2.heap.size (W2.alloc (.cells #[.bool false, .slice none 0 0, .slice none 0 0, .nilIface] 65)) w4) := k4
  have O4 : Hid (w4.heap[og]? = some (.cells ocur 5 (0, 0)) ∧ ocur.toList.take (64 * 1) = M.toList) := ⟨ob, on4⟩
  have hog : og < w4.heap.size := (Array.getElem?_eq_some_iff.1 ob).1
  clear k4 o4 ob on2 on3 on4
  go_wp2_with (refine wpList_alloc_any (t := 61) (z := z) ?_ rfl rfl ?_; exact Hz.out _)
  have hR : Rd ((w4.alloc (.cells z 61)).alloc (.cells #[.bool true, .slice (some ⟨og, 0, none⟩) 64 oc, .slice none 0 0, .nilIface] 65)) (w4.heap.size + 1) w4.heap.size og 0 64 oc 0 (fun j => M.getD j undef) (fun j => z.getD j undef) .nilIface := by
    refine ⟨by simp, ⟨some ⟨og, 0, none⟩, by simp, fun _ => rfl⟩, by simp, by simp, by simp, ?_, fun j hj => ?_, fun j hj => ?_, .inr hog, by omega, by simp, on1⟩
    · refine ⟨z, ?_, hzs, fun i hi => ?_⟩
      · rw [Below.heap_alloc _ _ _ (by simp)]; exact heap_alloc_new _ _
      · simp [Array.getElem?_eq_getElem (show i < z.size by omega)]
    · have hx : (ocur.toList.take (64 * 1))[j]? = M.toList[j]? := by rw [O4.out.2]
      rw [Nat.mul_one, List.getElem?_take, if_pos hj] at hx
      rw [World.cell?_alloc_lt _ _ _ (by simp; omega), World.cell?_alloc_lt _ _ _ (by simpa using hog)]
      simp [World.cell?, O4.out.1]
      have hx2 : ocur[j]? = M[j]? := by simpa using hx
      rw [hx2, Array.getElem?_eq_getElem (show j < M.size by omega)]
      simp
    · have : M.getD j undef ∈ M.toList := by
        rw [Array.getD_eq_getD_getElem?, Array.getElem?_eq_getElem (show j < M.size by omega)]
        simp
      exact bM.one _ this
  refine (layout_r64 hR (by omega)).mono ?_
  clear hR
  rintro e w6 ⟨rfl, b6, r6⟩
  obtain ⟨A6, q1, _⟩ := r6.c1
  have q3 := r6.c3
  obtain ⟨cur6, p1, p2, p3⟩ := r6.row
  have hcur : cur6 = M := by
    apply Array.ext_getElem?
    intro i
    by_cases hi : i < 64
    · rw [p3 i hi]
      simp [hi, Array.getElem?_eq_getElem (show i < M.size by omega)]
    · rw [Array.getElem?_eq_none (by omega), Array.getElem?_eq_none (by omega)]
  subst hcur
  have F1 : Hid ((Instr.loadAt 61 (.pointer (some ⟨w4.heap.size, 0, none⟩))).run Yba.prog w6 = .ok (.agg cur6) w6) := load_row p1 Yba.underlying61 rfl (by rw [csize61, hMs])
  have hm6 : w6.heap[mb]? = some (.cells cur6 61 (0, 0)) := by
    rw [b6.block mb (by omega), Below.heap_alloc _ _ _ (by simp; omega), Below.heap_alloc _ _ _ (by omega), K4.out.block mb (by simp; omega) (by omega) (by simp), Below.heap_alloc _ _ _ hs2]
    exact M1.out.1
  have F2 : Hid ((Instr.loadAt 61 (.pointer (some ⟨mb, 0, none⟩))).run Yba.prog w6 = .ok (.agg cur6) w6) := load_row hm6 Yba.underlying61 rfl (by rw [csize61, hMs])
  have F3 : Hid ((binOp .eql 61 (.agg cur6) (.agg cur6)).run Yba.prog w6 = .ok (.bool true) w6) := eql_reg w6 cur6 hMs bM
  have HB : Hid (Below w.heap.size w w6) := by
    have h1 := M1.out.2.1
    have h2 : Below w.heap.size w w4 := h1.trans ⟨K4.out.os, K4.out.tape, K4.out.output, by omega, fun k hk => by
      have := h1.size
      have := M1.out.2.2
      rw [K4.out.block k (by simp; omega) (by omega) (by simp), Below.heap_alloc _ _ _ (by omega)]⟩
    have h3 := h2.size
    exact ((h2.alloc h3 _).alloc (by simp; omega) _).trans (b6.mono (by omega))
  clear b6 r6 p1 p2 p3 hm6
  go_wp2_with (first | (refine wpList_load_any (ty := 61) (x := .tmp 9) (p := .pointer (some ⟨w4.heap.size, 0, none⟩)) (v := .agg cur6) ?_ rfl rfl rfl ?_; exact F1.out; simp only [Act.put, List.setIfInBounds_toArray, List.set_cons_succ, List.set_cons_zero]) | (refine wpList_load_any (ty := 61) (x := .tmp 7) (p := .pointer (some ⟨mb, 0, none⟩)) (v := .agg cur6) ?_ rfl rfl rfl ?_; exact F2.out; simp only [Act.put, List.setIfInBounds_toArray, List.set_cons_succ, List.set_cons_zero]) | (refine wpList_agg_any (op := .eql) (t := 61) (x := .tmp 31) (y := .tmp 32) (A := cur6) (B := cur6) (v := .bool true) ?_ Yba.eqGuardType61 rfl rfl rfl rfl ?_; exact F3.out; simp only [Act.put, List.setIfInBounds_toArray, List.set_cons_succ, List.set_cons_zero]))
  go_ret
  exact ⟨rfl, HB.out⟩
end Go.Proofs.Ybulkaigo
