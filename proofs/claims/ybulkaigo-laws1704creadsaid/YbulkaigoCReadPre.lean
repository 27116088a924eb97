/-
  LawS1704CRead: her walk where an error was laid before.
-/
import Derived.Test.YbulkaigoCReadLaw
import Derived.LaidEql
namespace Go.Proofs.Ybulkaigo
open Go.RowKit
set_option linter.unusedSimpArgs false
set_option linter.unusedVariables false

set_option maxHeartbeats 400000 in
set_option maxRecDepth 100000 in
theorem new_err (w : World) (S : ByteArray) : Calls Yba.prog 14 #[.string S] w fun e w' => e = .returned (.iface 76 (.pointer (some ⟨w.heap.size, 0, none⟩))) ∧ w' = w.alloc (.cells #[.string S] 78) := by
  go_enter Yba.func14, Yba.ntmps14
  go_wp2
  go_ret
  exact ⟨rfl, rfl⟩

theorem eql63 (w : World) (a : Addr) : (binOp .eql 63 (.iface 76 (.pointer (some a))) (.iface 76 (.pointer (some a)))).run Yba.prog w = .ok (.bool true) w :=
  run_eql_iface_ptr_same (i := Yba.t76) (j := Yba.t78) w a Yba.underlying63 Yba.underlying76 (by kernel_rfl) (by kernel_rfl) (by kernel_rfl)

set_option maxHeartbeats 400000 in
set_option maxRecDepth 100000 in
theorem layout_err2 {w : World} {mb cb : Nat} {T : TypeId} {x : Value} (h0 : w.cell? ⟨cb, 0, none⟩ = some (.bool true)) (h3 : w.cell? ⟨cb, 3, none⟩ = some (.iface T x)) :
    Calls Yba.prog 12 #[.pointer (some ⟨mb, 0, none⟩), .pointer (some ⟨cb, 0, none⟩)] w fun e w' => e = .returned (.tuple #[]) ∧ w' = w := by
  go_enter Yba.func12, Yba.ntmps12
  go_wp2_with fail
  refine (bytes_err _ cb mb 0 32 (by omega) T x h0 h3).mono ?_
  rintro e w1 ⟨rfl, hw1⟩
  subst hw1
  go_wp2_with fail
  refine (bytes_err _ cb mb 32 16 (by omega) T x h0 h3).mono ?_
  rintro e w2 ⟨rfl, hw2⟩
  subst hw2
  go_wp2_with fail
  refine (bytes_err _ cb mb 48 16 (by omega) T x h0 h3).mono ?_
  rintro e w3 ⟨rfl, hw3⟩
  subst hw3
  go_wp2_with fail
  go_end0
  exact ⟨rfl, rfl⟩

set_option maxHeartbeats 1000000 in
set_option maxRecDepth 100000 in
theorem law_read_pre (w : World) (pa : Option Addr) (n cap : Nat) (hn : n ≤ 1024) (K C P : Array Value) (hK : K.size = 32) (hC : C.size = 16) (hP : P.size = 16) (bK : BL K.toList) (bC : BL C.toList) (bP : BL P.toList)
    :
    Calls Yba.prog 6 #[.slice pa n cap, .agg K, .agg C, .agg P, .bool true] w fun e w' => e = .returned (.bool true) ∧ Below w.heap.size w w' := by
  obtain ⟨z, hz, hzs⟩ := zero61
  obtain ⟨M, hM⟩ : ∃ M, M = K ++ C ++ P := ⟨_, rfl⟩
  have hMs : M.size = 64 := by rw [hM]; simp; omega
  have bM : BL M.toList := by
    rw [hM]; intro v hv
    simp only [Array.toList_append, List.mem_append] at hv
    rcases hv with (hv | hv) | hv
    · exact bK v hv
    · exact bC v hv
    · exact bP v hv
  obtain ⟨x1, x2, x3⟩ := boxes3 w (.cells K 44) (.cells C 57) (.cells P 57)
  have E1 : Hid ((Instr.loadAt 44 (.pointer (some ⟨w.heap.size, 0, none⟩))).run Yba.prog (((w.alloc (.cells K 44)).alloc (.cells C 57)).alloc (.cells P 57)) = .ok (.agg K) (((w.alloc (.cells K 44)).alloc (.cells C 57)).alloc (.cells P 57))) := load_row x1 Yba.underlying44 rfl (by rw [csize44, hK])
  have E2 : Hid ((Instr.loadAt 57 (.pointer (some ⟨w.heap.size + 1, 0, none⟩))).run Yba.prog (((w.alloc (.cells K 44)).alloc (.cells C 57)).alloc (.cells P 57)) = .ok (.agg C) (((w.alloc (.cells K 44)).alloc (.cells C 57)).alloc (.cells P 57))) := load_row x2 Yba.underlying57 rfl (by rw [csize57, hC])
  have E3 : Hid ((Instr.loadAt 57 (.pointer (some ⟨w.heap.size + 1 + 1, 0, none⟩))).run Yba.prog (((w.alloc (.cells K 44)).alloc (.cells C 57)).alloc (.cells P 57)) = .ok (.agg P) (((w.alloc (.cells K 44)).alloc (.cells C 57)).alloc (.cells P 57))) := load_row x3 Yba.underlying57 rfl (by rw [csize57, hP])
  have EB : Hid ((Instr.build 61 #[(0, .agg K), (1, .agg C), (2, .agg P)]).run Yba.prog (((w.alloc (.cells K 44)).alloc (.cells C 57)).alloc (.cells P 57)) = .ok (.agg M) (((w.alloc (.cells K 44)).alloc (.cells C 57)).alloc (.cells P 57))) := by
    show _ = _
    rw [hM]; exact build61 _ K C P hK hC hP
  have ES : Hid ((Instr.storeAt 61 (.pointer (some ⟨w.heap.size + 1 + 1 + 1, 0, none⟩)) (.agg M)).run Yba.prog ((((w.alloc (.cells K 44)).alloc (.cells C 57)).alloc (.cells P 57)).alloc (.cells z 61)) = .ok () ((((w.alloc (.cells K 44)).alloc (.cells C 57)).alloc (.cells P 57)).alloc (.cells M 61))) := by
    have := crun_storeAt_row (P := Yba.prog) (w := (((w.alloc (.cells K 44)).alloc (.cells C 57)).alloc (.cells P 57)).alloc (.cells z 61)) (((w.alloc (.cells K 44)).alloc (.cells C 57)).alloc (.cells P 57)).heap.size 61 61 z M (heap_alloc_new _ _) (by rw [csize61, hMs]) (by rw [hzs, hMs]) bM.one
    rw [World.setRow_alloc_new] at this
    show _ = _
    simpa using this
  have HX : Hid ((((w.alloc (.cells K 44)).alloc (.cells C 57)).alloc (.cells P 57)).heap[w.heap.size]? = some (.cells K 44) ∧ (((w.alloc (.cells K 44)).alloc (.cells C 57)).alloc (.cells P 57)).heap[w.heap.size + 1]? = some (.cells C 57) ∧ (((w.alloc (.cells K 44)).alloc (.cells C 57)).alloc (.cells P 57)).heap[w.heap.size + 1 + 1]? = some (.cells P 57)) := ⟨x1, x2, x3⟩
  have HM : Hid (M = K ++ C ++ P) := hM
  clear x1 x2 x3 hM
  have Hz : Hid (∀ w : World, Sem.run Yba.prog (zeroValue 61) w = .ok (.agg z) w) := hz
  clear hz
  have hn' : (n : Int) ≤ 1024 := by omega
  go_enter Yba.func6, Yba.ntmps6
  go_upto_region 4 with (first | (refine wpList_load_any (ty := 44) (x := .tmp 6) (p := .pointer (some ⟨w.heap.size, 0, none⟩)) (v := .agg K) ?_ rfl rfl rfl ?_; exact E1.out; simp only [Act.put, List.setIfInBounds_toArray, List.set_cons_succ, List.set_cons_zero, World.size_alloc]) | (refine wpList_load_any (ty := 57) (x := .tmp 7) (p := .pointer (some ⟨w.heap.size + 1, 0, none⟩)) (v := .agg C) ?_ rfl rfl rfl ?_; exact E2.out; simp only [Act.put, List.setIfInBounds_toArray, List.set_cons_succ, List.set_cons_zero, World.size_alloc]) | (refine wpList_load_any (ty := 57) (x := .tmp 8) (p := .pointer (some ⟨w.heap.size + 1 + 1, 0, none⟩)) (v := .agg P) ?_ rfl rfl rfl ?_; exact E3.out; simp only [Act.put, List.setIfInBounds_toArray, List.set_cons_succ, List.set_cons_zero, World.size_alloc]) | (refine wpList_build3 (t := 61) (x0 := .tmp 19) (x1 := .tmp 20) (x2 := .tmp 21) (v0 := .agg K) (v1 := .agg C) (v2 := .agg P) (v := .agg M) ?_ rfl rfl rfl rfl rfl ?_; exact EB.out; simp only [Act.put, List.setIfInBounds_toArray, List.set_cons_succ, List.set_cons_zero, World.size_alloc]) | (refine wpList_alloc_any (t := 61) (z := z) ?_ rfl rfl ?_; exact Hz.out _; simp only [Act.put, List.setIfInBounds_toArray, List.set_cons_succ, List.set_cons_zero, World.size_alloc]) | (refine wpList_store_any (ty := 61) (x := .tmp 11) (y := .tmp 22) (p := .pointer (some ⟨w.heap.size + 1 + 1 + 1, 0, none⟩)) (v := .agg M) (w' := (((w.alloc (.cells K 44)).alloc (.cells C 57)).alloc (.cells P 57)).alloc (.cells M 61)) ?_ rfl rfl rfl rfl ?_; exact ES.out; simp only [Act.put, List.setIfInBounds_toArray, List.set_cons_succ, List.set_cons_zero, World.size_alloc]))
  clear E1 E2 E3 EB ES
  have m1 : ((((w.alloc (.cells K 44)).alloc (.cells C 57)).alloc (.cells P 57)).alloc (.cells M 61)).heap[w.heap.size + 1 + 1 + 1]? = some (.cells M 61 (0, 0)) := by
    have := heap_alloc_new (((w.alloc (.cells K 44)).alloc (.cells C 57)).alloc (.cells P 57)) (.cells M 61)
    simpa using this
  have m2 : ((((w.alloc (.cells K 44)).alloc (.cells C 57)).alloc (.cells P 57)).alloc (.cells M 61)).heap.size = w.heap.size + 1 + 1 + 1 + 1 := by simp
  have m3 : Below w.heap.size w ((((w.alloc (.cells K 44)).alloc (.cells C 57)).alloc (.cells P 57)).alloc (.cells M 61)) := ((((Below.refl _ w).alloc (Nat.le_refl _) _).alloc (by simp) _).alloc (by simp; omega) _).alloc (by simp; omega) _
  have m4 : ∀ k, k < w.heap.size + 1 + 1 + 1 → ((((w.alloc (.cells K 44)).alloc (.cells C 57)).alloc (.cells P 57)).alloc (.cells M 61)).heap[k]? = (((w.alloc (.cells K 44)).alloc (.cells C 57)).alloc (.cells P 57)).heap[k]? := fun k hk => Below.heap_alloc _ _ _ (by simp; omega)
  have M1 : Hid (((((w.alloc (.cells K 44)).alloc (.cells C 57)).alloc (.cells P 57)).alloc (.cells M 61)).heap[w.heap.size + 1 + 1 + 1]? = some (.cells M 61 (0, 0)) ∧ Below w.heap.size w ((((w.alloc (.cells K 44)).alloc (.cells C 57)).alloc (.cells P 57)).alloc (.cells M 61)) ∧ ((((w.alloc (.cells K 44)).alloc (.cells C 57)).alloc (.cells P 57)).alloc (.cells M 61)).heap[w.heap.size]? = some (.cells K 44) ∧ ((((w.alloc (.cells K 44)).alloc (.cells C 57)).alloc (.cells P 57)).alloc (.cells M 61)).heap[w.heap.size + 1]? = some (.cells C 57) ∧ ((((w.alloc (.cells K 44)).alloc (.cells C 57)).alloc (.cells P 57)).alloc (.cells M 61)).heap[w.heap.size + 1 + 1]? = some (.cells P 57)) := ⟨m1, m3, (m4 _ (by omega)).trans HX.out.1, (m4 _ (by omega)).trans HX.out.2.1, (m4 _ (by omega)).trans HX.out.2.2⟩
  clear m1 m3 m4 HX
  generalize (((w.alloc (.cells K 44)).alloc (.cells C 57)).alloc (.cells P 57)).alloc (.cells M 61) = W2 at M1 m2 ⊢
  go_upto_region 7 with fail
  go_wp2_with fail
  refine (new_err _ _).mono ?_
  rintro e w4 ⟨rfl, rfl⟩
  go_upto_region 9 with fail
  obtain ⟨w6, hw6⟩ : ∃ w6, w6 = (W2.alloc (.cells #[.bool true, .slice pa n cap, .slice none 0 0, .iface 76 (.pointer (some ⟨w.heap.size + 1 + 1 + 1 + 1 + 1, 0, none⟩))] 65)).alloc (.cells #[.string { data := #[101, 97, 114, 108, 105, 101, 114] }] 78) := ⟨_, rfl⟩
  rw [← hw6]
  have blk : ∀ k, k < W2.heap.size → w6.heap[k]? = W2.heap[k]? := fun k hk => by
    rw [hw6, Below.heap_alloc _ _ _ (by simp; omega), Below.heap_alloc _ _ _ hk]
  have cblk : w6.heap[w.heap.size + 1 + 1 + 1 + 1]? = some (.cells #[.bool true, .slice pa n cap, .slice none 0 0, .iface 76 (.pointer (some ⟨w.heap.size + 1 + 1 + 1 + 1 + 1, 0, none⟩))] 65) := by
    rw [hw6, Below.heap_alloc _ _ _ (by simp; omega), ← m2]
    exact heap_alloc_new _ _
  have c0 : w6.cell? ⟨w.heap.size + 1 + 1 + 1 + 1, 0, none⟩ = some (.bool true) := by simp [World.cell?, cblk]
  have c1 : w6.cell? ⟨w.heap.size + 1 + 1 + 1 + 1, 1, none⟩ = some (.slice pa n cap) := by simp [World.cell?, cblk]
  have c3 : w6.cell? ⟨w.heap.size + 1 + 1 + 1 + 1, 3, none⟩ = some (.iface 76 (.pointer (some ⟨w.heap.size + 1 + 1 + 1 + 1 + 1, 0, none⟩))) := by simp [World.cell?, cblk]
  have HH : Hid (w6.heap[w.heap.size]? = some (.cells K 44 (0, 0)) ∧ w6.heap[w.heap.size + 1]? = some (.cells C 57 (0, 0)) ∧ w6.heap[w.heap.size + 1 + 1]? = some (.cells P 57 (0, 0)) ∧ w6.heap[w.heap.size + 1 + 1 + 1]? = some (.cells M 61 (0, 0)) ∧ Below w.heap.size w w6) := by
    refine ⟨(blk _ (by omega)).trans M1.out.2.2.1, (blk _ (by omega)).trans M1.out.2.2.2.1, (blk _ (by omega)).trans M1.out.2.2.2.2, (blk _ (by omega)).trans M1.out.1, ?_⟩
    rw [hw6]
    exact (M1.out.2.1.alloc (by omega) _).alloc (by simp; omega) _
  have ee : ∀ w : World, ∀ a : Addr, (binOp .eql 63 (.iface 76 (.pointer (some a))) (.iface 76 (.pointer (some a)))).run Yba.prog w = .ok (.bool true) w := fun w a => eql63 w a
  clear hw6 blk cblk M1 m2
  go_wp2_with fail
  refine (layout_err2 c0 c3).mono ?_
  rintro e w7 ⟨rfl, hw7⟩
  subst hw7
  have FA0 : Hid ((Instr.loadAt 45 (.pointer (some ⟨w.heap.size + 1 + 1 + 1, 0, none⟩))).run Yba.prog w7 = .ok (.agg K) w7) := load_part (M := M) (n := 32) (t := 61) HH.out.2.2.2.1 Yba.underlying45 csize45 hK (fun j hj => by rw [HM.out, Nat.zero_add, Array.getElem?_append, if_pos (by simp; omega), Array.getElem?_append, if_pos (by omega)])
  have FB0 : Hid ((Instr.loadAt 44 (.pointer (some ⟨w.heap.size, 0, none⟩))).run Yba.prog w7 = .ok (.agg K) w7) := load_row HH.out.1 Yba.underlying44 rfl (by rw [csize44, hK])
  have FC0 : Hid ((binOp .eql 45 (.agg K) (.agg K)).run Yba.prog w7 = .ok (.bool true) w7) := eql_bytes w7 32 45 Yba.underlying45 K hK bK
  have FA32 : Hid ((Instr.loadAt 58 (.pointer (some ⟨w.heap.size + 1 + 1 + 1, 32, none⟩))).run Yba.prog w7 = .ok (.agg C) w7) := load_part (M := M) (n := 16) (t := 61) HH.out.2.2.2.1 Yba.underlying58 csize58 hC (fun j hj => by rw [HM.out, Array.getElem?_append, if_pos (by simp; omega), Array.getElem?_append, if_neg (by omega), hK, show 32 + j - 32 = j from by omega])
  have FB32 : Hid ((Instr.loadAt 57 (.pointer (some ⟨w.heap.size + 1, 0, none⟩))).run Yba.prog w7 = .ok (.agg C) w7) := load_row HH.out.2.1 Yba.underlying57 rfl (by rw [csize57, hC])
  have FC32 : Hid ((binOp .eql 58 (.agg C) (.agg C)).run Yba.prog w7 = .ok (.bool true) w7) := eql_bytes w7 16 58 Yba.underlying58 C hC bC
  have FA48 : Hid ((Instr.loadAt 59 (.pointer (some ⟨w.heap.size + 1 + 1 + 1, 48, none⟩))).run Yba.prog w7 = .ok (.agg P) w7) := load_part (M := M) (n := 16) (t := 61) HH.out.2.2.2.1 Yba.underlying59 csize59 hP (fun j hj => by rw [HM.out, Array.getElem?_append, if_neg (by simp; omega)]; simp only [Array.size_append, hK, hC]; rw [show 48 + j - (32 + 16) = j from by omega])
  have FB48 : Hid ((Instr.loadAt 57 (.pointer (some ⟨w.heap.size + 1 + 1, 0, none⟩))).run Yba.prog w7 = .ok (.agg P) w7) := load_row HH.out.2.2.1 Yba.underlying57 rfl (by rw [csize57, hP])
  have FC48 : Hid ((binOp .eql 59 (.agg P) (.agg P)).run Yba.prog w7 = .ok (.bool true) w7) := eql_bytes w7 16 59 Yba.underlying59 P hP bP
  clear c0
  go_wp2_with (first | (refine wpList_load_any (ty := 45) (x := .tmp 45) (p := .pointer (some ⟨w.heap.size + 1 + 1 + 1, 0, none⟩)) (v := .agg K) ?_ rfl rfl rfl ?_; exact FA0.out; simp only [Act.put, List.setIfInBounds_toArray, List.set_cons_succ, List.set_cons_zero, World.size_alloc]) | (refine wpList_load_any (ty := 44) (x := .tmp 6) (p := .pointer (some ⟨w.heap.size, 0, none⟩)) (v := .agg K) ?_ rfl rfl rfl ?_; exact FB0.out; simp only [Act.put, List.setIfInBounds_toArray, List.set_cons_succ, List.set_cons_zero, World.size_alloc]) | (refine wpList_agg_any (op := .eql) (t := 45) (x := .tmp 46) (y := .tmp 47) (A := K) (B := K) (v := .bool true) ?_ Yba.eqGuardType45 rfl rfl rfl rfl ?_; exact FC0.out; simp only [Act.put, List.setIfInBounds_toArray, List.set_cons_succ, List.set_cons_zero, World.size_alloc]) | (refine wpList_load_any (ty := 58) (x := .tmp 51) (p := .pointer (some ⟨w.heap.size + 1 + 1 + 1, 32, none⟩)) (v := .agg C) ?_ rfl rfl rfl ?_; exact FA32.out; simp only [Act.put, List.setIfInBounds_toArray, List.set_cons_succ, List.set_cons_zero, World.size_alloc]) | (refine wpList_load_any (ty := 57) (x := .tmp 7) (p := .pointer (some ⟨w.heap.size + 1, 0, none⟩)) (v := .agg C) ?_ rfl rfl rfl ?_; exact FB32.out; simp only [Act.put, List.setIfInBounds_toArray, List.set_cons_succ, List.set_cons_zero, World.size_alloc]) | (refine wpList_agg_any (op := .eql) (t := 58) (x := .tmp 52) (y := .tmp 53) (A := C) (B := C) (v := .bool true) ?_ Yba.eqGuardType58 rfl rfl rfl rfl ?_; exact FC32.out; simp only [Act.put, List.setIfInBounds_toArray, List.set_cons_succ, List.set_cons_zero, World.size_alloc]) | (refine wpList_load_any (ty := 59) (x := .tmp 57) (p := .pointer (some ⟨w.heap.size + 1 + 1 + 1, 48, none⟩)) (v := .agg P) ?_ rfl rfl rfl ?_; exact FA48.out; simp only [Act.put, List.setIfInBounds_toArray, List.set_cons_succ, List.set_cons_zero, World.size_alloc]) | (refine wpList_load_any (ty := 57) (x := .tmp 8) (p := .pointer (some ⟨w.heap.size + 1 + 1, 0, none⟩)) (v := .agg P) ?_ rfl rfl rfl ?_; exact FB48.out; simp only [Act.put, List.setIfInBounds_toArray, List.set_cons_succ, List.set_cons_zero, World.size_alloc]) | (refine wpList_agg_any (op := .eql) (t := 59) (x := .tmp 58) (y := .tmp 59) (A := P) (B := P) (v := .bool true) ?_ Yba.eqGuardType59 rfl rfl rfl rfl ?_; exact FC48.out; simp only [Act.put, List.setIfInBounds_toArray, List.set_cons_succ, List.set_cons_zero, World.size_alloc]))
  go_ret
  exact ⟨rfl, HH.out.2.2.2.2⟩
end Go.Proofs.Ybulkaigo
