/-
  LawS1704CWrite: her walk.
-/
import Derived.Test.YbulkaigoCTrip
namespace Go.Proofs.Ybulkaigo
open Go.RowKit
set_option linter.unusedSimpArgs false

/-- A byte of an array, as a number. -/
def byteAt (A : Array Value) (j : Nat) : Int := intOf (A.getD j undef)
theorem byteAt_eq {A : Array Value} (h : BL A.toList) {j : Nat} (hj : j < A.size) : A[j]? = some (.int .u8 (byteAt A j)) := by
  obtain ⟨z, hz⟩ := h A[j] (by simp)
  rw [Array.getElem?_eq_getElem hj]
  simp [byteAt, Array.getElem?_eq_getElem hj, hz, intOf]

/-- The bytes that came in, as cells. -/
def pre (Z : Nat → Int) (n : Nat) : List Value := (List.range n).map fun i => Value.int .u8 (Z i)
theorem pre_length (Z : Nat → Int) (n : Nat) : (pre Z n).length = n := by simp [pre]
theorem pre_at (Z : Nat → Int) {n j : Nat} (h : j < n) : (pre Z n)[j]? = some (.int .u8 (Z j)) := by simp [pre, h]
theorem pre_one (Z : Nat → Int) (n : Nat) : ∀ v ∈ pre Z n, v.oneCell' = true := fun v hv => by
  obtain ⟨i, _, rfl⟩ := List.mem_map.1 hv
  rfl

theorem csize45 : (Yba.prog.info? 45).map (·.size) = some 32 := by kernel_rfl
theorem csize58 : (Yba.prog.info? 58).map (·.size) = some 16 := by kernel_rfl
theorem csize59 : (Yba.prog.info? 59).map (·.size) = some 16 := by kernel_rfl

/-- A field of the message, loaded. -/
theorem load_part {w : World} {b o n t ty : Nat} {M A : Array Value} (hg : w.heap[b]? = some (.cells M t (0, 0))) (hu : Yba.prog.underlying ty = some (.array n 5)) (hi : (Yba.prog.info? ty).map (·.size) = some n) (hA : A.size = n) (hM : ∀ j, j < n → M[o + j]? = A[j]?) :
    (Instr.loadAt ty (.pointer (some ⟨b, o, none⟩))).run Yba.prog w = .ok (.agg A) w := by
  have hc : w.rangeAt b o A.toList := by
    intro j v hv
    have hj : A[j]? = some v := by simpa using hv
    have hjn : j < n := by
      have := (Array.getElem?_eq_some_iff.mp hj).1
      omega
    have hm : M[o + j]? = some v := by rw [hM j hjn]; exact hj
    simp [World.cell?, hg, hm]
  have h := run_loadAt_mid (P := Yba.prog) w b o ty A.toList _ hc hu rfl (by rw [hi]; simp [hA])
  simpa using h

set_option maxHeartbeats 1000000 in
set_option maxRecDepth 100000 in
theorem law_write (w : World) (pa : Option Addr) (n cap : Nat) (Z : Nat → Int) (hn : n ≤ 1024) (K C P : Array Value) (hK : K.size = 32) (hC : C.size = 16) (hP : P.size = 16) (bK : BL K.toList) (bC : BL C.toList) (bP : BL P.toList)
    (hp : ∀ i, i < n → ∃ b off, pa = some ⟨b, off, none⟩ ∧ b < w.heap.size ∧ w.cell? ⟨b, off + i, none⟩ = some (.int .u8 (Z i))) :
    Calls Yba.prog 5 #[.slice pa n cap, .agg K, .agg C, .agg P] w fun e w' => e = .returned (.bool true) ∧ Below w.heap.size w w' := by
  obtain ⟨z, hz, hzs⟩ := zero61
  obtain ⟨M, hM⟩ : ∃ M, M = K ++ C ++ P := ⟨_, rfl⟩
  have hMs : M.size = 64 := by rw [hM]; simp; omega
  have bM : BL M.toList := by
    rw [hM]; intro v hv
    simp only [Array.toList_append, List.mem_append] at hv
    rcases hv with (hv | hv) | hv
    · exact bK v hv
    · exact bC v hv
    · exact bP v hv
  have HM : Hid (M = K ++ C ++ P) := hM
  have Hz : Hid (∀ w : World, Sem.run Yba.prog (zeroValue 61) w = .ok (.agg z) w) := hz
  clear hz hM
  obtain ⟨x1, x2, x3⟩ := boxes3 w (.cells K 44) (.cells C 57) (.cells P 57)
  have HX : Hid ((((w.alloc (.cells K 44)).alloc (.cells C 57)).alloc (.cells P 57)).heap[w.heap.size]? = some (.cells K 44) ∧ (((w.alloc (.cells K 44)).alloc (.cells C 57)).alloc (.cells P 57)).heap[w.heap.size + 1]? = some (.cells C 57) ∧ (((w.alloc (.cells K 44)).alloc (.cells C 57)).alloc (.cells P 57)).heap[w.heap.size + 1 + 1]? = some (.cells P 57)) := ⟨x1, x2, x3⟩
  clear x1 x2 x3
  have hmk := run_make_row' (P := Yba.prog) 56 5 (.int .u8 0) 1 Yba.underlying56 cinfo5 rfl .i64 .i64 n (by omega) (by omega)
  have HBx : Hid (Below w.heap.size w ((((w.alloc (.cells K 44)).alloc (.cells C 57)).alloc (.cells P 57)).alloc (.cells (madeCells #[.int .u8 0] n) 5))) := ((((Below.refl _ w).alloc (Nat.le_refl _) _).alloc (by simp) _).alloc (by simp; omega) _).alloc (by simp; omega) _
  have HGm : Hid (((((w.alloc (.cells K 44)).alloc (.cells C 57)).alloc (.cells P 57)).alloc (.cells (madeCells #[.int .u8 0] n) 5)).heap[w.heap.size + 1 + 1 + 1]? = some (.cells ((madeCells #[.int .u8 0] n).toList.toArray) 5 (0, 0))) := by
    have := heap_alloc_new (((w.alloc (.cells K 44)).alloc (.cells C 57)).alloc (.cells P 57)) (.cells (madeCells #[.int .u8 0] n) 5)
    show _ = _
    simpa using this
  have HPs : Hid (0 < (pre Z n).length → (some ⟨w.heap.size + 1 + 1 + 1, 0, none⟩ : Option Addr) = some ⟨w.heap.size + 1 + 1 + 1, 0, none⟩ ∧ ∃ ad, pa = some ad ∧ ∀ j v, (pre Z n)[j]? = some v → ((((w.alloc (.cells K 44)).alloc (.cells C 57)).alloc (.cells P 57)).alloc (.cells (madeCells #[.int .u8 0] n) 5)).cell? (ad.add j) = some v) := by
    intro hpos
    rw [pre_length] at hpos
    obtain ⟨b, off, rfl, hb, _⟩ := hp 0 hpos
    refine ⟨rfl, ⟨b, off, none⟩, rfl, fun j v hj => ?_⟩
    have hj' : j < n := by have := (List.getElem?_eq_some_iff.1 hj).1; rwa [pre_length] at this
    obtain ⟨b', off', e, hb', hc⟩ := hp j hj'
    simp at e
    obtain ⟨rfl, rfl⟩ := e
    rw [pre_at Z hj'] at hj
    rw [Addr.add_lit, HBx.out.cell (by exact hb'), hc, hj]
  have hsz : (madeCells #[(.int .u8 0 : Value)] n).toList.length = n := by simp [size_madeCells]
  go_enter Yba.func5, Yba.ntmps5
  go_upto_region 4 with fail
  go_upto_region 5 with (refine wpList_copy_splice (w := (((w.alloc (.cells K 44)).alloc (.cells C 57)).alloc (.cells P 57)).alloc (.cells (madeCells #[.int .u8 0] n) 5)) rfl (.tmp 19) (.tmp 20) 56 56 rfl 5 Yba.underlying56 csize5 (some ⟨w.heap.size + 1 + 1 + 1, 0, none⟩) pa n n n cap rfl rfl (w.heap.size + 1 + 1 + 1) 0 (madeCells #[.int .u8 0] n).toList 5 HGm.out (pre Z n) (by rw [pre_length]; simp) HPs.out (by rw [pre_length, hsz]; omega) (pre_one Z n) (w.heap.size + 1 + 1 + 1) _ (Below.refl _ _) (Nat.le_refl _) ?_; intro w3 hg3 hb3; simp only [Act.put, List.setIfInBounds_toArray, List.set_cons_succ, List.set_cons_zero])
  have hs3 : w.heap.size + 1 + 1 + 1 < w3.heap.size := (Array.getElem?_eq_some_iff.1 hg3.out).1
  have hrow : w3.heap[w.heap.size + 1 + 1 + 1]? = some (.cells (pre Z n).toArray 5 (0, 0)) := by
    rw [hg3.out]
    have : splice (madeCells #[(.int .u8 0 : Value)] n).toList 0 (pre Z n) = pre Z n := by
      unfold splice
      rw [List.drop_eq_nil_of_le (by rw [pre_length, hsz]; omega)]
      simp
    rw [this]
  have y : ∀ k, k < w.heap.size + 1 + 1 + 1 → w3.heap[k]? = (((w.alloc (.cells K 44)).alloc (.cells C 57)).alloc (.cells P 57)).heap[k]? := fun k hk => (hb3.block k hk).trans (Below.heap_alloc _ _ _ (by simpa using hk))
  have y1 := (y w.heap.size (by omega)).trans HX.out.1
  have y2 := (y (w.heap.size + 1) (by omega)).trans HX.out.2.1
  have y3 := (y (w.heap.size + 1 + 1) (by omega)).trans HX.out.2.2
  have E1 : Hid ((Instr.loadAt 44 (.pointer (some ⟨w.heap.size, 0, none⟩))).run Yba.prog w3 = .ok (.agg K) w3) := load_row y1 Yba.underlying44 rfl (by rw [csize44, hK])
  have E2 : Hid ((Instr.loadAt 57 (.pointer (some ⟨w.heap.size + 1, 0, none⟩))).run Yba.prog w3 = .ok (.agg C) w3) := load_row y2 Yba.underlying57 rfl (by rw [csize57, hC])
  have E3 : Hid ((Instr.loadAt 57 (.pointer (some ⟨w.heap.size + 1 + 1, 0, none⟩))).run Yba.prog w3 = .ok (.agg P) w3) := load_row y3 Yba.underlying57 rfl (by rw [csize57, hP])
  have EB : Hid ((Instr.build 61 #[(0, .agg K), (1, .agg C), (2, .agg P)]).run Yba.prog w3 = .ok (.agg M) w3) := by
    show _ = _
    rw [HM.out]; exact build61 _ K C P hK hC hP
  have ES : Hid ((Instr.storeAt 61 (.pointer (some ⟨w3.heap.size, 0, none⟩)) (.agg M)).run Yba.prog (w3.alloc (.cells z 61)) = .ok () (w3.alloc (.cells M 61))) := by
    have := crun_storeAt_row (P := Yba.prog) (w := w3.alloc (.cells z 61)) w3.heap.size 61 61 z M (heap_alloc_new _ _) (by rw [csize61, hMs]) (by rw [hzs, hMs]) bM.one
    rw [World.setRow_alloc_new] at this
    exact this
  have Y : Hid (w3.heap[w.heap.size]? = some (.cells K 44 (0, 0)) ∧ w3.heap[w.heap.size + 1]? = some (.cells C 57 (0, 0)) ∧ w3.heap[w.heap.size + 1 + 1]? = some (.cells P 57 (0, 0)) ∧ w3.heap[w.heap.size + 1 + 1 + 1]? = some (.cells (pre Z n).toArray 5 (0, 0)) ∧ Below w.heap.size w w3) := ⟨y1, y2, y3, hrow, HBx.out.trans (hb3.mono (by omega))⟩
  have Hp : Hid (∀ i, i < n → ∃ b off, pa = some ⟨b, off, none⟩ ∧ b < w.heap.size ∧ w.cell? ⟨b, off + i, none⟩ = some (.int .u8 (Z i))) := hp
  clear hp y y1 y2 y3 hrow hb3 hg3 HBx HGm HPs HX hmk hsz
  go_upto_region 6 with (first | (refine wpList_load_any (ty := 44) (x := .tmp 5) (p := .pointer (some ⟨w.heap.size, 0, none⟩)) (v := .agg K) ?_ rfl rfl rfl ?_; exact E1.out; simp only [Act.put, List.setIfInBounds_toArray, List.set_cons_succ, List.set_cons_zero, World.size_alloc]) | (refine wpList_load_any (ty := 57) (x := .tmp 6) (p := .pointer (some ⟨w.heap.size + 1, 0, none⟩)) (v := .agg C) ?_ rfl rfl rfl ?_; exact E2.out; simp only [Act.put, List.setIfInBounds_toArray, List.set_cons_succ, List.set_cons_zero, World.size_alloc]) | (refine wpList_load_any (ty := 57) (x := .tmp 7) (p := .pointer (some ⟨w.heap.size + 1 + 1, 0, none⟩)) (v := .agg P) ?_ rfl rfl rfl ?_; exact E3.out; simp only [Act.put, List.setIfInBounds_toArray, List.set_cons_succ, List.set_cons_zero, World.size_alloc]) | (refine wpList_build3 (t := 61) (x0 := .tmp 22) (x1 := .tmp 23) (x2 := .tmp 24) (v0 := .agg K) (v1 := .agg C) (v2 := .agg P) (v := .agg M) ?_ rfl rfl rfl rfl rfl ?_; exact EB.out; simp only [Act.put, List.setIfInBounds_toArray, List.set_cons_succ, List.set_cons_zero, World.size_alloc]) | (refine wpList_alloc_any (t := 61) (z := z) ?_ rfl rfl ?_; exact Hz.out _; simp only [Act.put, List.setIfInBounds_toArray, List.set_cons_succ, List.set_cons_zero, World.size_alloc]) | (refine wpList_store_any (ty := 61) (x := .tmp 10) (y := .tmp 25) (p := .pointer (some ⟨w3.heap.size, 0, none⟩)) (v := .agg M) (w' := w3.alloc (.cells M 61)) ?_ rfl rfl rfl rfl ?_; exact ES.out; simp only [Act.put, List.setIfInBounds_toArray, List.set_cons_succ, List.set_cons_zero, World.size_alloc]))
  clear E1 E2 E3 EB ES
  go_wp2_with fail
  refine (layout_w _ (w.heap.size + 1 + 1 + 1) (w3.heap.size + 1) w3.heap.size (.slice (some ⟨w.heap.size + 1 + 1 + 1, 0, none⟩) n n) (pre Z n) M ?_ hMs bM.one (by rw [pre_length]; omega) (by simp) (by omega) (by simp [Value.ownBlock]; omega) (by simp [Value.ownBlock]; omega) (by simp; omega) ?_ ?_ ?_ ?_).mono ?_
  · rw [Below.heap_alloc _ _ _ (by simp)]; exact heap_alloc_new _ _
  · simp
  · simp
  · simp
  · refine ⟨by simp, .inr ⟨w.heap.size + 1 + 1 + 1, n, (pre Z n).toArray, by rw [pre_length], Nat.le_refl _, ?_, by rw [pre_length]; exact Nat.le_refl _, by unfold maxLen; omega, by simp [pre_length], by simp⟩⟩
    rw [Below.heap_alloc _ _ _ (by simp; omega), Below.heap_alloc _ _ _ hs3]
    exact Y.out.2.2.2.1
  rintro e w6 ⟨rfl, k6, v6, g6, o6, _⟩
  have hl6 : (pre Z n ++ M.toList).length = n + 64 := by rw [List.length_append, pre_length]; simp [hMs]
  rw [hl6] at o6
  obtain ⟨og, oc, ocur, rfl, ob, on1, on4⟩ : ∃ g c cur, v6 = .slice (some ⟨g, 0, none⟩) (n + 64) c ∧ w6.heap[g]? = some (.cells cur 5 (0, 0)) ∧ n + 64 ≤ c ∧ cur.toList.take (n + 64) = pre Z n ++ M.toList := by
    obtain ⟨_, ⟨_, h0⟩ | ⟨g, c, cur, h1, h2, h3, h4, h5, h6, h7⟩⟩ := o6
    · omega
    · exact ⟨g, c, cur, h1, h3, h4, by simpa using h7⟩
  have hout : ∀ j, j < n + 64 → w6.cell? ⟨og, j, none⟩ = (pre Z n ++ M.toList)[j]? := fun j hj => by
    have hx : (ocur.toList.take (n + 64))[j]? = (pre Z n ++ M.toList)[j]? := by rw [on4]
    rw [List.getElem?_take, if_pos hj] at hx
    simp [World.cell?, ob]
    simpa using hx
  have hlow : ∀ j, j < n → w6.cell? ⟨og, 0 + j, none⟩ = some (.int .u8 (Z j)) := fun j hj => by
    rw [Nat.zero_add, hout j (by omega), List.getElem?_append, if_pos (by rw [pre_length]; exact hj)]
    exact pre_at Z hj
  have hhi : ∀ j, j < 64 → w6.cell? ⟨og, n + j, none⟩ = M[j]? := fun j hj => by
    rw [hout (n + j) (by omega), List.getElem?_append, if_neg (by rw [pre_length]; omega), pre_length, show n + j - n = j from by omega]
    simp
  have kblk : ∀ k, k < w3.heap.size → k ≠ w.heap.size + 1 + 1 + 1 → w6.heap[k]? = w3.heap[k]? := fun k hk hne => by
    rw [k6.block k (by simp; omega) (by omega) (by simp [Value.ownBlock]; omega), Below.heap_alloc _ _ _ (by simp; omega), Below.heap_alloc _ _ _ hk]
  have z1 := (kblk w.heap.size (by omega) (by omega)).trans Y.out.1
  have z2 := (kblk (w.heap.size + 1) (by omega) (by omega)).trans Y.out.2.1
  have z3 := (kblk (w.heap.size + 1 + 1) (by omega) (by omega)).trans Y.out.2.2.1
  have zm : w6.heap[w3.heap.size]? = some (.cells M 61 (0, 0)) := by
    rw [k6.block w3.heap.size (by simp; omega) (by omega) (by simp [Value.ownBlock]; omega), Below.heap_alloc _ _ _ (by simp)]
    exact heap_alloc_new _ _
  have HB6 : Hid (Below w.heap.size w w6) := Y.out.2.2.2.2.trans ⟨k6.os, k6.tape, k6.output, by have := k6.size; simp at this; omega, fun k hk => kblk k (by omega) (by omega)⟩
  have Hpre : Hid (∀ j, j < n → ∃ b1 o1 b2 o2, (some ⟨og, 0, none⟩ : Option Addr) = some ⟨b1, o1, none⟩ ∧ pa = some ⟨b2, o2, none⟩ ∧ w6.cell? ⟨b1, o1 + j, none⟩ = some (.int .u8 (Z j)) ∧ w6.cell? ⟨b2, o2 + j, none⟩ = some (.int .u8 (Z j))) := fun j hj => by
    obtain ⟨b, off, e1, e2, e3⟩ := Hp.out j hj
    exact ⟨og, 0, b, off, rfl, e1, hlow j hj, (HB6.out.cell (by exact e2)).trans e3⟩
  have c0 := (k6.cells 0 (by omega)).trans (show _ = some (Value.bool false) by simp)
  have c1 := (k6.cells 1 (by omega)).trans (show _ = some (Value.slice none 0 0) by simp)
  have c3 := (k6.cells 3 (by omega)).trans (show _ = some Value.nilIface by simp)
  have HH : Hid ((∀ j, j < 64 → w6.cell? ⟨og, n + j, none⟩ = M[j]?) ∧ w6.heap[w.heap.size]? = some (.cells K 44 (0, 0)) ∧ w6.heap[w.heap.size + 1]? = some (.cells C 57 (0, 0)) ∧ w6.heap[w.heap.size + 1 + 1]? = some (.cells P 57 (0, 0)) ∧ w6.heap[w3.heap.size]? = some (.cells M 61 (0, 0))) := ⟨hhi, z1, z2, z3, zm⟩
  have qn := fun (w : World) (a : Option Addr) (n c : Nat) => run_neq_slice_nil_any (P := Yba.prog) w 56 5 a n c 0 0 Yba.underlying56
  clear k6 o6 hl6 ob on4 hout hlow hhi kblk z1 z2 z3 zm Y Hp
  go_wp2_with fail
  refine (ceq_eq w6 n oc cap _ _ Z (by omega) Hpre.out).mono ?_
  rintro e w7 ⟨rfl, k7, rfl⟩
  clear Hpre c0 c1 c3
  go_wp2_with fail
  have a1 : ¬ oc = n := by omega
  have a2 : ¬ oc = n + 32 := by omega
  have a3 : ¬ oc = n + 48 := by omega
  have b1 : (n : Int) + 32 ≤ (oc : Int) := by omega
  have b2 : (n : Int) + 48 ≤ (oc : Int) := by omega
  have b3 : (n : Int) + 64 ≤ (oc : Int) := by omega
  have t1 : ((n : Int) + 32).toNat = n + 32 := by omega
  have t2 : ((n : Int) + 48).toNat = n + 48 := by omega
  have t3 : ((n : Int) + 64).toNat = n + 64 := by omega
  have r1 : IntKind.i64.wrap ((n : Int) + 32) = (n : Int) + 32 := by rw [IntKind.wrap_i64]; omega
  have r2 : IntKind.i64.wrap ((n : Int) + 48) = (n : Int) + 48 := by rw [IntKind.wrap_i64]; omega
  have r3 : IntKind.i64.wrap ((n : Int) + 64) = (n : Int) + 64 := by rw [IntKind.wrap_i64]; omega
  have e1 : (n : Int) ≤ (n : Int) + 32 := by omega
  have e2 : (n : Int) + 32 ≤ (n : Int) + 48 := by omega
  have e3 : (n : Int) + 48 ≤ (n : Int) + 64 := by omega
  have e4 : (0 : Int) ≤ (n : Int) + 32 := by omega
  have e5 : (0 : Int) ≤ (n : Int) + 48 := by omega
  have HC1 : Hid (∀ x, Calls Yba.prog 13 #[.slice (some ⟨og, n, none⟩) 32 (oc - n), .slice (some ⟨w.heap.size, 0, none⟩) 32 32] (w6.drewN (k7 + x)) fun e w'' => e = .returned (.bool true) ∧ ∃ m, w'' = w6.drewN (k7 + m)) := fun x => by
    refine (ceq_eq (w6.drewN (k7 + x)) 32 _ _ _ _ (byteAt K) (by omega) fun j hj => ⟨og, n, w.heap.size, 0, rfl, rfl, ?_, ?_⟩).mono ?_
    · show w6.cell? _ = _
      rw [HH.out.1 j (by omega), HM.out, Array.getElem?_append, if_pos (by simp; omega), Array.getElem?_append, if_pos (by omega)]
      exact byteAt_eq bK (by omega)
    · show w6.cell? _ = _
      rw [Nat.zero_add]
      simp [World.cell?, HH.out.2.1]
      have := byteAt_eq bK (j := j) (by omega)
      simpa using this
    · rintro e w' ⟨rfl, k, rfl⟩
      exact ⟨rfl, x + k, by rw [World.drewN_drewN, Nat.add_assoc]⟩
  have HC2 : Hid (∀ x, Calls Yba.prog 13 #[.slice (some ⟨og, n + 32, none⟩) 16 (oc - (n + 32)), .slice (some ⟨w.heap.size + 1, 0, none⟩) 16 16] (w6.drewN (k7 + x)) fun e w'' => e = .returned (.bool true) ∧ ∃ m, w'' = w6.drewN (k7 + m)) := fun x => by
    refine (ceq_eq (w6.drewN (k7 + x)) 16 _ _ _ _ (byteAt C) (by omega) fun j hj => ⟨og, n + 32, w.heap.size + 1, 0, rfl, rfl, ?_, ?_⟩).mono ?_
    · show w6.cell? _ = _
      rw [Nat.add_assoc, HH.out.1 (32 + j) (by omega), HM.out, Array.getElem?_append, if_pos (by simp; omega), Array.getElem?_append, if_neg (by omega), hK, show 32 + j - 32 = j from by omega]
      exact byteAt_eq bC (by omega)
    · show w6.cell? _ = _
      rw [Nat.zero_add]
      simp [World.cell?, HH.out.2.2.1]
      have := byteAt_eq bC (j := j) (by omega)
      simpa using this
    · rintro e w' ⟨rfl, k, rfl⟩
      exact ⟨rfl, x + k, by rw [World.drewN_drewN, Nat.add_assoc]⟩
  have HC3 : Hid (∀ x, Calls Yba.prog 13 #[.slice (some ⟨og, n + 48, none⟩) 16 (oc - (n + 48)), .slice (some ⟨w.heap.size + 1 + 1, 0, none⟩) 16 16] (w6.drewN (k7 + x)) fun e w'' => e = .returned (.bool true) ∧ ∃ m, w'' = w6.drewN (k7 + m)) := fun x => by
    refine (ceq_eq (w6.drewN (k7 + x)) 16 _ _ _ _ (byteAt P) (by omega) fun j hj => ⟨og, n + 48, w.heap.size + 1 + 1, 0, rfl, rfl, ?_, ?_⟩).mono ?_
    · show w6.cell? _ = _
      rw [Nat.add_assoc, HH.out.1 (48 + j) (by omega), HM.out, Array.getElem?_append, if_neg (by simp; omega)]
      simp only [Array.size_append, hK, hC]
      rw [show 48 + j - (32 + 16) = j from by omega]
      exact byteAt_eq bP (by omega)
    · show w6.cell? _ = _
      rw [Nat.zero_add]
      simp [World.cell?, HH.out.2.2.2.1]
      have := byteAt_eq bP (j := j) (by omega)
      simpa using this
    · rintro e w' ⟨rfl, k, rfl⟩
      exact ⟨rfl, x + k, by rw [World.drewN_drewN, Nat.add_assoc]⟩
  go_quiet (first | (go_at_call 13; with_reducible exact HC1.out _) | (go_at_call 13; with_reducible exact HC2.out _) | (go_at_call 13; with_reducible exact HC3.out _))
  clear HC1 HC2 HC3
  have F1 : Hid (∀ m, (Instr.loadAt 45 (.pointer (some ⟨w3.heap.size, 0, none⟩))).run Yba.prog (w6.drewN m) = .ok (.agg K) (w6.drewN m)) := fun m => load_part HH.out.2.2.2.2 Yba.underlying45 csize45 hK (fun j hj => by rw [HM.out, Nat.zero_add, Array.getElem?_append, if_pos (by simp; omega), Array.getElem?_append, if_pos (by omega)])
  have F2 : Hid (∀ m, (Instr.loadAt 44 (.pointer (some ⟨w.heap.size, 0, none⟩))).run Yba.prog (w6.drewN m) = .ok (.agg K) (w6.drewN m)) := fun m => load_row HH.out.2.1 Yba.underlying44 rfl (by rw [csize44, hK])
  have F3 : Hid (∀ m, (Instr.loadAt 58 (.pointer (some ⟨w3.heap.size, 32, none⟩))).run Yba.prog (w6.drewN m) = .ok (.agg C) (w6.drewN m)) := fun m => load_part HH.out.2.2.2.2 Yba.underlying58 csize58 hC (fun j hj => by rw [HM.out, Array.getElem?_append, if_pos (by simp; omega), Array.getElem?_append, if_neg (by omega), hK, show 32 + j - 32 = j from by omega])
  have F4 : Hid (∀ m, (Instr.loadAt 57 (.pointer (some ⟨w.heap.size + 1, 0, none⟩))).run Yba.prog (w6.drewN m) = .ok (.agg C) (w6.drewN m)) := fun m => load_row HH.out.2.2.1 Yba.underlying57 rfl (by rw [csize57, hC])
  have F5 : Hid (∀ m, (Instr.loadAt 59 (.pointer (some ⟨w3.heap.size, 48, none⟩))).run Yba.prog (w6.drewN m) = .ok (.agg P) (w6.drewN m)) := fun m => load_part HH.out.2.2.2.2 Yba.underlying59 csize59 hP (fun j hj => by
    rw [HM.out, Array.getElem?_append, if_neg (by simp; omega)]
    simp only [Array.size_append, hK, hC]
    rw [show 48 + j - (32 + 16) = j from by omega])
  have F6 : Hid (∀ m, (Instr.loadAt 57 (.pointer (some ⟨w.heap.size + 1 + 1, 0, none⟩))).run Yba.prog (w6.drewN m) = .ok (.agg P) (w6.drewN m)) := fun m => load_row HH.out.2.2.2.1 Yba.underlying57 rfl (by rw [csize57, hP])
  have F7 : Hid (∀ w, (binOp .eql 45 (.agg K) (.agg K)).run Yba.prog w = .ok (.bool true) w) := fun w => eql_bytes w 32 45 Yba.underlying45 K hK bK
  have F8 : Hid (∀ w, (binOp .eql 58 (.agg C) (.agg C)).run Yba.prog w = .ok (.bool true) w) := fun w => eql_bytes w 16 58 Yba.underlying58 C hC bC
  have F9 : Hid (∀ w, (binOp .eql 59 (.agg P) (.agg P)).run Yba.prog w = .ok (.bool true) w) := fun w => eql_bytes w 16 59 Yba.underlying59 P hP bP
  clear a1 a2 a3 b1 b2 b3 t1 t2 t3 r1 r2 r3 e1 e2 e3 e4 e5
  go_wp2_with (first | (refine wpList_load_any (ty := 45) (x := .tmp 89) (p := .pointer (some ⟨w3.heap.size, 0, none⟩)) (v := .agg K) ?_ rfl rfl rfl ?_; exact F1.out _; simp only [Act.put, List.setIfInBounds_toArray, List.set_cons_succ, List.set_cons_zero]) | (refine wpList_load_any (ty := 44) (x := .tmp 5) (p := .pointer (some ⟨w.heap.size, 0, none⟩)) (v := .agg K) ?_ rfl rfl rfl ?_; exact F2.out _; simp only [Act.put, List.setIfInBounds_toArray, List.set_cons_succ, List.set_cons_zero]) | (refine wpList_load_any (ty := 58) (x := .tmp 94) (p := .pointer (some ⟨w3.heap.size, 32, none⟩)) (v := .agg C) ?_ rfl rfl rfl ?_; exact F3.out _; simp only [Act.put, List.setIfInBounds_toArray, List.set_cons_succ, List.set_cons_zero]) | (refine wpList_load_any (ty := 57) (x := .tmp 6) (p := .pointer (some ⟨w.heap.size + 1, 0, none⟩)) (v := .agg C) ?_ rfl rfl rfl ?_; exact F4.out _; simp only [Act.put, List.setIfInBounds_toArray, List.set_cons_succ, List.set_cons_zero]) | (refine wpList_load_any (ty := 59) (x := .tmp 100) (p := .pointer (some ⟨w3.heap.size, 48, none⟩)) (v := .agg P) ?_ rfl rfl rfl ?_; exact F5.out _; simp only [Act.put, List.setIfInBounds_toArray, List.set_cons_succ, List.set_cons_zero]) | (refine wpList_load_any (ty := 57) (x := .tmp 7) (p := .pointer (some ⟨w.heap.size + 1 + 1, 0, none⟩)) (v := .agg P) ?_ rfl rfl rfl ?_; exact F6.out _; simp only [Act.put, List.setIfInBounds_toArray, List.set_cons_succ, List.set_cons_zero]) | (refine wpList_agg_any (op := .eql) (t := 45) (x := .tmp 90) (y := .tmp 91) (A := K) (B := K) (v := .bool true) ?_ Yba.eqGuardType45 rfl rfl rfl rfl ?_; exact F7.out _; simp only [Act.put, List.setIfInBounds_toArray, List.set_cons_succ, List.set_cons_zero]) | (refine wpList_agg_any (op := .eql) (t := 58) (x := .tmp 95) (y := .tmp 96) (A := C) (B := C) (v := .bool true) ?_ Yba.eqGuardType58 rfl rfl rfl rfl ?_; exact F8.out _; simp only [Act.put, List.setIfInBounds_toArray, List.set_cons_succ, List.set_cons_zero]) | (refine wpList_agg_any (op := .eql) (t := 59) (x := .tmp 101) (y := .tmp 102) (A := P) (B := P) (v := .bool true) ?_ Yba.eqGuardType59 rfl rfl rfl rfl ?_; exact F9.out _; simp only [Act.put, List.setIfInBounds_toArray, List.set_cons_succ, List.set_cons_zero]))
  go_ret
  exact ⟨rfl, below_drewN HB6.out _⟩
end Go.Proofs.Ybulkaigo
