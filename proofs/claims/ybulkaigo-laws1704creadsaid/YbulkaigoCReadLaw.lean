/-
  LawS1704CRead: her walk.
-/
import Derived.Test.YbulkaigoCWrite
namespace Go.Proofs.Ybulkaigo
open Go.RowKit
set_option linter.unusedSimpArgs false

set_option maxHeartbeats 1000000 in
set_option maxRecDepth 100000 in
theorem law_read (w : World) (pa : Option Addr) (n cap : Nat) (Z : Nat → Int) (b off : Nat) (hn : n ≤ 1024) (hcap : n ≤ cap) (K C P : Array Value) (hK : K.size = 32) (hC : C.size = 16) (hP : P.size = 16) (bK : BL K.toList) (bC : BL C.toList) (bP : BL P.toList)
    (hp : 0 < n → pa = some ⟨b, off, none⟩ ∧ b < w.heap.size) (hc : ∀ i, i < n → w.cell? ⟨b, off + i, none⟩ = some (.int .u8 (Z i))) :
    Calls Yba.prog 6 #[.slice pa n cap, .agg K, .agg C, .agg P, .bool false] w fun e w' => e = .returned (.bool true) ∧ Below w.heap.size w w' := by
  obtain ⟨z, hz, hzs⟩ := zero61
  obtain ⟨M, hM⟩ : ∃ M, M = K ++ C ++ P := ⟨_, rfl⟩
  have hMs : M.size = 64 := by rw [hM]; simp; omega
  have bM : BL M.toList := by
    rw [hM]; intro v hv
    simp only [Array.toList_append, List.mem_append] at hv
    rcases hv with (hv | hv) | hv
    · exact bK v hv
    · exact bC v hv
    · exact bP v hv
  obtain ⟨x1, x2, x3⟩ := boxes3 w (.cells K 44) (.cells C 57) (.cells P 57)
  have E1 : Hid ((Instr.loadAt 44 (.pointer (some ⟨w.heap.size, 0, none⟩))).run Yba.prog (((w.alloc (.cells K 44)).alloc (.cells C 57)).alloc (.cells P 57)) = .ok (.agg K) (((w.alloc (.cells K 44)).alloc (.cells C 57)).alloc (.cells P 57))) := load_row x1 Yba.underlying44 rfl (by rw [csize44, hK])
  have E2 : Hid ((Instr.loadAt 57 (.pointer (some ⟨w.heap.size + 1, 0, none⟩))).run Yba.prog (((w.alloc (.cells K 44)).alloc (.cells C 57)).alloc (.cells P 57)) = .ok (.agg C) (((w.alloc (.cells K 44)).alloc (.cells C 57)).alloc (.cells P 57))) := load_row x2 Yba.underlying57 rfl (by rw [csize57, hC])
  have E3 : Hid ((Instr.loadAt 57 (.pointer (some ⟨w.heap.size + 1 + 1, 0, none⟩))).run Yba.prog (((w.alloc (.cells K 44)).alloc (.cells C 57)).alloc (.cells P 57)) = .ok (.agg P) (((w.alloc (.cells K 44)).alloc (.cells C 57)).alloc (.cells P 57))) := load_row x3 Yba.underlying57 rfl (by rw [csize57, hP])
  have EB : Hid ((Instr.build 61 #[(0, .agg K), (1, .agg C), (2, .agg P)]).run Yba.prog (((w.alloc (.cells K 44)).alloc (.cells C 57)).alloc (.cells P 57)) = .ok (.agg M) (((w.alloc (.cells K 44)).alloc (.cells C 57)).alloc (.cells P 57))) := by
    show _ = _
    rw [hM]; exact build61 _ K C P hK hC hP
  have ES : Hid ((Instr.storeAt 61 (.pointer (some ⟨w.heap.size + 1 + 1 + 1, 0, none⟩)) (.agg M)).run Yba.prog ((((w.alloc (.cells K 44)).alloc (.cells C 57)).alloc (.cells P 57)).alloc (.cells z 61)) = .ok () ((((w.alloc (.cells K 44)).alloc (.cells C 57)).alloc (.cells P 57)).alloc (.cells M 61))) := by
    have := crun_storeAt_row (P := Yba.prog) (w := (((w.alloc (.cells K 44)).alloc (.cells C 57)).alloc (.cells P 57)).alloc (.cells z 61)) (((w.alloc (.cells K 44)).alloc (.cells C 57)).alloc (.cells P 57)).heap.size 61 61 z M (heap_alloc_new _ _) (by rw [csize61, hMs]) (by rw [hzs, hMs]) bM.one
    rw [World.setRow_alloc_new] at this
    show _ = _
    simpa using this
  have HX : Hid ((((w.alloc (.cells K 44)).alloc (.cells C 57)).alloc (.cells P 57)).heap[w.heap.size]? = some (.cells K 44) ∧ (((w.alloc (.cells K 44)).alloc (.cells C 57)).alloc (.cells P 57)).heap[w.heap.size + 1]? = some (.cells C 57) ∧ (((w.alloc (.cells K 44)).alloc (.cells C 57)).alloc (.cells P 57)).heap[w.heap.size + 1 + 1]? = some (.cells P 57)) := ⟨x1, x2, x3⟩
  have HM : Hid (M = K ++ C ++ P) := hM
  clear x1 x2 x3 hM
  have Hz : Hid (∀ w : World, Sem.run Yba.prog (zeroValue 61) w = .ok (.agg z) w) := hz
  clear hz
  have Hp : Hid (0 < n → pa = some ⟨b, off, none⟩ ∧ b < w.heap.size) := hp
  have Hc : Hid (∀ i, i < n → w.cell? ⟨b, off + i, none⟩ = some (.int .u8 (Z i))) := hc
  clear hp hc
  have hn' : (n : Int) ≤ 1024 := by omega
  go_enter Yba.func6, Yba.ntmps6
  go_upto_region 4 with (first | (refine wpList_load_any (ty := 44) (x := .tmp 6) (p := .pointer (some ⟨w.heap.size, 0, none⟩)) (v := .agg K) ?_ rfl rfl rfl ?_; exact E1.out; simp only [Act.put, List.setIfInBounds_toArray, List.set_cons_succ, List.set_cons_zero, World.size_alloc]) | (refine wpList_load_any (ty := 57) (x := .tmp 7) (p := .pointer (some ⟨w.heap.size + 1, 0, none⟩)) (v := .agg C) ?_ rfl rfl rfl ?_; exact E2.out; simp only [Act.put, List.setIfInBounds_toArray, List.set_cons_succ, List.set_cons_zero, World.size_alloc]) | (refine wpList_load_any (ty := 57) (x := .tmp 8) (p := .pointer (some ⟨w.heap.size + 1 + 1, 0, none⟩)) (v := .agg P) ?_ rfl rfl rfl ?_; exact E3.out; simp only [Act.put, List.setIfInBounds_toArray, List.set_cons_succ, List.set_cons_zero, World.size_alloc]) | (refine wpList_build3 (t := 61) (x0 := .tmp 19) (x1 := .tmp 20) (x2 := .tmp 21) (v0 := .agg K) (v1 := .agg C) (v2 := .agg P) (v := .agg M) ?_ rfl rfl rfl rfl rfl ?_; exact EB.out; simp only [Act.put, List.setIfInBounds_toArray, List.set_cons_succ, List.set_cons_zero, World.size_alloc]) | (refine wpList_alloc_any (t := 61) (z := z) ?_ rfl rfl ?_; exact Hz.out _; simp only [Act.put, List.setIfInBounds_toArray, List.set_cons_succ, List.set_cons_zero, World.size_alloc]) | (refine wpList_store_any (ty := 61) (x := .tmp 11) (y := .tmp 22) (p := .pointer (some ⟨w.heap.size + 1 + 1 + 1, 0, none⟩)) (v := .agg M) (w' := (((w.alloc (.cells K 44)).alloc (.cells C 57)).alloc (.cells P 57)).alloc (.cells M 61)) ?_ rfl rfl rfl rfl ?_; exact ES.out; simp only [Act.put, List.setIfInBounds_toArray, List.set_cons_succ, List.set_cons_zero, World.size_alloc]))
  clear E1 E2 E3 EB ES
  have m1 : ((((w.alloc (.cells K 44)).alloc (.cells C 57)).alloc (.cells P 57)).alloc (.cells M 61)).heap[w.heap.size + 1 + 1 + 1]? = some (.cells M 61 (0, 0)) := by
    have := heap_alloc_new (((w.alloc (.cells K 44)).alloc (.cells C 57)).alloc (.cells P 57)) (.cells M 61)
    simpa using this
  have m2 : ((((w.alloc (.cells K 44)).alloc (.cells C 57)).alloc (.cells P 57)).alloc (.cells M 61)).heap.size = w.heap.size + 1 + 1 + 1 + 1 := by simp
  have m3 : Below w.heap.size w ((((w.alloc (.cells K 44)).alloc (.cells C 57)).alloc (.cells P 57)).alloc (.cells M 61)) := ((((Below.refl _ w).alloc (Nat.le_refl _) _).alloc (by simp) _).alloc (by simp; omega) _).alloc (by simp; omega) _
  have m4 : ∀ k, k < w.heap.size + 1 + 1 + 1 → ((((w.alloc (.cells K 44)).alloc (.cells C 57)).alloc (.cells P 57)).alloc (.cells M 61)).heap[k]? = (((w.alloc (.cells K 44)).alloc (.cells C 57)).alloc (.cells P 57)).heap[k]? := fun k hk => Below.heap_alloc _ _ _ (by simp; omega)
  have M1 : Hid (((((w.alloc (.cells K 44)).alloc (.cells C 57)).alloc (.cells P 57)).alloc (.cells M 61)).heap[w.heap.size + 1 + 1 + 1]? = some (.cells M 61 (0, 0)) ∧ Below w.heap.size w ((((w.alloc (.cells K 44)).alloc (.cells C 57)).alloc (.cells P 57)).alloc (.cells M 61)) ∧ ((((w.alloc (.cells K 44)).alloc (.cells C 57)).alloc (.cells P 57)).alloc (.cells M 61)).heap[w.heap.size]? = some (.cells K 44) ∧ ((((w.alloc (.cells K 44)).alloc (.cells C 57)).alloc (.cells P 57)).alloc (.cells M 61)).heap[w.heap.size + 1]? = some (.cells C 57) ∧ ((((w.alloc (.cells K 44)).alloc (.cells C 57)).alloc (.cells P 57)).alloc (.cells M 61)).heap[w.heap.size + 1 + 1]? = some (.cells P 57)) := ⟨m1, m3, (m4 _ (by omega)).trans HX.out.1, (m4 _ (by omega)).trans HX.out.2.1, (m4 _ (by omega)).trans HX.out.2.2⟩
  clear m1 m3 m4 HX
  generalize (((w.alloc (.cells K 44)).alloc (.cells C 57)).alloc (.cells P 57)).alloc (.cells M 61) = W2 at M1 m2 ⊢
  go_upto_region 9 with fail
  have hbw : 0 < n → b < w.heap.size := fun h => (Hp.out h).2
  have hR : Rd (W2.alloc (.cells #[.bool true, .slice pa n cap, .slice none 0 0, .nilIface] 65)) (w.heap.size + 1 + 1 + 1 + 1) (w.heap.size + 1 + 1 + 1) b off n cap 0 (fun j => .int .u8 (Z j)) (fun j => M.getD j undef) .nilIface := by
    rw [← m2]
    refine ⟨by simp, ⟨pa, by simp, fun h => (Hp.out (by omega)).1⟩, by simp, by simp, by simp, ?_, fun j hj => ?_, fun j hj => rfl, ?_, by omega, by simp, hcap⟩
    · refine ⟨M, ?_, hMs, fun i hi => ?_⟩
      · rw [Below.heap_alloc _ _ _ (by omega)]; exact M1.out.1
      · simp [Array.getElem?_eq_getElem (show i < M.size by omega)]
    · have hb := hbw (by omega)
      rw [World.cell?_alloc_lt _ _ _ (by simp; omega), M1.out.2.1.cell (by exact hb)]
      exact Hc.out j hj
    · by_cases h : n = 0
      · exact .inl h
      · have := hbw (by omega)
        exact .inr (by omega)
  have bundle : ∀ (w6 : World) (u : Nat) (ev : Value), Below (w.heap.size + 1 + 1 + 1) (W2.alloc (.cells #[.bool true, .slice pa n cap, .slice none 0 0, .nilIface] 65)) w6 → Rd w6 (w.heap.size + 1 + 1 + 1 + 1) (w.heap.size + 1 + 1 + 1) b off n cap u (fun j => .int .u8 (Z j)) (fun j => if j < u then .int .u8 (Z j) else M.getD j undef) ev →
      ∃ A6 cur, w6.cell? ⟨w.heap.size + 1 + 1 + 1 + 1, 1, none⟩ = some (.slice A6 (n - u) (cap - u)) ∧ w6.cell? ⟨w.heap.size + 1 + 1 + 1 + 1, 3, none⟩ = some ev ∧
      Hid ((0 < n - u → A6 = some ⟨b, off + u, none⟩) ∧ w6.heap[w.heap.size]? = some (.cells K 44 (0, 0)) ∧ w6.heap[w.heap.size + 1]? = some (.cells C 57 (0, 0)) ∧ w6.heap[w.heap.size + 1 + 1]? = some (.cells P 57 (0, 0)) ∧ w6.heap[w.heap.size + 1 + 1 + 1]? = some (.cells cur 61 (0, 0)) ∧ cur.size = 64 ∧ (∀ j, j < 64 → cur[j]? = if j < u then some (.int .u8 (Z j)) else M[j]?) ∧ (∀ j, j < n → w6.cell? ⟨b, off + j, none⟩ = some (.int .u8 (Z j))) ∧ Below w.heap.size w w6) := by
    intro w6 u ev b6 r6
    obtain ⟨A6, q1, q2⟩ := r6.c1
    obtain ⟨cur, p1, p2, p3⟩ := r6.row
    have blk : ∀ k, k < w.heap.size + 1 + 1 + 1 → w6.heap[k]? = W2.heap[k]? := fun k hk => by
      rw [b6.block k hk, Below.heap_alloc _ _ _ (by omega)]
    refine ⟨A6, cur, q1, r6.c3, q2, (blk _ (by omega)).trans M1.out.2.2.1, (blk _ (by omega)).trans M1.out.2.2.2.1, (blk _ (by omega)).trans M1.out.2.2.2.2, p1, p2, fun j hj => ?_, r6.src, ?_⟩
    · rw [p3 j hj]
      by_cases h : j < u
      · simp [h]
      · simp [h, Array.getElem?_eq_getElem (show j < M.size by omega)]
    · exact (M1.out.2.1.alloc (by omega) _).trans (b6.mono (by omega))
  have HR := (show Hid _ from hR)
  have HU := (show Hid _ from bundle)
  clear hR bundle M1 hbw
  by_cases c64 : 64 ≤ n
  · skip
    have i64 : (64 : Int) ≤ (n : Int) := by omega
    have i48 : (48 : Int) ≤ (n : Int) := by omega
    have i32 : (32 : Int) ≤ (n : Int) := by omega
    go_wp2_with fail
    refine (layout_r64 HR.out c64).mono ?_
    rintro e w6 ⟨rfl, b6, r6⟩
    obtain ⟨A6, cur, q1, q3, HH⟩ := HU.out w6 64 _ b6 r6
    clear b6 r6
    obtain ⟨rfl, hb⟩ := Hp.out (by omega)
    go_wp2_with fail
    obtain ⟨QA, hQA⟩ : ∃ QA : Option Addr, (if cap = 64 then some (⟨b, off, none⟩ : Addr) else some ⟨b, off + 64, none⟩) = QA := ⟨_, rfl⟩
    have hQ : 0 < n - 64 → QA = some ⟨b, off + 64, none⟩ := fun h => by rw [← hQA, if_neg (by omega)]
    have HQ := (show Hid _ from hQ)
    clear hQ
    have HC0 : Hid (∀ x, Calls Yba.prog 13 #[.slice A6 (n - 64) (cap - 64), .slice QA (n - 64) (cap - 64)] (w6.drewN (x)) fun e w'' => e = .returned (.bool true) ∧ ∃ m, w'' = w6.drewN (m)) := fun x => by
      refine (ceq_eq (w6.drewN (x)) _ _ _ _ _ (fun j => Z (64 + j)) (by omega) fun j hj => ⟨b, off + 64, b, off + 64, HH.out.1 (by omega), HQ.out (by omega), ?_, ?_⟩).mono ?_
      · show w6.cell? _ = _
        rw [Nat.add_assoc]; exact HH.out.2.2.2.2.2.2.2.1 _ (by omega)
      · show w6.cell? _ = _
        rw [Nat.add_assoc]; exact HH.out.2.2.2.2.2.2.2.1 _ (by omega)
      · rintro e w' ⟨rfl, k, rfl⟩
        exact ⟨rfl, x + k, by rw [World.drewN_drewN]⟩
    have cc32 : 32 ≤ (cap : Int) := by omega
    have cc48 : 48 ≤ (cap : Int) := by omega
    have cc64 : 64 ≤ (cap : Int) := by omega
    have cn32 : ¬ cap = 32 := by omega
    have cn48 : ¬ cap = 48 := by omega
    go_quiet ((go_at_call 13; with_reducible exact HC0.out _))
    clear HC0 hQA
    revert nq; intro k0
    go_wp2_with fail
    have HC1 : Hid (∀ x, Calls Yba.prog 13 #[.slice (some ⟨w.heap.size + 1 + 1 + 1, 0, none⟩) 32 32, .slice (some ⟨b, off, none⟩) 32 cap] (w6.drewN (k0 + x)) fun e w'' => e = .returned (.bool true) ∧ ∃ m, w'' = w6.drewN (k0 + m)) := fun x => by
      refine (ceq_eq (w6.drewN (k0 + x)) _ _ _ _ _ (Z) (by omega) fun j hj => ⟨w.heap.size + 1 + 1 + 1, 0, b, off, rfl, rfl, ?_, ?_⟩).mono ?_
      · show w6.cell? _ = _
        simp [World.cell?, HH.out.2.2.2.2.1]
        have := HH.out.2.2.2.2.2.2.1 (0 + j) (by omega)
        rw [if_pos (by omega)] at this
        simpa using this
      · show w6.cell? _ = _
        exact HH.out.2.2.2.2.2.2.2.1 _ (by omega)
      · rintro e w' ⟨rfl, k, rfl⟩
        exact ⟨rfl, x + k, by rw [World.drewN_drewN, Nat.add_assoc]⟩
    go_quiet ((go_at_call 13; with_reducible exact HC1.out _))
    clear HC1
    revert nq; intro k1
    go_wp2_with fail
    have HC2 : Hid (∀ x, Calls Yba.prog 13 #[.slice (some ⟨w.heap.size + 1 + 1 + 1, 32, none⟩) 16 16, .slice (some ⟨b, off + 32, none⟩) 16 (cap - 32)] (w6.drewN (k0 + k1 + x)) fun e w'' => e = .returned (.bool true) ∧ ∃ m, w'' = w6.drewN (k0 + k1 + m)) := fun x => by
      refine (ceq_eq (w6.drewN (k0 + k1 + x)) _ _ _ _ _ (fun j => Z (32 + j)) (by omega) fun j hj => ⟨w.heap.size + 1 + 1 + 1, 32, b, off + 32, rfl, rfl, ?_, ?_⟩).mono ?_
      · show w6.cell? _ = _
        simp [World.cell?, HH.out.2.2.2.2.1]
        have := HH.out.2.2.2.2.2.2.1 (32 + j) (by omega)
        rw [if_pos (by omega)] at this
        simpa using this
      · show w6.cell? _ = _
        rw [Nat.add_assoc]; exact HH.out.2.2.2.2.2.2.2.1 _ (by omega)
      · rintro e w' ⟨rfl, k, rfl⟩
        exact ⟨rfl, x + k, by rw [World.drewN_drewN, Nat.add_assoc]⟩
    go_quiet ((go_at_call 13; with_reducible exact HC2.out _))
    clear HC2
    revert nq; intro k2
    go_wp2_with fail
    have HC3 : Hid (∀ x, Calls Yba.prog 13 #[.slice (some ⟨w.heap.size + 1 + 1 + 1, 48, none⟩) 16 16, .slice (some ⟨b, off + 48, none⟩) 16 (cap - 48)] (w6.drewN (k0 + k1 + k2 + x)) fun e w'' => e = .returned (.bool true) ∧ ∃ m, w'' = w6.drewN (k0 + k1 + k2 + m)) := fun x => by
      refine (ceq_eq (w6.drewN (k0 + k1 + k2 + x)) _ _ _ _ _ (fun j => Z (48 + j)) (by omega) fun j hj => ⟨w.heap.size + 1 + 1 + 1, 48, b, off + 48, rfl, rfl, ?_, ?_⟩).mono ?_
      · show w6.cell? _ = _
        simp [World.cell?, HH.out.2.2.2.2.1]
        have := HH.out.2.2.2.2.2.2.1 (48 + j) (by omega)
        rw [if_pos (by omega)] at this
        simpa using this
      · show w6.cell? _ = _
        rw [Nat.add_assoc]; exact HH.out.2.2.2.2.2.2.2.1 _ (by omega)
      · rintro e w' ⟨rfl, k, rfl⟩
        exact ⟨rfl, x + k, by rw [World.drewN_drewN, Nat.add_assoc]⟩
    go_quiet ((go_at_call 13; with_reducible exact HC3.out _))
    clear HC3
    go_wp2_with fail
    go_ret
    exact ⟨rfl, by first | exact below_drewN (below_drewN HH.out.2.2.2.2.2.2.2.2 _) _ | exact below_drewN HH.out.2.2.2.2.2.2.2.2 _⟩
  by_cases c48 : 48 ≤ n
  · skip
    have i64 : (n : Int) < 64 := by omega
    have i48 : (48 : Int) ≤ (n : Int) := by omega
    have i32 : (32 : Int) ≤ (n : Int) := by omega
    go_wp2_with fail
    refine (layout_r48 HR.out c48 (by omega)).mono ?_
    rintro e w6 ⟨rfl, b6, xe, r6⟩
    obtain ⟨A6, cur, q1, q3, HH⟩ := HU.out w6 48 _ b6 r6
    clear b6 r6
    obtain ⟨rfl, hb⟩ := Hp.out (by omega)
    go_wp2_with fail
    obtain ⟨QA, hQA⟩ : ∃ QA : Option Addr, (if cap = 48 then some (⟨b, off, none⟩ : Addr) else some ⟨b, off + 48, none⟩) = QA := ⟨_, rfl⟩
    have hQ : 0 < n - 48 → QA = some ⟨b, off + 48, none⟩ := fun h => by rw [← hQA, if_neg (by omega)]
    have HQ := (show Hid _ from hQ)
    clear hQ
    have HC0 : Hid (∀ x, Calls Yba.prog 13 #[.slice A6 (n - 48) (cap - 48), .slice QA (n - 48) (cap - 48)] (w6.drewN (x)) fun e w'' => e = .returned (.bool true) ∧ ∃ m, w'' = w6.drewN (m)) := fun x => by
      refine (ceq_eq (w6.drewN (x)) _ _ _ _ _ (fun j => Z (48 + j)) (by omega) fun j hj => ⟨b, off + 48, b, off + 48, HH.out.1 (by omega), HQ.out (by omega), ?_, ?_⟩).mono ?_
      · show w6.cell? _ = _
        rw [Nat.add_assoc]; exact HH.out.2.2.2.2.2.2.2.1 _ (by omega)
      · show w6.cell? _ = _
        rw [Nat.add_assoc]; exact HH.out.2.2.2.2.2.2.2.1 _ (by omega)
      · rintro e w' ⟨rfl, k, rfl⟩
        exact ⟨rfl, x + k, by rw [World.drewN_drewN]⟩
    have cc32 : 32 ≤ (cap : Int) := by omega
    have cc48 : 48 ≤ (cap : Int) := by omega
    have cn32 : ¬ cap = 32 := by omega
    go_quiet ((go_at_call 13; with_reducible exact HC0.out _))
    clear HC0 hQA
    revert nq; intro k0
    go_wp2_with fail
    have HC1 : Hid (∀ x, Calls Yba.prog 13 #[.slice (some ⟨w.heap.size + 1 + 1 + 1, 0, none⟩) 32 32, .slice (some ⟨b, off, none⟩) 32 cap] (w6.drewN (k0 + x)) fun e w'' => e = .returned (.bool true) ∧ ∃ m, w'' = w6.drewN (k0 + m)) := fun x => by
      refine (ceq_eq (w6.drewN (k0 + x)) _ _ _ _ _ (Z) (by omega) fun j hj => ⟨w.heap.size + 1 + 1 + 1, 0, b, off, rfl, rfl, ?_, ?_⟩).mono ?_
      · show w6.cell? _ = _
        simp [World.cell?, HH.out.2.2.2.2.1]
        have := HH.out.2.2.2.2.2.2.1 (0 + j) (by omega)
        rw [if_pos (by omega)] at this
        simpa using this
      · show w6.cell? _ = _
        exact HH.out.2.2.2.2.2.2.2.1 _ (by omega)
      · rintro e w' ⟨rfl, k, rfl⟩
        exact ⟨rfl, x + k, by rw [World.drewN_drewN, Nat.add_assoc]⟩
    go_quiet ((go_at_call 13; with_reducible exact HC1.out _))
    clear HC1
    revert nq; intro k1
    go_wp2_with fail
    have HC2 : Hid (∀ x, Calls Yba.prog 13 #[.slice (some ⟨w.heap.size + 1 + 1 + 1, 32, none⟩) 16 16, .slice (some ⟨b, off + 32, none⟩) 16 (cap - 32)] (w6.drewN (k0 + k1 + x)) fun e w'' => e = .returned (.bool true) ∧ ∃ m, w'' = w6.drewN (k0 + k1 + m)) := fun x => by
      refine (ceq_eq (w6.drewN (k0 + k1 + x)) _ _ _ _ _ (fun j => Z (32 + j)) (by omega) fun j hj => ⟨w.heap.size + 1 + 1 + 1, 32, b, off + 32, rfl, rfl, ?_, ?_⟩).mono ?_
      · show w6.cell? _ = _
        simp [World.cell?, HH.out.2.2.2.2.1]
        have := HH.out.2.2.2.2.2.2.1 (32 + j) (by omega)
        rw [if_pos (by omega)] at this
        simpa using this
      · show w6.cell? _ = _
        rw [Nat.add_assoc]; exact HH.out.2.2.2.2.2.2.2.1 _ (by omega)
      · rintro e w' ⟨rfl, k, rfl⟩
        exact ⟨rfl, x + k, by rw [World.drewN_drewN, Nat.add_assoc]⟩
    go_quiet ((go_at_call 13; with_reducible exact HC2.out _))
    clear HC2
    have FA48 : Hid (∀ m, (Instr.loadAt 59 (.pointer (some ⟨w.heap.size + 1 + 1 + 1, 48, none⟩))).run Yba.prog (w6.drewN m) = .ok (.agg P) (w6.drewN m)) := fun m => load_part (M := cur) (n := 16) (t := 61) HH.out.2.2.2.2.1 Yba.underlying59 csize59 hP (fun j hj => by rw [HH.out.2.2.2.2.2.2.1 _ (by omega)]; rw [HM.out, if_neg (by omega), Array.getElem?_append, if_neg (by simp; omega)]; simp only [Array.size_append, hK, hC]; rw [show 48 + j - (32 + 16) = j from by omega])
    have FB48 : Hid (∀ m, (Instr.loadAt 57 (.pointer (some ⟨w.heap.size + 1 + 1, 0, none⟩))).run Yba.prog (w6.drewN m) = .ok (.agg P) (w6.drewN m)) := fun m => load_row HH.out.2.2.2.1 Yba.underlying57 rfl (by rw [csize57, hP])
    have FC48 : Hid (∀ w, (binOp .neq 59 (.agg P) (.agg P)).run Yba.prog w = .ok (.bool false) w) := fun w => neq_bytes w 16 59 Yba.underlying59 P hP bP
    have dd : ∀ m, (w6.drewN m).drewN nq = w6.drewN (m + nq) := fun m => World.drewN_drewN _ _ _
    try simp only [dd]
    clear dd
    go_wp2_with (first | (refine wpList_load_any (ty := 59) (x := .tmp 113) (p := .pointer (some ⟨w.heap.size + 1 + 1 + 1, 48, none⟩)) (v := .agg P) ?_ rfl rfl rfl ?_; exact FA48.out _; simp only [Act.put, List.setIfInBounds_toArray, List.set_cons_succ, List.set_cons_zero, World.size_alloc]) | (refine wpList_load_any (ty := 57) (x := .tmp 8) (p := .pointer (some ⟨w.heap.size + 1 + 1, 0, none⟩)) (v := .agg P) ?_ rfl rfl rfl ?_; exact FB48.out _; simp only [Act.put, List.setIfInBounds_toArray, List.set_cons_succ, List.set_cons_zero, World.size_alloc]) | (refine wpList_agg_any (op := .neq) (t := 59) (x := .tmp 114) (y := .tmp 115) (A := P) (B := P) (v := .bool false) ?_ Yba.eqGuardType59 rfl rfl rfl rfl ?_; exact FC48.out _; simp only [Act.put, List.setIfInBounds_toArray, List.set_cons_succ, List.set_cons_zero, World.size_alloc]))
    go_ret
    exact ⟨rfl, by first | exact below_drewN (below_drewN HH.out.2.2.2.2.2.2.2.2 _) _ | exact below_drewN HH.out.2.2.2.2.2.2.2.2 _⟩
  by_cases c32 : 32 ≤ n
  · skip
    have i64 : (n : Int) < 64 := by omega
    have i48 : (n : Int) < 48 := by omega
    have i32 : (32 : Int) ≤ (n : Int) := by omega
    go_wp2_with fail
    refine (layout_r32 HR.out c32 (by omega)).mono ?_
    rintro e w6 ⟨rfl, b6, xe, r6⟩
    obtain ⟨A6, cur, q1, q3, HH⟩ := HU.out w6 32 _ b6 r6
    clear b6 r6
    obtain ⟨rfl, hb⟩ := Hp.out (by omega)
    go_wp2_with fail
    obtain ⟨QA, hQA⟩ : ∃ QA : Option Addr, (if cap = 32 then some (⟨b, off, none⟩ : Addr) else some ⟨b, off + 32, none⟩) = QA := ⟨_, rfl⟩
    have hQ : 0 < n - 32 → QA = some ⟨b, off + 32, none⟩ := fun h => by rw [← hQA, if_neg (by omega)]
    have HQ := (show Hid _ from hQ)
    clear hQ
    have HC0 : Hid (∀ x, Calls Yba.prog 13 #[.slice A6 (n - 32) (cap - 32), .slice QA (n - 32) (cap - 32)] (w6.drewN (x)) fun e w'' => e = .returned (.bool true) ∧ ∃ m, w'' = w6.drewN (m)) := fun x => by
      refine (ceq_eq (w6.drewN (x)) _ _ _ _ _ (fun j => Z (32 + j)) (by omega) fun j hj => ⟨b, off + 32, b, off + 32, HH.out.1 (by omega), HQ.out (by omega), ?_, ?_⟩).mono ?_
      · show w6.cell? _ = _
        rw [Nat.add_assoc]; exact HH.out.2.2.2.2.2.2.2.1 _ (by omega)
      · show w6.cell? _ = _
        rw [Nat.add_assoc]; exact HH.out.2.2.2.2.2.2.2.1 _ (by omega)
      · rintro e w' ⟨rfl, k, rfl⟩
        exact ⟨rfl, x + k, by rw [World.drewN_drewN]⟩
    have cc32 : 32 ≤ (cap : Int) := by omega
    go_quiet ((go_at_call 13; with_reducible exact HC0.out _))
    clear HC0 hQA
    revert nq; intro k0
    go_wp2_with fail
    have HC1 : Hid (∀ x, Calls Yba.prog 13 #[.slice (some ⟨w.heap.size + 1 + 1 + 1, 0, none⟩) 32 32, .slice (some ⟨b, off, none⟩) 32 cap] (w6.drewN (k0 + x)) fun e w'' => e = .returned (.bool true) ∧ ∃ m, w'' = w6.drewN (k0 + m)) := fun x => by
      refine (ceq_eq (w6.drewN (k0 + x)) _ _ _ _ _ (Z) (by omega) fun j hj => ⟨w.heap.size + 1 + 1 + 1, 0, b, off, rfl, rfl, ?_, ?_⟩).mono ?_
      · show w6.cell? _ = _
        simp [World.cell?, HH.out.2.2.2.2.1]
        have := HH.out.2.2.2.2.2.2.1 (0 + j) (by omega)
        rw [if_pos (by omega)] at this
        simpa using this
      · show w6.cell? _ = _
        exact HH.out.2.2.2.2.2.2.2.1 _ (by omega)
      · rintro e w' ⟨rfl, k, rfl⟩
        exact ⟨rfl, x + k, by rw [World.drewN_drewN, Nat.add_assoc]⟩
    go_quiet ((go_at_call 13; with_reducible exact HC1.out _))
    clear HC1
    have FA32 : Hid (∀ m, (Instr.loadAt 58 (.pointer (some ⟨w.heap.size + 1 + 1 + 1, 32, none⟩))).run Yba.prog (w6.drewN m) = .ok (.agg C) (w6.drewN m)) := fun m => load_part (M := cur) (n := 16) (t := 61) HH.out.2.2.2.2.1 Yba.underlying58 csize58 hC (fun j hj => by rw [HH.out.2.2.2.2.2.2.1 _ (by omega)]; rw [HM.out, if_neg (by omega), Array.getElem?_append, if_pos (by simp; omega), Array.getElem?_append, if_neg (by omega), hK, show 32 + j - 32 = j from by omega])
    have FB32 : Hid (∀ m, (Instr.loadAt 57 (.pointer (some ⟨w.heap.size + 1, 0, none⟩))).run Yba.prog (w6.drewN m) = .ok (.agg C) (w6.drewN m)) := fun m => load_row HH.out.2.2.1 Yba.underlying57 rfl (by rw [csize57, hC])
    have FC32 : Hid (∀ w, (binOp .neq 58 (.agg C) (.agg C)).run Yba.prog w = .ok (.bool false) w) := fun w => neq_bytes w 16 58 Yba.underlying58 C hC bC
    have FA48 : Hid (∀ m, (Instr.loadAt 59 (.pointer (some ⟨w.heap.size + 1 + 1 + 1, 48, none⟩))).run Yba.prog (w6.drewN m) = .ok (.agg P) (w6.drewN m)) := fun m => load_part (M := cur) (n := 16) (t := 61) HH.out.2.2.2.2.1 Yba.underlying59 csize59 hP (fun j hj => by rw [HH.out.2.2.2.2.2.2.1 _ (by omega)]; rw [HM.out, if_neg (by omega), Array.getElem?_append, if_neg (by simp; omega)]; simp only [Array.size_append, hK, hC]; rw [show 48 + j - (32 + 16) = j from by omega])
    have FB48 : Hid (∀ m, (Instr.loadAt 57 (.pointer (some ⟨w.heap.size + 1 + 1, 0, none⟩))).run Yba.prog (w6.drewN m) = .ok (.agg P) (w6.drewN m)) := fun m => load_row HH.out.2.2.2.1 Yba.underlying57 rfl (by rw [csize57, hP])
    have FC48 : Hid (∀ w, (binOp .neq 59 (.agg P) (.agg P)).run Yba.prog w = .ok (.bool false) w) := fun w => neq_bytes w 16 59 Yba.underlying59 P hP bP
    have dd : ∀ m, (w6.drewN m).drewN nq = w6.drewN (m + nq) := fun m => World.drewN_drewN _ _ _
    try simp only [dd]
    clear dd
    go_wp2_with (first | (refine wpList_load_any (ty := 58) (x := .tmp 101) (p := .pointer (some ⟨w.heap.size + 1 + 1 + 1, 32, none⟩)) (v := .agg C) ?_ rfl rfl rfl ?_; exact FA32.out _; simp only [Act.put, List.setIfInBounds_toArray, List.set_cons_succ, List.set_cons_zero, World.size_alloc]) | (refine wpList_load_any (ty := 57) (x := .tmp 7) (p := .pointer (some ⟨w.heap.size + 1, 0, none⟩)) (v := .agg C) ?_ rfl rfl rfl ?_; exact FB32.out _; simp only [Act.put, List.setIfInBounds_toArray, List.set_cons_succ, List.set_cons_zero, World.size_alloc]) | (refine wpList_agg_any (op := .neq) (t := 58) (x := .tmp 102) (y := .tmp 103) (A := C) (B := C) (v := .bool false) ?_ Yba.eqGuardType58 rfl rfl rfl rfl ?_; exact FC32.out _; simp only [Act.put, List.setIfInBounds_toArray, List.set_cons_succ, List.set_cons_zero, World.size_alloc]) | (refine wpList_load_any (ty := 59) (x := .tmp 113) (p := .pointer (some ⟨w.heap.size + 1 + 1 + 1, 48, none⟩)) (v := .agg P) ?_ rfl rfl rfl ?_; exact FA48.out _; simp only [Act.put, List.setIfInBounds_toArray, List.set_cons_succ, List.set_cons_zero, World.size_alloc]) | (refine wpList_load_any (ty := 57) (x := .tmp 8) (p := .pointer (some ⟨w.heap.size + 1 + 1, 0, none⟩)) (v := .agg P) ?_ rfl rfl rfl ?_; exact FB48.out _; simp only [Act.put, List.setIfInBounds_toArray, List.set_cons_succ, List.set_cons_zero, World.size_alloc]) | (refine wpList_agg_any (op := .neq) (t := 59) (x := .tmp 114) (y := .tmp 115) (A := P) (B := P) (v := .bool false) ?_ Yba.eqGuardType59 rfl rfl rfl rfl ?_; exact FC48.out _; simp only [Act.put, List.setIfInBounds_toArray, List.set_cons_succ, List.set_cons_zero, World.size_alloc]))
    go_ret
    exact ⟨rfl, by first | exact below_drewN (below_drewN HH.out.2.2.2.2.2.2.2.2 _) _ | exact below_drewN HH.out.2.2.2.2.2.2.2.2 _⟩
  skip
  have i64 : (n : Int) < 64 := by omega
  have i48 : (n : Int) < 48 := by omega
  have i32 : (n : Int) < 32 := by omega
  go_wp2_with fail
  refine (layout_r0 HR.out (by omega)).mono ?_
  rintro e w6 ⟨rfl, b6, xe, r6⟩
  obtain ⟨A6, cur, q1, q3, HH⟩ := HU.out w6 0 _ b6 r6
  clear b6 r6
  go_wp2_with fail
  simp only [Nat.sub_zero] at q1
  have HC0 : Hid (∀ x, Calls Yba.prog 13 #[.slice A6 n cap, .slice pa n cap] (w6.drewN (x)) fun e w'' => e = .returned (.bool true) ∧ ∃ m, w'' = w6.drewN (m)) := fun x => by
    refine (ceq_eq (w6.drewN (x)) _ _ _ _ _ (Z) (by omega) fun j hj => ⟨b, off, b, off, HH.out.1 (by omega), (Hp.out (by omega)).1, ?_, ?_⟩).mono ?_
    · show w6.cell? _ = _
      exact HH.out.2.2.2.2.2.2.2.1 _ (by omega)
    · show w6.cell? _ = _
      exact HH.out.2.2.2.2.2.2.2.1 _ (by omega)
    · rintro e w' ⟨rfl, k, rfl⟩
      exact ⟨rfl, x + k, by rw [World.drewN_drewN]⟩
  go_quiet ((go_at_call 13; with_reducible exact HC0.out _))
  clear HC0
  have FA0 : Hid (∀ m, (Instr.loadAt 45 (.pointer (some ⟨w.heap.size + 1 + 1 + 1, 0, none⟩))).run Yba.prog (w6.drewN m) = .ok (.agg K) (w6.drewN m)) := fun m => load_part (M := cur) (n := 32) (t := 61) HH.out.2.2.2.2.1 Yba.underlying45 csize45 hK (fun j hj => by rw [HH.out.2.2.2.2.2.2.1 _ (by omega)]; rw [HM.out, if_neg (by omega), Nat.zero_add, Array.getElem?_append, if_pos (by simp; omega), Array.getElem?_append, if_pos (by omega)])
  have FB0 : Hid (∀ m, (Instr.loadAt 44 (.pointer (some ⟨w.heap.size, 0, none⟩))).run Yba.prog (w6.drewN m) = .ok (.agg K) (w6.drewN m)) := fun m => load_row HH.out.2.1 Yba.underlying44 rfl (by rw [csize44, hK])
  have FC0 : Hid (∀ w, (binOp .neq 45 (.agg K) (.agg K)).run Yba.prog w = .ok (.bool false) w) := fun w => neq_bytes w 32 45 Yba.underlying45 K hK bK
  have FA32 : Hid (∀ m, (Instr.loadAt 58 (.pointer (some ⟨w.heap.size + 1 + 1 + 1, 32, none⟩))).run Yba.prog (w6.drewN m) = .ok (.agg C) (w6.drewN m)) := fun m => load_part (M := cur) (n := 16) (t := 61) HH.out.2.2.2.2.1 Yba.underlying58 csize58 hC (fun j hj => by rw [HH.out.2.2.2.2.2.2.1 _ (by omega)]; rw [HM.out, if_neg (by omega), Array.getElem?_append, if_pos (by simp; omega), Array.getElem?_append, if_neg (by omega), hK, show 32 + j - 32 = j from by omega])
  have FB32 : Hid (∀ m, (Instr.loadAt 57 (.pointer (some ⟨w.heap.size + 1, 0, none⟩))).run Yba.prog (w6.drewN m) = .ok (.agg C) (w6.drewN m)) := fun m => load_row HH.out.2.2.1 Yba.underlying57 rfl (by rw [csize57, hC])
  have FC32 : Hid (∀ w, (binOp .neq 58 (.agg C) (.agg C)).run Yba.prog w = .ok (.bool false) w) := fun w => neq_bytes w 16 58 Yba.underlying58 C hC bC
  have FA48 : Hid (∀ m, (Instr.loadAt 59 (.pointer (some ⟨w.heap.size + 1 + 1 + 1, 48, none⟩))).run Yba.prog (w6.drewN m) = .ok (.agg P) (w6.drewN m)) := fun m => load_part (M := cur) (n := 16) (t := 61) HH.out.2.2.2.2.1 Yba.underlying59 csize59 hP (fun j hj => by rw [HH.out.2.2.2.2.2.2.1 _ (by omega)]; rw [HM.out, if_neg (by omega), Array.getElem?_append, if_neg (by simp; omega)]; simp only [Array.size_append, hK, hC]; rw [show 48 + j - (32 + 16) = j from by omega])
  have FB48 : Hid (∀ m, (Instr.loadAt 57 (.pointer (some ⟨w.heap.size + 1 + 1, 0, none⟩))).run Yba.prog (w6.drewN m) = .ok (.agg P) (w6.drewN m)) := fun m => load_row HH.out.2.2.2.1 Yba.underlying57 rfl (by rw [csize57, hP])
  have FC48 : Hid (∀ w, (binOp .neq 59 (.agg P) (.agg P)).run Yba.prog w = .ok (.bool false) w) := fun w => neq_bytes w 16 59 Yba.underlying59 P hP bP
  have dd : ∀ m, (w6.drewN m).drewN nq = w6.drewN (m + nq) := fun m => World.drewN_drewN _ _ _
  try simp only [dd]
  clear dd
  go_wp2_with (first | (refine wpList_load_any (ty := 45) (x := .tmp 89) (p := .pointer (some ⟨w.heap.size + 1 + 1 + 1, 0, none⟩)) (v := .agg K) ?_ rfl rfl rfl ?_; exact FA0.out _; simp only [Act.put, List.setIfInBounds_toArray, List.set_cons_succ, List.set_cons_zero, World.size_alloc]) | (refine wpList_load_any (ty := 44) (x := .tmp 6) (p := .pointer (some ⟨w.heap.size, 0, none⟩)) (v := .agg K) ?_ rfl rfl rfl ?_; exact FB0.out _; simp only [Act.put, List.setIfInBounds_toArray, List.set_cons_succ, List.set_cons_zero, World.size_alloc]) | (refine wpList_agg_any (op := .neq) (t := 45) (x := .tmp 90) (y := .tmp 91) (A := K) (B := K) (v := .bool false) ?_ Yba.eqGuardType45 rfl rfl rfl rfl ?_; exact FC0.out _; simp only [Act.put, List.setIfInBounds_toArray, List.set_cons_succ, List.set_cons_zero, World.size_alloc]) | (refine wpList_load_any (ty := 58) (x := .tmp 101) (p := .pointer (some ⟨w.heap.size + 1 + 1 + 1, 32, none⟩)) (v := .agg C) ?_ rfl rfl rfl ?_; exact FA32.out _; simp only [Act.put, List.setIfInBounds_toArray, List.set_cons_succ, List.set_cons_zero, World.size_alloc]) | (refine wpList_load_any (ty := 57) (x := .tmp 7) (p := .pointer (some ⟨w.heap.size + 1, 0, none⟩)) (v := .agg C) ?_ rfl rfl rfl ?_; exact FB32.out _; simp only [Act.put, List.setIfInBounds_toArray, List.set_cons_succ, List.set_cons_zero, World.size_alloc]) | (refine wpList_agg_any (op := .neq) (t := 58) (x := .tmp 102) (y := .tmp 103) (A := C) (B := C) (v := .bool false) ?_ Yba.eqGuardType58 rfl rfl rfl rfl ?_; exact FC32.out _; simp only [Act.put, List.setIfInBounds_toArray, List.set_cons_succ, List.set_cons_zero, World.size_alloc]) | (refine wpList_load_any (ty := 59) (x := .tmp 113) (p := .pointer (some ⟨w.heap.size + 1 + 1 + 1, 48, none⟩)) (v := .agg P) ?_ rfl rfl rfl ?_; exact FA48.out _; simp only [Act.put, List.setIfInBounds_toArray, List.set_cons_succ, List.set_cons_zero, World.size_alloc]) | (refine wpList_load_any (ty := 57) (x := .tmp 8) (p := .pointer (some ⟨w.heap.size + 1 + 1, 0, none⟩)) (v := .agg P) ?_ rfl rfl rfl ?_; exact FB48.out _; simp only [Act.put, List.setIfInBounds_toArray, List.set_cons_succ, List.set_cons_zero, World.size_alloc]) | (refine wpList_agg_any (op := .neq) (t := 59) (x := .tmp 114) (y := .tmp 115) (A := P) (B := P) (v := .bool false) ?_ Yba.eqGuardType59 rfl rfl rfl rfl ?_; exact FC48.out _; simp only [Act.put, List.setIfInBounds_toArray, List.set_cons_succ, List.set_cons_zero, World.size_alloc]))
  go_ret
  exact ⟨rfl, by first | exact below_drewN (below_drewN HH.out.2.2.2.2.2.2.2.2 _) _ | exact below_drewN HH.out.2.2.2.2.2.2.2.2 _⟩
end Go.Proofs.Ybulkaigo
