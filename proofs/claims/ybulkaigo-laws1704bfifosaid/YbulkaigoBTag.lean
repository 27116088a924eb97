/-
  zzs1704btag: its contract; a queuedHello of 113 cells is kept behind a letter.
-/
import Derived.Test.YbulkaigoBPut
import Derived.Laws.CopyOwn
import Derived.Deep.WholeRow
namespace Go.Proofs.Ybulkaigo
open Go.Conc Go.RowKit

theorem extract_head {buf : Array Value} {k m : Nat} {v : Value} (hm : buf.size = m) (hk : k < m) (h : buf[k]? = some v) : 0 < (buf.extract k m).size ∧ (buf.extract k m).getD 0 undef = v := by
  have hs : 0 < (buf.extract k m).size := by simp; omega
  refine ⟨hs, ?_⟩
  rw [Array.getD_eq_getD_getElem?, Array.getElem?_eq_getElem hs, Array.getElem_extract]
  have : buf[k + 0]'(by simp; omega) = v := by
    have h2 := (Array.getElem?_eq_some_iff.1 h).2
    simpa using h2
  simpa using this

theorem extract_tail {buf : Array Value} {k m : Nat} (hm : buf.size = m) : (buf.extract k m).extract 1 (buf.extract k m).size = buf.extract (k + 1) m := by
  rw [Array.extract_extract]
  congr 1
  simp
  omega

/-- WHAT IS KNOWN OF A TAGGED HELLO: 113 cells; the two bytes of the stamp; no route. -/
structure IsTag (i : Nat) (hv : Array Value) : Prop where
  size : hv.size = 113
  lo : hv[88]? = some (.int .u8 ((i : Int) % 256))
  hi : hv[89]? = some (.int .u8 ((i : Int) / 256))
  route : hv[112]? = some (.pointer none)
  one : hv.all (·.oneCell') = true

theorem alloc52 : ∃ z : Array Value, (∀ w : World, Sem.run Yba.prog (Instr.alloc 52 true (.tuple #[])) w = .ok (.pointer (some ⟨w.heap.size, 0, none⟩)) (w.alloc (.cells z 52))) ∧ z.size = 113 ∧ z[112]? = some (.pointer none) ∧ z.all (·.oneCell') = true := by
  have h : (Yba.t52.zero.map fun v => (decide (v.cells.size = 113) && v.cells.all (·.oneCell') && (match v.cells[112]? with | some (.pointer none) => true | _ => false))) = some true := by kernel_rfl
  obtain ⟨z, hz, hp⟩ := Option.map_eq_some_iff.1 h
  simp only [Bool.and_eq_true, decide_eq_true_eq] at hp
  obtain ⟨⟨h1, h2⟩, h3⟩ := hp
  refine ⟨z.cells, fun w => ?_, h1, ?_, h2⟩
  · have ht := Yba.typeInfo52 w
    simp only [Instr.alloc, zeroValue, Sem.run_bind, ht, Result.andThen_ok, hz]
    simp [newVar, newRow]
  · split at h3
    · assumption
    · cases h3

/-- 'new' of a queuedHello: the zero cells, whatever they are. -/
theorem wpList_alloc52 {z : Array Value} (hz : ∀ w : World, Sem.run Yba.prog (Instr.alloc 52 true (.tuple #[])) w = .ok (.pointer (some ⟨w.heap.size, 0, none⟩)) (w.alloc (.cells z 52)))
    {w : World} {ops : Array Oper} {rest : List Oper} {o : Oper} {a : Act} {Q : Exit → Act → World → Prop} (hgd : o.guard = none) (ho : o.op = .alloc 52)
    (h : wpList Yba.prog ops Q rest (a.put o.dst (.pointer (some ⟨w.heap.size, 0, none⟩))) (w.alloc (.cells z 52))) : wpList Yba.prog ops Q (o :: rest) a w := by
  refine wpList_plain hgd fun K hK => ?_
  unfold Oper.wp
  simp only [execOp, ho, Sem.run_bind, hz, Result.andThen_ok, Sem.run_pure]
  exact hK _ _ h

/-- A whole variable is stored over. -/
theorem run_storeAt_row {P : Program} (w : World) (g : Nat) (ty t : TypeId) (cur cells : Array Value) (hg : w.heap[g]? = some (.cells cur t (0, 0))) (hi : (P.info? ty).map (·.size) = some cells.size) (hs : cur.size = cells.size)
    (h1 : cells.all (·.oneCell') = true) : (Instr.storeAt ty (.pointer (some ⟨g, 0, none⟩)) (.agg cells)).run P w = .ok () (w.setRow g cells) := by
  have hst := run_storeCells_at P g 0 t cells.toList 0 cur w hg (by simp; omega) (by
    intro v hv
    obtain ⟨i, hi, rfl⟩ := List.getElem_of_mem hv
    have := Array.all_eq_true.1 h1 i (by simpa using hi)
    simpa using this)
  have hrow : (cur.toList.take (0 + 0) ++ cells.toList ++ cur.toList.drop (0 + 0 + cells.toList.length)).toArray = cells := by
    have : cur.toList.drop (0 + 0 + cells.toList.length) = [] := List.drop_eq_nil_of_le (by simp; omega)
    rw [this]
    simp
  rw [hrow] at hst
  cases hq : P.info? ty with
  | none => simp [hq] at hi
  | some i =>
    have hii : i.size = cells.size := by simpa [hq] using hi
    simp [Instr.storeAt, Instr.sureAddr, storeVar, Value.cells, sizeOf, typeInfo, hq, hii, hst]

theorem wpList_store_row {P : Program} {ops : Array Oper} {rest : List Oper} {o : Oper} {a : Act} {w : World} {Q : Exit → Act → World → Prop} (hgd : o.guard = none) (ty : TypeId) (x y : Operand) (ho : o.op = .store ty x y)
    (g : Nat) (hx : a.eval x = .pointer (some ⟨g, 0, none⟩)) (cells : Array Value) (hy : a.eval y = .agg cells) (t : TypeId) (cur : Array Value) (hg : w.heap[g]? = some (.cells cur t (0, 0)))
    (hi : (P.info? ty).map (·.size) = some cells.size) (hs : cur.size = cells.size) (h1 : cells.all (·.oneCell') = true)
    (h : wpList P ops Q rest (a.put o.dst undef) (w.setRow g cells)) : wpList P ops Q (o :: rest) a w := by
  refine wpList_plain hgd fun K hK => ?_
  have hrun := run_storeAt_row (P := P) w g ty t cur cells hg hi hs h1
  unfold Oper.wp execOp
  simp only [ho, hx, hy, hrun, Sem.run_bind, Result.andThen_ok, Sem.run_pure]
  exact hK _ _ h

theorem tag_of {z : Array Value} (i : Nat) (h1 : z.size = 113) (h2 : z[112]? = some (.pointer none)) (h3 : z.all (·.oneCell') = true) :
    IsTag i ((z.setIfInBounds 88 (.int .u8 ((i : Int) % 256))).setIfInBounds 89 (.int .u8 ((i : Int) / 256))) := by
  refine ⟨by simpa using h1, ?_, ?_, ?_, ?_⟩
  · rw [Array.getElem?_setIfInBounds_ne (by omega), Array.getElem?_setIfInBounds]; simp [h1]
  · rw [Array.getElem?_setIfInBounds]; simp [h1]
  · rw [Array.getElem?_setIfInBounds_ne (by omega), Array.getElem?_setIfInBounds_ne (by omega)]; exact h2
  · rw [Array.all_eq_true] at h3 ⊢
    intro j hj
    simp only [Array.size_setIfInBounds] at hj
    rw [Array.getElem_setIfInBounds, Array.getElem_setIfInBounds]
    · split
      · rfl
      · split
        · rfl
        · exact h3 j hj
    · simpa using hj

set_option maxHeartbeats 400000 in
set_option maxRecDepth 100000 in
theorem tag_any (w : World) (i : Nat) (hi : i ≤ 1024) :
    Calls Yba.prog 10 #[.int .i64 i] w fun e w' => ∃ hv, e = .returned (.agg hv) ∧ IsTag i hv ∧ Below w.heap.size w w' := by
  obtain ⟨z, hz, z1, z2, z3⟩ := alloc52
  have ht := tag_of i z1 z2 z3
  have HI : Hid ((Yba.prog.info? 52).map (·.size) = some ((z.setIfInBounds 88 (.int .u8 ((i : Int) % 256))).setIfInBounds 89 (.int .u8 ((i : Int) / 256))).size) := by
    show _ = _
    rw [size52, ht.size]
  have HL : Hid (((w.alloc (.cells z 52)).alloc (.cells ((z.setIfInBounds 88 (.int .u8 ((i : Int) % 256))).setIfInBounds 89 (.int .u8 ((i : Int) / 256))) 52)).heap[w.heap.size + 1]? = some (.cells ((z.setIfInBounds 88 (.int .u8 ((i : Int) % 256))).setIfInBounds 89 (.int .u8 ((i : Int) / 256))) 52 (0, 0))) := heap_alloc2_new _ _ _
  have HG : Hid (((w.alloc (.cells z 52)).alloc (.cells ((z.setIfInBounds 88 (.int .u8 ((i : Int) % 256))).setIfInBounds 89 (.int .u8 ((i : Int) / 256))) 52)).heap[w.heap.size]? = some (.cells z 52 (0, 0))) := heap_alloc2_old _ _ _
  have HS : Hid (z.size = ((z.setIfInBounds 88 (.int .u8 ((i : Int) % 256))).setIfInBounds 89 (.int .u8 ((i : Int) / 256))).size) := by
    show _ = _
    rw [ht.size, z1]
  have HT : Hid (IsTag i ((z.setIfInBounds 88 (.int .u8 ((i : Int) % 256))).setIfInBounds 89 (.int .u8 ((i : Int) / 256)))) := ht
  clear ht z2 z3
  go_enter Yba.func10, Yba.ntmps10
  go_wp2_with (first | (refine wpList_alloc52 hz rfl rfl ?_) | (refine wpList_load_row rfl 52 (.tmp 3) rfl (w.heap.size + 1) rfl 52 _ (0, 0) _ HL.out Yba.underlying52 rfl HI.out ?_) | (refine wpList_store_row rfl 52 (.tmp 2) (.tmp 15) rfl w.heap.size rfl _ rfl 52 z HG.out HI.out HS.out HT.out.one ?_))
  refine bodyPost_ret (v := .agg ((z.setIfInBounds 88 (.int .u8 ((i : Int) % 256))).setIfInBounds 89 (.int .u8 ((i : Int) / 256)))) (results_cell_row Yba.results10 _ _ w.heap.size 52 _ (0, 0) _ rfl (setRow_heap _ _ _ _ _ _ HG.out) Yba.underlying52 rfl HI.out) rfl ⟨_, rfl, HT.out, ?_⟩
  exact below_setRow (((Below.refl _ w).alloc (Nat.le_refl _) _).alloc (by simp) _) (Nat.le_refl _) _

end Go.Proofs.Ybulkaigo
