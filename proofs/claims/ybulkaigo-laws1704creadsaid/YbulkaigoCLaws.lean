/-
  The laws of the three wire laws' own walks: arrays and a struct of 64 bytes are kept behind letters.
-/
import Derived.Test.YbulkaigoCRead
import Derived.Test.YbulkaigoCEq
import Derived.Deep.WholeRow
namespace Go.Proofs.Ybulkaigo
open Go.RowKit

/-- One part laid into the cells of a struct. -/
theorem part_laid (off : Nat) : ∀ (v : List Value) (s : Nat) (cells : Array Value), off + s + v.length ≤ cells.size →
    ((v.zipIdx s).foldl (fun cs (x : Value × Nat) => cs.setIfInBounds (off + x.2) x.1) cells).size = cells.size ∧
    ∀ i, ((v.zipIdx s).foldl (fun cs (x : Value × Nat) => cs.setIfInBounds (off + x.2) x.1) cells)[i]? = if off + s ≤ i ∧ i < off + s + v.length then v[i - (off + s)]? else cells[i]?
  | [], s, cells, _ => by
    refine ⟨rfl, fun i => ?_⟩
    rw [if_neg (by simp only [List.length_nil]; omega)]
    rfl
  | x :: v, s, cells, h => by
    simp only [List.zipIdx_cons, List.foldl_cons]
    have hlen : (x :: v).length = v.length + 1 := rfl
    rw [hlen] at h
    obtain ⟨h1, h2⟩ := part_laid off v (s + 1) (cells.setIfInBounds (off + s) x) (by simp; omega)
    refine ⟨by rw [h1]; simp, fun i => ?_⟩
    rw [h2 i]
    by_cases e : i = off + s
    · subst e
      rw [if_neg (by omega), if_pos (by rw [hlen]; omega)]
      simp [Array.getElem?_setIfInBounds]
      omega
    · by_cases e2 : off + (s + 1) ≤ i ∧ i < off + (s + 1) + v.length
      · rw [if_pos e2, if_pos (by rw [hlen]; omega), show i - (off + s) = (i - (off + (s + 1))) + 1 from by omega, List.getElem?_cons_succ]
      · rw [if_neg e2, if_neg (by rw [hlen]; omega), Array.getElem?_setIfInBounds_ne (fun h => e h.symm)]

theorem fill_step {p : Nat → Option (Nat × Nat)} {cells : Array Value} {i off n : Nat} {A : Array Value} {rest : List (Nat × Value)} (hp : p i = some (off, n)) (hA : A.size = n) (hfit : off + n ≤ cells.size) :
    ∃ cells', Instr.fill p cells ((i, .agg A) :: rest) = Instr.fill p cells' rest ∧ cells'.size = cells.size ∧ ∀ j, cells'[j]? = if off ≤ j ∧ j < off + n then A[j - off]? else cells[j]? := by
  obtain ⟨h1, h2⟩ := part_laid off A.toList 0 cells (by simp; omega)
  refine ⟨(A.toList.zipIdx 0).foldl (fun cs (x : Value × Nat) => cs.setIfInBounds (off + x.2) x.1) cells, ?_, h1, fun j => ?_⟩
  · rw [Instr.fill, hp]
    have c1 : (Value.agg A).cells = A := rfl
    simp only [c1, hA]
    rw [if_neg (by simp; omega), ← Array.foldl_toList]
    simp
  · rw [h2 j]
    simp [hA]

theorem zero61 : ∃ z : Array Value, (∀ w : World, Sem.run Yba.prog (zeroValue 61) w = .ok (.agg z) w) ∧ z.size = 64 := by
  have h : (Yba.t61.zero.map fun v => (match v with | .agg cs => decide (cs.size = 64) | _ => false)) = some true := by kernel_rfl
  obtain ⟨z, hz, hp⟩ := Option.map_eq_some_iff.1 h
  split at hp
  · rename_i cs
    refine ⟨cs, fun w => ?_, by simpa using hp⟩
    have ht := Yba.typeInfo61 w
    simp only [zeroValue, Sem.run_bind, ht, Result.andThen_ok, hz, Sem.run_pure]
  · cases hp

theorem places61 (w : World) (fields : Array Field) (h : Yba.prog.underlying 61 = some (.struct fields)) :
    (fields.mapM fun f : Field => (do pure (f.offset, ← sizeOf f.type) : Sem (Nat × Nat))).run Yba.prog w = .ok #[(0, 32), (32, 16), (48, 16)] w := by
  rw [Yba.underlying61] at h
  simp only [Option.some.injEq, TypeDesc.struct.injEq] at h
  subst h
  simp

/-- 'Register{Key: .., Cookie: .., Proof: ..}' -/
theorem build61 (w : World) (K C Q : Array Value) (hK : K.size = 32) (hC : C.size = 16) (hQ : Q.size = 16) :
    (Instr.build 61 #[(0, .agg K), (1, .agg C), (2, .agg Q)]).run Yba.prog w = .ok (.agg (K ++ C ++ Q)) w := by
  obtain ⟨z, hz, hs⟩ := zero61
  obtain ⟨c1, e1, s1, g1⟩ := fill_step (p := fun i => (#[(0, 32), (32, 16), (48, 16)] : Array (Nat × Nat))[i]?) (cells := z) (i := 0) (off := 0) (n := 32) (A := K) (rest := [(1, .agg C), (2, .agg Q)]) rfl hK (by omega)
  obtain ⟨c2, e2, s2, g2⟩ := fill_step (p := fun i => (#[(0, 32), (32, 16), (48, 16)] : Array (Nat × Nat))[i]?) (cells := c1) (i := 1) (off := 32) (n := 16) (A := C) (rest := [(2, .agg Q)]) rfl hC (by omega)
  obtain ⟨c3, e3, s3, g3⟩ := fill_step (p := fun i => (#[(0, 32), (32, 16), (48, 16)] : Array (Nat × Nat))[i]?) (cells := c2) (i := 2) (off := 48) (n := 16) (A := Q) (rest := []) rfl hQ (by omega)
  have hfin : c3 = K ++ C ++ Q := by
    apply Array.ext_getElem?
    intro i
    rw [g3, g2, g1]
    simp only [Array.getElem?_append, Array.size_append, hK, hC]
    by_cases h1 : i < 32
    · rw [if_neg (by omega), if_neg (by omega), if_pos (by omega), if_pos (by omega), if_pos h1]; rfl
    · by_cases h2 : i < 48
      · rw [if_neg (by omega), if_pos (by omega), if_pos (by omega), if_neg h1]
      · by_cases h3 : i < 64
        · rw [if_pos (by omega), if_neg (by omega)]
        · rw [if_neg (by omega), if_neg (by omega), if_neg (by omega), if_neg (by omega), Array.getElem?_eq_none (by omega), Array.getElem?_eq_none (by omega)]
  obtain ⟨fields, hu⟩ : ∃ fields, Yba.prog.underlying 61 = some (.struct fields) := ⟨_, Yba.underlying61⟩
  have hpl := places61 w fields hu
  simp only [Instr.build, Sem.run_bind, hz, Result.andThen_ok, run_underlying hu, hpl, Value.cells]
  rw [e1, e2, e3, Instr.fill, hfin]
  rfl

/-! ### laws at an operation, guarded or not -/
section
variable {P : Program} {w w' : World} {ops : Array Oper} {rest : List Oper} {o : Oper} {a : Act} {Q : Exit → Act → World → Prop}

theorem wpList_yield {v : Value} (hw : Region.wanted o (yielded ops a.tmps) = true) (hr : (execOp a.eval o).run P w = .ok (.value v) w') (h : wpList P ops Q rest (a.put o.dst v) w') : wpList P ops Q (o :: rest) a w := by
  simp only [wpList, hw, if_true]
  left
  unfold Oper.wp
  rw [hr]
  exact h

/-- A load whose run is known. -/
theorem wpList_load_any {ty : TypeId} {x : Operand} {p v : Value} (hrun : (Instr.loadAt ty p).run P w = .ok v w) (hw : Region.wanted o (yielded ops a.tmps) = true) (ho : o.op = .load ty x) (hx : a.eval x = p)
    (h : wpList P ops Q rest (a.put o.dst v) w) : wpList P ops Q (o :: rest) a w :=
  wpList_yield hw (by simp only [execOp, ho, hx, hrun, Sem.run_bind, Result.andThen_ok, Sem.run_pure]) h

/-- An operator between two aggregates whose run is known. -/
theorem wpList_agg_any {op : BinOp} {t t' : TypeId} {x y : Operand} {A B : Array Value} {v : Value} (hrun : (binOp op t (.agg A) (.agg B)).run P w = .ok v w) (hg : P.eqGuardType P.depth t = false) (hw : Region.wanted o (yielded ops a.tmps) = true) (ho : o.op = .binOp op t x y t')
    (hx : a.eval x = .agg A) (hy : a.eval y = .agg B) (h : wpList P ops Q rest (a.put o.dst v) w) : wpList P ops Q (o :: rest) a w :=
  wpList_yield hw (by simp only [execOp, ho, hx, hy, run_eqGuard_agg w op t x y A B hg, hrun, Sem.run_bind, Result.andThen_ok, Sem.run_pure]) h

/-- 'new' of a type whose zero cells are kept shut. -/
theorem wpList_alloc_any {t : TypeId} {z : Array Value} (hz : (zeroValue t).run P w = .ok (.agg z) w) (hw : Region.wanted o (yielded ops a.tmps) = true) (ho : o.op = .alloc t)
    (h : wpList P ops Q rest (a.put o.dst (.pointer (some ⟨w.heap.size, 0, none⟩))) (w.alloc (.cells z t))) : wpList P ops Q (o :: rest) a w :=
  wpList_yield hw (by simp only [execOp, ho, Instr.alloc, Sem.run_bind, hz, Result.andThen_ok]; simp [newVar, newRow, Value.cells]) h

theorem wpList_build3 {t : TypeId} {i0 i1 i2 : Nat} {x0 x1 x2 : Operand} {v0 v1 v2 v : Value} (hrun : (Instr.build t #[(i0, v0), (i1, v1), (i2, v2)]).run P w = .ok v w) (hw : Region.wanted o (yielded ops a.tmps) = true) (ho : o.op = .build t #[(i0, x0), (i1, x1), (i2, x2)])
    (h0 : a.eval x0 = v0) (h1 : a.eval x1 = v1) (h2 : a.eval x2 = v2) (h : wpList P ops Q rest (a.put o.dst v) w) : wpList P ops Q (o :: rest) a w :=
  wpList_yield hw (by simp only [execOp, ho, List.map_toArray, List.map_cons, List.map_nil, h0, h1, h2, hrun, Sem.run_bind, Result.andThen_ok, Sem.run_pure]) h

theorem crun_storeAt_row (g : Nat) (ty t : TypeId) (cur cells : Array Value) (hg : w.heap[g]? = some (.cells cur t (0, 0))) (hi : (P.info? ty).map (·.size) = some cells.size) (hs : cur.size = cells.size)
    (h1 : ∀ v ∈ cells.toList, v.oneCell' = true) : (Instr.storeAt ty (.pointer (some ⟨g, 0, none⟩)) (.agg cells)).run P w = .ok () (w.setRow g cells) := by
  have hst := run_storeCells_at P g 0 t cells.toList 0 cur w hg (by simp; omega) h1
  have hrow : (cur.toList.take (0 + 0) ++ cells.toList ++ cur.toList.drop (0 + 0 + cells.toList.length)).toArray = cells := by
    have : cur.toList.drop (0 + 0 + cells.toList.length) = [] := List.drop_eq_nil_of_le (by simp; omega)
    rw [this]
    simp
  rw [hrow] at hst
  cases hq : P.info? ty with
  | none => simp [hq] at hi
  | some i =>
    have hii : i.size = cells.size := by simpa [hq] using hi
    simp [Instr.storeAt, Instr.sureAddr, storeVar, Value.cells, sizeOf, typeInfo, hq, hii, hst]

theorem wpList_store_any {ty : TypeId} {x y : Operand} {p v : Value} (hrun : (Instr.storeAt ty p v).run P w = .ok () w') (hgd : o.guard = none) (ho : o.op = .store ty x y) (hx : a.eval x = p) (hy : a.eval y = v)
    (h : wpList P ops Q rest (a.put o.dst undef) w') : wpList P ops Q (o :: rest) a w := by
  refine wpList_plain hgd fun K hK => ?_
  unfold Oper.wp execOp
  simp only [ho, hx, hy, hrun, Sem.run_bind, Result.andThen_ok, Sem.run_pure]
  exact hK _ _ h

/-- A whole block, loaded. -/
theorem load_row {ty t : TypeId} {g : Nat} {cs : Array Value} {d : TypeDesc} (hg : w.heap[g]? = some (.cells cs t (0, 0))) (hu : P.underlying ty = some d) (hd : (match d with | .struct _ | .array _ _ => true | _ => false) = true)
    (hi : (P.info? ty).map (·.size) = some cs.size) : (Instr.loadAt ty (.pointer (some ⟨g, 0, none⟩))).run P w = .ok (.agg cs) w := by
  simp only [Instr.loadAt, Instr.sureAddr, Sem.run_bind, Sem.run_pure, Result.andThen_ok, run_loadVar_row w g t ty cs (0, 0) d hg hu hd hi]
end

/-! ### '==' of bytes against themselves -/
theorem eq_bytes_in (w : World) (d n : Nat) (t : TypeId) (ht : Yba.prog.underlying t = some (.array n 5)) (A : Array Value) (hA : A.size = n) (hb : BL A.toList) : (Op.equalIn (d + 2) t (.agg A) (.agg A)).run Yba.prog w = .ok true w := by
  rw [Op.equalIn]
  simp only [Sem.run_bind, run_underlying ht, Result.andThen_ok, Yba.sizeOf5, Std.Legacy.Range.forIn_eq_forIn_range', Std.Legacy.Range.size, Nat.sub_zero, Nat.add_sub_cancel, Nat.div_one]
  have hl : ∀ i ∈ List.range' 0 n 1, i < n := fun i hi => by simpa using (List.mem_range'_1.1 hi).2
  generalize List.range' 0 n 1 = l at hl ⊢
  induction l with
  | nil => simp
  | cons i l ih =>
    have hi : i < n := hl i (by simp)
    have hi' : i < A.size := by omega
    obtain ⟨z, hz⟩ := hb (A[i]) (by simp)
    have px : (part 5 A (i * 1)).run Yba.prog w = .ok (.int .u8 z) w := by
      simp [part, isAgg, run_underlying Yba.underlying5, Array.getElem?_eq_getElem hi', hz]
    have pe : (Op.equalIn (d + 1) 5 (.int .u8 z) (.int .u8 z)).run Yba.prog w = .ok true w := by
      rw [run_equalIn_int w d 5 .u8 .u8 _ _ Yba.underlying5]; simp
    simp only [List.forIn_cons, Sem.run_bind, px, pe, Result.andThen_ok]
    simp only [Bool.not_true, Bool.false_eq_true, if_false, Sem.run_pure, Result.andThen_ok]
    exact ih fun j hj => hl j (by simp [hj])

theorem eql_bytes (w : World) (n : Nat) (t : TypeId) (ht : Yba.prog.underlying t = some (.array n 5)) (A : Array Value) (hA : A.size = n) (hb : BL A.toList) : (binOp .eql t (.agg A) (.agg A)).run Yba.prog w = .ok (.bool true) w := by
  rw [run_eql_struct, eq_bytes_in w 9998 n t ht A hA hb]
  rfl
theorem neq_bytes (w : World) (n : Nat) (t : TypeId) (ht : Yba.prog.underlying t = some (.array n 5)) (A : Array Value) (hA : A.size = n) (hb : BL A.toList) : (binOp .neq t (.agg A) (.agg A)).run Yba.prog w = .ok (.bool false) w := by
  rw [run_neq_struct, eq_bytes_in w 9998 n t ht A hA hb]
  rfl

theorem part_agg (w : World) (t off n : Nat) (ht : Yba.prog.underlying t = some (.array n 5)) (hs : (sizeOf t).run Yba.prog w = .ok n w) (A : Array Value) : (part t A off).run Yba.prog w = .ok (.agg (A.extract off (off + n))) w := by
  simp [part, isAgg, run_underlying ht, hs]

theorem fieldsOf_eq {P : Program} {t : TypeId} {fs : Array Field} (h : P.underlying t = some (.struct fs)) : P.fieldsOf t = fs := by
  unfold Program.fieldsOf
  rw [h]
theorem fields61' : ∃ fs, Yba.prog.fieldsOf 61 = fs ∧ Yba.prog.underlying 61 = some (.struct fs) ∧ ∃ f1 f2 f3, fs.toList = [f1, f2, f3] ∧ f1.name = "Key" ∧ f1.type = 45 ∧ f1.offset = 0 ∧ f2.name = "Cookie" ∧ f2.type = 58 ∧ f2.offset = 32 ∧ f3.name = "Proof" ∧ f3.type = 59 ∧ f3.offset = 48 :=
  ⟨_, fieldsOf_eq Yba.underlying61, Yba.underlying61, _, _, _, rfl, rfl, rfl, rfl, rfl, rfl, rfl, rfl, rfl, rfl⟩

theorem eqFields3 {P : Program} (w : World) (d : Nat) (A : Array Value) (f1 f2 f3 : Field) (a1 a2 a3 : Value) (n1 : f1.name = "Key") (n2 : f2.name = "Cookie") (n3 : f3.name = "Proof")
    (h1 : (part f1.type A f1.offset).run P w = .ok a1 w) (h2 : (part f2.type A f2.offset).run P w = .ok a2 w) (h3 : (part f3.type A f3.offset).run P w = .ok a3 w)
    (q1 : (Op.equalIn d f1.type a1 a1).run P w = .ok true w) (q2 : (Op.equalIn d f2.type a2 a2).run P w = .ok true w) (q3 : (Op.equalIn d f3.type a3 a3).run P w = .ok true w) :
    (Op.eqFields d A A [f1, f2, f3]).run P w = .ok true w := by
  simp [Op.eqFields, n1, n2, n3, h1, h2, h3, q1, q2, q3]

/-- Two Registers that hold the same bytes. -/
theorem eql_reg (w : World) (A : Array Value) (hA : A.size = 64) (hb : BL A.toList) : (binOp .eql 61 (.agg A) (.agg A)).run Yba.prog w = .ok (.bool true) w := by
  have hsub : ∀ o n, o + n ≤ 64 → (A.extract o (o + n)).size = n ∧ BL (A.extract o (o + n)).toList := fun o n hon => by
    refine ⟨by simp; omega, fun v hv => hb v ?_⟩
    rw [Array.toList_extract] at hv
    exact List.mem_of_mem_drop (List.mem_of_mem_take hv)
  obtain ⟨fs, hfs, hu, f1, f2, f3, hl, n1, t1, o1, n2, t2, o2, n3, t3, o3⟩ := fields61'
  have key := eqFields3 (P := Yba.prog) w 9999 A f1 f2 f3 _ _ _ n1 n2 n3 (by rw [t1, o1]; exact part_agg w 45 0 32 Yba.underlying45 (Yba.sizeOf45 w) A) (by rw [t2, o2]; exact part_agg w 58 32 16 Yba.underlying58 (Yba.sizeOf58 w) A) (by rw [t3, o3]; exact part_agg w 59 48 16 Yba.underlying59 (Yba.sizeOf59 w) A)
    (by rw [t1]; exact eq_bytes_in w 9997 32 45 Yba.underlying45 _ (hsub 0 32 (by omega)).1 (hsub 0 32 (by omega)).2)
    (by rw [t2]; exact eq_bytes_in w 9997 16 58 Yba.underlying58 _ (hsub 32 16 (by omega)).1 (hsub 32 16 (by omega)).2)
    (by rw [t3]; exact eq_bytes_in w 9997 16 59 Yba.underlying59 _ (hsub 48 16 (by omega)).1 (hsub 48 16 (by omega)).2)
  rw [run_eql_struct, run_equalIn_struct w 9999 61 A A (by rw [hfs]; exact hu) Yba.stoodInHeld61, hfs, hl, key]
  rfl

theorem csize44 : (Yba.prog.info? 44).map (·.size) = some 32 := by kernel_rfl
theorem csize57 : (Yba.prog.info? 57).map (·.size) = some 16 := by kernel_rfl
theorem csize61 : (Yba.prog.info? 61).map (·.size) = some 64 := by kernel_rfl

end Go.Proofs.Ybulkaigo
