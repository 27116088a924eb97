/-
  Rows of ints: Sl (a slice that reads as a list), appending one to an owned row.
-/
import Derived.Test.YbulkaiieProg
import Derived.WalkKit
import Derived.ProofKit
import Derived.WalkLawsBesides
import Derived.BigQuiet
import Derived.Deep.QuietTactic
import Derived.Deep.OwnRows
import Derived.Deep.AppendLies
import Derived.Below
namespace Go.Proofs.Ybulkaiie
open Go.RowKit
set_option linter.unusedSimpArgs false

abbrev Fp := Int × Int × Int
def encFp (x : Fp) : List Value := [.int .i64 x.1, .int .i64 x.2.1, .int .i64 x.2.2]

def encI (l : List Int) : List Value := l.map (Value.int .i64)

def Sl (B : Nat) (w : World) (v : Value) (l : List Int) : Prop :=
  (v = .slice none 0 0 ∧ l = []) ∨ ∃ g o c, v = .slice (some ⟨g, o, none⟩) l.length c ∧ l.length ≤ c ∧ g < B ∧ ∀ i, i < l.length → w.cell? ⟨g, o + i, none⟩ = some (.int .i64 (l.getD i 0))

theorem Sl.keep {B : Nat} {w w' : World} {v : Value} {l : List Int} (h : Sl B w v l) (hb : Below B w w') : Sl B w' v l := by
  rcases h with h | ⟨g, o, c, rfl, h1, h2, h3⟩
  · exact .inl h
  · exact .inr ⟨g, o, c, rfl, h1, h2, fun i hi => by rw [hb.cell (p := ⟨g, o + i, none⟩) h2, h3 i hi]⟩

theorem Sl.up {B B' : Nat} {w : World} {v : Value} {l : List Int} (h : Sl B w v l) (hb : B ≤ B') : Sl B' w v l := by
  rcases h with h | ⟨g, o, c, rfl, h1, h2, h3⟩
  · exact .inl h
  · exact .inr ⟨g, o, c, rfl, h1, by omega, h3⟩

/-- One form for both. -/
theorem Sl.form {B : Nat} {w : World} {v : Value} {l : List Int} (h : Sl B w v l) :
    ∃ a c, v = .slice a l.length c ∧ l.length ≤ c ∧ (0 < l.length → ∃ g o, a = some ⟨g, o, none⟩ ∧ g < B ∧ ∀ i, i < l.length → w.cell? ⟨g, o + i, none⟩ = some (.int .i64 (l.getD i 0))) := by
  rcases h with ⟨rfl, rfl⟩ | ⟨g, o, c, rfl, h1, h2, h3⟩
  · exact ⟨none, 0, rfl, by simp, fun h => by simp at h⟩
  · exact ⟨_, c, rfl, h1, fun _ => ⟨g, o, rfl, h2, h3⟩⟩

theorem own_form {w : World} {N e size n : Nat} {v : Value} {xs : List Value} (h : w.ownsRow N e size v n xs) : ∃ a c, v = .slice a n c := by
  obtain ⟨_, ⟨rfl, h0⟩ | ⟨g, c, cur, rfl, _⟩⟩ := h
  · exact ⟨none, 0, by rw [h0]⟩
  · exact ⟨_, _, rfl⟩

theorem info3 : (Yba.prog.info? 3).map (fun i => (i.zero, i.size, i.bytes)) = some (some (.int .i64 0), 1, 8) := by kernel_rfl

theorem add_plain (g o j : Nat) : (⟨g, o, none⟩ : Addr).add j = ⟨g, o + j, none⟩ := by
  unfold Addr.add; split <;> simp_all

theorem storeCells_nil {P : Program} (w : World) (a : Addr) : (storeCells a []).run P w = .ok () w := by
  rfl

theorem run_append_sl (w : World) (ty base B n : Nat) (v : Value) (xs : List Value) (src : Value) (l : List Int) (hown : w.ownsRow base 3 1 v n xs) (hsrc : Sl B w src l) (hn : n + l.length ≤ 100000) (hbase : base ≤ w.heap.size) :
    ∃ v' w', (Builtin.append_ #[27, 27] ty #[v, src]).run Yba.prog w = .ok v' w' ∧ w'.ownsRow base 3 1 v' (n + l.length) (xs ++ encI l) ∧ w.grownBy w' v.ownBlock ∧ (v'.ownBlock = v.ownBlock ∨ v'.ownBlock = some w.heap.size) := by
  obtain ⟨i0, hi, hz0, hz1, hz2⟩ := info_parts info3
  rcases hsrc with ⟨rfl, rfl⟩ | ⟨g, o, c, rfl, h1, h2, h3⟩
  · refine ⟨v, w, ?_, by simpa [encI] using hown, ⟨rfl, rfl, rfl, Nat.le_refl _, fun _ _ _ => rfl⟩, .inl rfl⟩
    obtain ⟨hl, ⟨rfl, rfl⟩ | ⟨g, cap, cur, rfl, _, _, hc, _⟩⟩ := hown
    · simp [Builtin.append_, run_underlying Yba.underlying27, sizeOf, typeInfo, hi, Builtin.lenOf, run_firstCells_none]
    · simp [Builtin.append_, run_underlying Yba.underlying27, sizeOf, typeInfo, hi, Builtin.lenOf, run_firstCells_none, hc, storeCells_nil]
  · obtain ⟨v', w', hr, h4, h5, _, h6⟩ := run_append_own_at (P := Yba.prog) w base 27 ty 3 i0 (.int .i64 0) 1 8 Yba.underlying27 hi hz0 hz1 hz2 rfl (by decide) v n xs hown ⟨g, o, none⟩ l.length c (encI l) (by simp [encI]) (fun j u hu => by
        rw [add_plain]
        have hj : j < l.length := by
          rcases Nat.lt_or_ge j l.length with h | h
          · exact h
          · rw [List.getElem?_eq_none (by simpa [encI] using h)] at hu; cases hu
        rw [h3 j hj]
        simp [encI, hj] at hu
        simp [hu, hj]) (fun u hu => by simp only [encI, List.mem_map] at hu; obtain ⟨x, _, rfl⟩ := hu; rfl) (by unfold maxLen; omega) (by omega) hbase
    exact ⟨v', w', hr, h4, h5, h6⟩

theorem wp_append_sl {o : Oper} {a : Act} {K : Act → World → Prop} {Q : Exit → Act → World → Prop} (w : World) (s x : Operand)
    (ho : o.op = .call { callee := .builtin .append, args := #[s, x], argTypes := #[27, 27] })
    (base B n : Nat) (v : Value) (xs : List Value) (src : Value) (l : List Int) (hs : a.eval s = v) (hx : a.eval x = src) (hown : w.ownsRow base 3 1 v n xs) (hsrc : Sl B w src l) (hn : n + l.length ≤ 100000) (hbase : base ≤ w.heap.size)
    (h : ∀ v' w', w'.ownsRow base 3 1 v' (n + l.length) (xs ++ encI l) → w.grownBy w' v.ownBlock → (v'.ownBlock = v.ownBlock ∨ v'.ownBlock = some w.heap.size) → K (a.put o.dst v') w') : o.wp Yba.prog a w K Q := by
  obtain ⟨v', w', hr, h2, h3, h4⟩ := run_append_sl w o.type base B n v xs src l hown hsrc hn hbase
  unfold Oper.wp execOp
  simp only [ho, resolve, invoke, builtin, Sem.run_bind, Sem.run_pure, Result.andThen_ok, List.map_toArray, List.map_cons, List.map_nil, hs, hx, hr]
  exact h v' w' h2 h3 h4

theorem wpList_append_sl {ops : Array Oper} {rest : List Oper} {o : Oper} {a : Act} {Q : Exit → Act → World → Prop} (w : World) (hgd : o.guard = none) (s x : Operand)
    (ho : o.op = .call { callee := .builtin .append, args := #[s, x], argTypes := #[27, 27] })
    (base B n : Nat) (v : Value) (xs : List Value) (src : Value) (l : List Int) (hs : a.eval s = v) (hx : a.eval x = src) (hown : w.ownsRow base 3 1 v n xs) (hsrc : Sl B w src l) (hn : n + l.length ≤ 100000) (hbase : base ≤ w.heap.size)
    (h : ∀ v' w', w'.ownsRow base 3 1 v' (n + l.length) (xs ++ encI l) → w.grownBy w' v.ownBlock → (v'.ownBlock = v.ownBlock ∨ v'.ownBlock = some w.heap.size) → wpList Yba.prog ops Q rest (a.put o.dst v') w') : wpList Yba.prog ops Q (o :: rest) a w :=
  wpList_plain hgd fun _ hK => wp_append_sl w s x ho base B n v xs src l hs hx hown hsrc hn hbase fun v' w' h2 h3 h4 => hK _ _ (h v' w' h2 h3 h4)

theorem step_append_sl {ops : Array Oper} {o : Oper} {a : Act} {K : Act → World → Prop} {Q : Exit → Act → World → Prop} {E : Prop} (w : World) (hgd : o.guard = none) (s x : Operand)
    (ho : o.op = .call { callee := .builtin .append, args := #[s, x], argTypes := #[27, 27] })
    (base B n : Nat) (v : Value) (xs : List Value) (src : Value) (l : List Int) (hs : a.eval s = v) (hx : a.eval x = src) (hown : w.ownsRow base 3 1 v n xs) (hsrc : Sl B w src l) (hn : n + l.length ≤ 100000) (hbase : base ≤ w.heap.size)
    (h : ∀ v' w', w'.ownsRow base 3 1 v' (n + l.length) (xs ++ encI l) → w.grownBy w' v.ownBlock → (v'.ownBlock = v.ownBlock ∨ v'.ownBlock = some w.heap.size) → K (a.put o.dst v') w') :
    if Region.wanted o (yielded ops a.tmps) = true then Oper.wp Yba.prog o a w K Q else E := by
  have hw : Region.wanted o (yielded ops a.tmps) = true := by simp [Region.wanted, hgd]
  rw [if_pos hw]
  exact wp_append_sl w s x ho base B n v xs src l hs hx hown hsrc hn hbase h

/-- A row that is owned reads as its list. -/
theorem sl_of_own {w : World} {base n : Nat} {v : Value} {l : List Int} (h : w.ownsRow base 3 1 v n (encI l)) : Sl w.heap.size w v l := by
  have hlt := h.lt
  obtain ⟨hl, ⟨rfl, rfl⟩ | ⟨g, cap, cur, rfl, h1, h2, h3, h4, h5, h6⟩⟩ := h
  · left
    refine ⟨rfl, ?_⟩
    have : l.length = 0 := by simpa [encI] using hl
    simpa using this
  · have hln : l.length = n := by simpa [encI] using hl
    subst hln
    refine .inr ⟨g, 0, cap, rfl, h3, (hlt g rfl).2, fun i hi => ?_⟩
    have hh : w.cell? ⟨g, 0 + i, none⟩ = cur[i]? := by rw [Nat.zero_add]; exact cell_of_row w g i cur 3 (0, 0) h2
    rw [hh]
    have e : (cur.toList.take (l.length * 1))[i]? = (encI l)[i]? := by rw [h6]
    rw [List.getElem?_take_of_lt (by omega)] at e
    simp [encI, hi] at e
    rw [e]
    simp [hi]

/-- A slice of one new element. -/
theorem sl_one (w : World) (x : Int) : Sl (w.heap.size + 1) (w.alloc (.cells #[.int .i64 x] 3)) (.slice (some ⟨w.heap.size, 0, none⟩) 1 1) [x] :=
  .inr ⟨w.heap.size, 0, 1, rfl, by simp, by omega, fun i hi => by
    obtain rfl : i = 0 := by simpa using hi
    have := cell_one_new w (.int .i64 x) 3 0 (.int .i64 x) rfl
    rw [add_plain] at this
    exact this⟩
end Go.Proofs.Ybulkaiie
