/-
  LawS1704AKeeps: small laws for her own walk.
-/
import Derived.Test.YbulkaigoARelease
import Derived.Deep.DeepCutAuto
import Derived.LaidEqlPtr
namespace Go.Proofs.Ybulkaigo
open Go.RowKit

theorem zero28 : ∃ z : Array Value, ∀ w : World, Sem.run Yba.prog (Instr.alloc 28 true (.tuple #[])) w = .ok (.pointer (some ⟨w.heap.size, 0, none⟩)) (w.alloc (.cells z 28)) := by
  have h : Yba.t28.zero.isSome = true := by kernel_rfl
  obtain ⟨z, hz⟩ := Option.isSome_iff_exists.1 h
  refine ⟨z.cells, fun w => ?_⟩
  have ht := Yba.typeInfo28 w
  simp only [Instr.alloc, zeroValue, Sem.run_bind, ht, Result.andThen_ok, hz]
  simp [newVar, newRow]

/-- 'new(chunk)': a block of 65,536 cells, which the walk need not see. -/
theorem wpList_alloc28 {w : World} {ops : Array Oper} {rest : List Oper} {o : Oper} {a : Act} {Q : Exit → Act → World → Prop} (hgd : o.guard = none) (ho : o.op = .alloc 28)
    (h : ∀ z : Array Value, wpList Yba.prog ops Q rest (a.put o.dst (.pointer (some ⟨w.heap.size, 0, none⟩))) (w.alloc (.cells z 28))) : wpList Yba.prog ops Q (o :: rest) a w := by
  refine wpList_plain hgd fun K hK => ?_
  obtain ⟨z, hz⟩ := zero28
  unfold Oper.wp
  simp only [execOp, ho, Sem.run_bind, hz, Result.andThen_ok, Sem.run_pure]
  exact hK _ _ (h z)

theorem put_new {w : World} {o n k : Nat} {P : Nat → Option Addr} {x : Obj} (h : w.rowIs o 26 n (fun i => .pointer (P i))) :
    ((w.setCell ⟨o, k, none⟩ (.pointer (some ⟨w.heap.size, 0, none⟩))).alloc x).rowIs o 26 n (fun i => .pointer ((fun j => if j = k then some ⟨w.heap.size, 0, none⟩ else P j) i)) :=
  ((h.set k _).alloc x).congr fun i _ => by
    by_cases e : i = k <;> simp [e]

/-- '(off - base) / chunkSize' fits an int. (No great numeral is laid into the walk's context.) -/
theorem quo_ex (x : Int) : ∃ q : Nat, IntKind.u64.wrap ((IntKind.u64.wrap x).tdiv 65536) = (q : Int) ∧ Hid (wrap64 (IntKind.u64.wrap ((IntKind.u64.wrap x).tdiv 65536)) = (q : Int)) := by
  have h1 : 0 ≤ x % 18446744073709551616 := by omega
  have h2 : IntKind.u64.wrap ((IntKind.u64.wrap x).tdiv 65536) = ((x % 18446744073709551616 / 65536).toNat : Int) := by
    rw [IntKind.wrap_u64, IntKind.wrap_u64, Int.tdiv_eq_ediv_of_nonneg h1]
    omega
  refine ⟨(x % 18446744073709551616 / 65536).toNat, h2, ?_⟩
  show _ = _
  rw [h2]
  unfold wrap64; omega

/-- A pointer against itself: '!=' says no. -/
theorem neq_same (w : World) (p : Option Addr) : (binOp .neq 26 (.pointer p) (.pointer p)).run Yba.prog w = .ok (.bool false) w := by
  have h : ∀ d : Nat, (Op.equalIn (d + 1) 26 (.pointer p) (.pointer p)).run Yba.prog w = .ok true w := fun d => by
    cases p with
    | none => simp [Op.equalIn, run_underlying Yba.underlying26]
    | some a => simp [Op.equalIn, run_underlying Yba.underlying26, Yba.sizeOf28, run_sameAddr_same]
  simp only [binOp]
  simp [Op.equal, Op.maxDepth, h 9999]

/-- What a slice that owns its cells is like, in one form for nil and the others. -/
theorem own_shape {w : World} {N : Nat} {v : Value} {xs : List Value} (h : w.ownsRow N 26 1 v xs.length xs) (hnil : xs = [] → v = .slice none 0 0) :
    ∃ (ga : Option Addr) (c : Nat), v = .slice ga xs.length c ∧ ga.isNone = xs.isEmpty ∧ ∀ j, j < xs.length → ∃ g, ga = some ⟨g, 0, none⟩ ∧ g < w.heap.size ∧ w.cell? ⟨g, j, none⟩ = xs[j]? := by
  by_cases he : xs = []
  · subst he
    exact ⟨none, 0, hnil rfl, rfl, fun j hj => absurd hj (by simp)⟩
  · obtain ⟨_, ⟨rfl, h0⟩ | ⟨g, cap, cur, rfl, hN, hb, hc1, hc2, hc3, hx⟩⟩ := h
    · exact absurd (List.length_eq_zero_iff.1 h0) he
    · refine ⟨some ⟨g, 0, none⟩, cap, rfl, by simp [he], fun j hj => ⟨g, rfl, (Array.getElem?_eq_some_iff.1 hb).1, ?_⟩⟩
      have : (cur.toList.take (xs.length * 1))[j]? = xs[j]? := by rw [hx]
      rw [Nat.mul_one, List.getElem?_take, if_pos hj] at this
      simp [World.cell?, hb]
      simpa using this

theorem spent_ptr (P : Nat → Option Addr) : ∀ k u, u ∈ spent P k → ∃ a, u = .pointer (some a)
  | 0, u, h => by simp [spent] at h
  | k + 1, u, h => by
    simp only [spent] at h
    split at h
    · rename_i hs
      obtain ⟨a, ha⟩ := Option.isSome_iff_exists.1 hs
      rcases List.mem_append.1 h with h | h
      · exact spent_ptr P k u h
      · simp at h; exact ⟨a, by rw [h, ha]⟩
    · exact spent_ptr P k u h

theorem spent_at (P : Nat → Option Addr) (k j : Nat) (h : j < (spent P k).length) : ∃ a, (spent P k)[j]? = some (.pointer (some a)) := by
  obtain ⟨a, ha⟩ := spent_ptr P k _ (List.getElem_mem h)
  exact ⟨a, by rw [List.getElem?_eq_getElem h, ha]⟩

/-- What is owned stays owned where everything below the world's size stays. -/
theorem owns_below {w w' : World} {N e size n : Nat} {v : Value} {xs : List Value} (h : w.ownsRow N e size v n xs) (hb : Below w.heap.size w w') : w'.ownsRow N e size v n xs := by
  obtain ⟨h1, h2 | ⟨g, cap, cur, rfl, hN, hg, hc1, hc2, hc3, hx⟩⟩ := h
  · exact ⟨h1, .inl h2⟩
  · exact ⟨h1, .inr ⟨g, cap, cur, rfl, hN, (hb.block g (Array.getElem?_eq_some_iff.1 hg).1).trans hg, hc1, hc2, hc3, hx⟩⟩

end Go.Proofs.Ybulkaigo
