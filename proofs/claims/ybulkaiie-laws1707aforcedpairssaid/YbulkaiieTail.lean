/-
  What the law's second half needs: rows and column, the three groups, the boxes.
-/
import Derived.Test.YbulkaiieNest
import Derived.Test.YbulkaiieForce
namespace Go.Proofs.Ybulkaiie
open Go.RowKit
set_option linter.unusedSimpArgs false
set_option linter.unusedVariables false

/-- rows and column, above the world wE. -/
structure Rows3 (wE wq : World) (rv : Nat → Int) (cv : Nat → Int) : Prop where
  bel : Below wE.heap.size wE wq
  size : wq.heap.size = wE.heap.size + 3
  rows : wq.rowIs wE.heap.size 29 8 (fun t => .int .u64 (rv t))
  pw : wq.cell? ⟨wE.heap.size + 1, 0, none⟩ = some (.slice (some ⟨wE.heap.size, 0, none⟩) 8 8)
  col : wq.rowIs (wE.heap.size + 2) 3 8 (fun t => .int .i64 (cv t))

theorem rows3_start (w : World) : Rows3 w (((w.alloc (.cells (madeCells #[.int .u64 0] 8) 29)).alloc (.cells #[.slice (some ⟨w.heap.size, 0, none⟩) 8 8] 28)).alloc (.cells (madeCells #[.int .i64 0] 8) 3)) (fun _ => 0) (fun _ => 0) := by
  have b0 : (((w.alloc (.cells (madeCells #[.int .u64 0] 8) 29)).alloc (.cells #[.slice (some ⟨w.heap.size, 0, none⟩) 8 8] 28)).alloc (.cells (madeCells #[.int .i64 0] 8) 3)).heap[w.heap.size]? = some (.cells (madeCells #[.int .u64 0] 8) 29) := by
    simp only [heap_alloc_if, size_alloc1, Nat.add_assoc]; simp
  have b1 : (((w.alloc (.cells (madeCells #[.int .u64 0] 8) 29)).alloc (.cells #[.slice (some ⟨w.heap.size, 0, none⟩) 8 8] 28)).alloc (.cells (madeCells #[.int .i64 0] 8) 3)).heap[w.heap.size + 1]? = some (.cells #[.slice (some ⟨w.heap.size, 0, none⟩) 8 8] 28) := by
    simp only [heap_alloc_if, size_alloc1, Nat.add_assoc]; simp
  have b2 : (((w.alloc (.cells (madeCells #[.int .u64 0] 8) 29)).alloc (.cells #[.slice (some ⟨w.heap.size, 0, none⟩) 8 8] 28)).alloc (.cells (madeCells #[.int .i64 0] 8) 3)).heap[w.heap.size + 2]? = some (.cells (madeCells #[.int .i64 0] 8) 3) := by
    simp only [heap_alloc_if, size_alloc1, Nat.add_assoc]; simp
  refine ⟨?_, by simp, ⟨_, b0, by simp [madeCells], fun i hi => made1 _ 8 i hi⟩, ?_, ⟨_, b2, by simp [madeCells], fun i hi => made1 _ 8 i hi⟩⟩
  · exact (((Below.refl _ _).alloc (Nat.le_refl _) _).alloc (by simp) _).alloc (by simp; omega) _
  · rw [cell_of_row _ _ _ _ 28 (0, 0) b1]; rfl

theorem Rows3.drew {wE wq : World} {rv cv : Nat → Int} (h : Rows3 wE wq rv cv) : Rows3 wE wq.drew rv cv := ⟨h.bel.drew, h.size, h.rows, h.pw, h.col⟩

theorem Rows3.setRow {wE wq : World} {rv cv : Nat → Int} (h : Rows3 wE wq rv cv) (j : Nat) (z : Int) : Rows3 wE (wq.setCell ⟨wE.heap.size, j, none⟩ (.int .u64 z)) (upd rv j z) cv := by
  refine ⟨h.bel.setCell (Nat.le_refl _) _, by simp [h.size], (h.rows.set j (.int .u64 z)).congr fun i hi => ?_, ?_, h.col.setOther (by show wE.heap.size + 2 ≠ wE.heap.size; omega) _⟩
  · unfold upd
    by_cases e : i = j <;> simp [e]
  · rw [World.cell?_setCell_other _ _ _ _ (by simp)]; exact h.pw

theorem Rows3.setCol {wE wq : World} {rv : Nat → Int} {j : Nat} (h : Rows3 wE wq rv (fun t => if t < j then (t : Int) else 0)) : Rows3 wE (wq.setCell ⟨wE.heap.size + 2, j, none⟩ (.int .i64 j)) rv (fun t => if t < j + 1 then (t : Int) else 0) := by
  refine ⟨h.bel.setCell (by show wE.heap.size ≤ wE.heap.size + 2; omega) _, by simp [h.size], h.rows.setOther (by show wE.heap.size ≠ wE.heap.size + 2; omega) _, ?_, (h.col.set j (.int .i64 j)).congr fun i hi => ?_⟩
  · rw [World.cell?_setCell_other _ _ _ _ (by simp)]; exact h.pw
  · by_cases e : i = j
    · subst e; simp
    · simp only [if_neg e]
      by_cases e2 : i < j
      · rw [if_pos e2, if_pos (by omega)]
      · rw [if_neg e2, if_neg (by omega)]

theorem own_below {w w1 : World} {base e size n : Nat} {v : Value} {xs : List Value} (h : w.ownsRow base e size v n xs) (hb : Below w.heap.size w w1) : w1.ownsRow base e size v n xs := by
  refine h.kept (row := none) ⟨hb.os, hb.tape, hb.output, hb.size, fun k hk _ => hb.block k hk⟩ ?_
  cases v.ownBlock with
  | none => exact .inl rfl
  | some k => exact .inr (by simp)

theorem joinL_le (L : Nat → List Int) (n c : Nat) (h : ∀ t, t < n → (L t).length ≤ c) : (joinL L n).length ≤ c * n := by
  induction n with
  | zero => simp [joinL]
  | succ m ih =>
    rw [joinL_succ, List.length_append, Nat.mul_succ]
    have h1 := ih (fun t ht => h t (by omega))
    have h2 := h m (by omega)
    omega

theorem Grp.go {w1 w2 : World} {G : Value} {n : Nat} {L : Nat → List Int} (h : Grp w1.heap.size w1 G n L) (hb : Below w1.heap.size w1 w2) : Grp w2.heap.size w2 G n L := by
  obtain ⟨a, s, e, h1, h2⟩ := h
  exact ⟨a, s, e, (h1.keep hb).up hb.size, (h2.keep hb).up hb.size⟩

theorem groups_any (wE : World) (gl n c : Nat) (V : Nat → Value) (L : Nat → List Int) (hn : n ≤ 256) (hgl : ∀ t, t < n → wE.cell? ⟨gl, t, none⟩ = some (V t)) (hV : ∀ t, t < n → Sl wE.heap.size wE (V t) (L t)) (htot : (joinL L n).length ≤ 8192) (w' : World) (hb : Below wE.heap.size wE w') :
    Calls Yba.prog 4 #[.slice (some ⟨gl, 0, none⟩) n c] w' fun e w'' => ∃ (x1 : Option Addr) (n1 c1 : Nat) (x2 : Option Addr) (n2 c2 : Nat), e = .returned (.agg #[.slice x1 n1 c1, .slice x2 n2 c2]) ∧ Below wE.heap.size wE w'' ∧ Below w'.heap.size w' w'' ∧ Grp w''.heap.size w'' (.agg #[.slice x1 n1 c1, .slice x2 n2 c2]) n L := by
  refine (groups4 w' gl n c V L hn (fun t ht => ?_) (fun t ht => ((hV t ht).keep hb).up hb.size) htot).mono ?_
  · rw [hb.cell (p := ⟨gl, t, none⟩) (World.block_lt_of_cell? _ _ (hgl t ht)), hgl t ht]
  · rintro e w'' ⟨G, rfl, h1, a, s, rfl, h2, h3⟩
    obtain ⟨x1, c1, rfl, _, _⟩ := h2.form
    obtain ⟨x2, c2, rfl, _, _⟩ := h3.form
    exact ⟨x1, _, c1, x2, _, c2, rfl, hb.trans (h1.mono hb.size), h1, _, _, rfl, h2, h3⟩
end Go.Proofs.Ybulkaiie
