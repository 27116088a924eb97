/-
  The law's rows of rows: all inner slices in one family.
-/
import Derived.Test.YbulkaiieMem
namespace Go.Proofs.Ybulkaiie
open Go.RowKit
set_option linter.unusedSimpArgs false
set_option linter.unusedVariables false

/-- Where inner slice t lies. -/
def adr (H R t : Nat) : Addr := if t < R then ⟨H + 2, t, none⟩ else if t < R + 8 then ⟨H + 4, t - R, none⟩ else ⟨H + 5, t - R - 8, none⟩

def rngB (R t : Nat) : Int := if t < R then 8 else R

structure Nest (w wr : World) (R : Nat) (lock : Nat → Int) (first : Nat → Nat) (V : Nat → Value) (L : Nat → List Int) (bnd : Nat → Nat) : Prop where
  bel : Below w.heap.size w wr
  size : w.heap.size + 6 ≤ wr.heap.size
  rl : ∀ b, b < R → wr.cell? ⟨w.heap.size, b * 2, none⟩ = some (.int .i64 (lock b))
  rf : ∀ b, b < R → wr.cell? ⟨w.heap.size, b * 2 + 1, none⟩ = some (.int .i64 (first b))
  f8 : ∀ b, b < R → first b < 8
  p1 : wr.cell? ⟨w.heap.size + 1, 0, none⟩ = some (.slice (some ⟨w.heap.size, 0, none⟩) R R)
  p3 : wr.cell? ⟨w.heap.size + 3, 0, none⟩ = some (.slice (some ⟨w.heap.size + 2, 0, none⟩) R R)
  cell : ∀ t, t < R + 16 → wr.cell? (adr w.heap.size R t) = some (V t)
  frz : ∀ b o, w.heap.size ≤ b → b < w.heap.size + 6 → wr.frozen? ⟨b, o, none⟩ = false
  own : ∀ t, t < R + 16 → wr.ownsRow (w.heap.size + 6) 3 1 (V t) (L t).length (encI (L t))
  dist : ∀ s t, s < R + 16 → t < R + 16 → s ≠ t → (V s).ownBlock = none ∨ (V s).ownBlock ≠ (V t).ownBlock
  len : ∀ t, t < R + 16 → (L t).length ≤ bnd t
  rng : ∀ t, t < R + 16 → ∀ x ∈ L t, 0 ≤ x ∧ x < rngB R t

def upd {α : Type} (V : Nat → α) (t : Nat) (v : α) (s : Nat) : α := if s = t then v else V s
theorem upd_same {α : Type} (V : Nat → α) (t : Nat) (v : α) : upd V t v t = v := by simp [upd]
theorem upd_ne {α : Type} (V : Nat → α) {t s : Nat} (v : α) (h : s ≠ t) : upd V t v s = V s := by simp [upd, h]

theorem adr_block (H R t : Nat) (ht : t < R + 16) : H ≤ (adr H R t).block ∧ (adr H R t).block < H + 6 ∧ (adr H R t).block ≠ H ∧ (adr H R t).block ≠ H + 1 ∧ (adr H R t).block ≠ H + 3 ∧ (adr H R t).spot = none := by
  unfold adr
  split
  · simp
  · split <;> simp

theorem adr_ne (H R : Nat) {s t : Nat} (hs : s < R + 16) (ht : t < R + 16) (h : s ≠ t) : adr H R s ≠ adr H R t := by
  unfold adr
  intro e
  split at e <;> split at e <;> (try split at e) <;> (try split at e) <;> simp at e <;> omega

theorem grown_setN {w : World} {a : Addr} {v : Value} : w.grownBy (w.setCell a v) (some a.block) :=
  ⟨rfl, rfl, rfl, by simp, fun k _ hne => Below.heap_setCell _ _ _ _ (by intro e; exact hne (by rw [e]))⟩

/-- xs[i] = append(xs[i], y). -/
theorem Nest.app {w wr wa w1 : World} {R : Nat} {lock : Nat → Int} {first : Nat → Nat} {V : Nat → Value} {L : Nat → List Int} {bnd bnd' : Nat → Nat} {t : Nat} {v' : Value} {y : Int} {o : Obj}
    (h : Nest w wr R lock first V L bnd) (ht : t < R + 16) (hwa : wa = wr.alloc o ∨ wa = (wr.alloc o).drew ∨ wa = wr.drew.alloc o) (ho : w1.ownsRow (w.heap.size + 6) 3 1 v' ((L t).length + 1) (encI (L t) ++ encI [y])) (hg : wa.grownBy w1 (V t).ownBlock) (hat : v'.ownBlock = (V t).ownBlock ∨ v'.ownBlock = some wa.heap.size)
    (hy : 0 ≤ y ∧ y < rngB R t) (hb : ∀ s, s < R + 16 → (if s = t then (L t).length + 1 ≤ bnd' t else bnd s ≤ bnd' s)) :
    Nest w (w1.setCell (adr w.heap.size R t) v') R lock first (upd V t v') (upd L t (L t ++ [y])) bnd' := by
  have hsz := h.size
  have hws : wa.heap.size = wr.heap.size + 1 := by rcases hwa with rfl | rfl | rfl <;> simp
  have hwb : ∀ k, k < wr.heap.size → wa.heap[k]? = wr.heap[k]? := fun k hk => by
    rcases hwa with rfl | rfl | rfl
    · exact Below.heap_alloc _ _ _ hk
    · exact Below.heap_alloc wr o k hk
    · exact Below.heap_alloc wr.drew o k hk
  have hga : wr.grownBy wa none := ⟨by rcases hwa with rfl | rfl | rfl <;> rfl, by rcases hwa with rfl | rfl | rfl <;> rfl, by rcases hwa with rfl | rfl | rfl <;> rfl, by omega, fun k hk _ => hwb k hk⟩
  have howna : ∀ s, s < R + 16 → wa.ownsRow (w.heap.size + 6) 3 1 (V s) (L s).length (encI (L s)) := fun s hs => (h.own s hs).kept hga (by
    cases (V s).ownBlock with
    | none => exact .inl rfl
    | some k => exact .inr (by simp))
  have hlt : ∀ s, s < R + 16 → ∀ k, (V s).ownBlock = some k → w.heap.size + 6 ≤ k ∧ k < wr.heap.size := fun s hs => (h.own s hs).lt
  have hblk : ∀ k, k < w.heap.size + 6 → w1.heap[k]? = wr.heap[k]? := fun k hk => by
    rw [hg.block k (by omega) (fun e => by have := hlt t ht k e.symm; omega), hwb k (by omega)]
  obtain ⟨a1, a2, a3, a4, a5, a6⟩ := adr_block w.heap.size R t ht
  have hcell : ∀ b i, w.heap.size ≤ b → b < w.heap.size + 6 → b ≠ (adr w.heap.size R t).block → (w1.setCell (adr w.heap.size R t) v').cell? ⟨b, i, none⟩ = wr.cell? ⟨b, i, none⟩ := fun b i h1 h2 h3 => by
    refine World.cell?_of_block (w := wr) (a := ⟨b, i, none⟩) ?_
    show (w1.setCell _ _).heap[b]? = wr.heap[b]?
    rw [Below.heap_setCell _ _ _ _ h3, hblk b h2]
  have hvne : v'.ownBlock = none ∨ v'.ownBlock ≠ some (adr w.heap.size R t).block := by
    rcases hat with e | e
    · rw [e]
      cases e2 : (V t).ownBlock with
      | none => exact .inl rfl
      | some k => exact .inr (fun e3 => by simp at e3; have := hlt t ht k e2; omega)
    · rw [e]; exact .inr (fun e3 => by simp at e3; omega)
  have hdv : ∀ s, s < R + 16 → s ≠ t → ((V s).ownBlock = none ∨ (V s).ownBlock ≠ v'.ownBlock) ∧ (v'.ownBlock = none ∨ v'.ownBlock ≠ (V s).ownBlock) := fun s hs hne => by
    rcases hat with e | e
    · rw [e]; exact ⟨h.dist s t hs ht hne, h.dist t s ht hs (Ne.symm hne)⟩
    · rw [e]
      cases e2 : (V s).ownBlock with
      | none => exact ⟨.inl rfl, .inr (by simp)⟩
      | some k =>
        have := hlt s hs k e2
        exact ⟨.inr (by intro e3; simp at e3; omega), .inr (by intro e3; simp at e3; omega)⟩
  refine ⟨?_, ?_, fun b hb => ?_, fun b hb => ?_, h.f8, ?_, ?_, fun s hs => ?_, fun b i h1 h2 => ?_, fun s hs => ?_, fun r s hr hs hne => ?_, fun s hs => ?_, fun s hs => ?_⟩
  · refine Below.setCell ?_ (by omega) _
    have h1 : Below w.heap.size w wa := h.bel.grown hga (by omega) (fun k hk => by cases hk)
    exact h1.grown hg (by omega) (fun k hk => by have := hlt t ht k hk; omega)
  · have := hg.size; simp; omega
  · rw [hcell _ _ (by omega) (by omega) (by omega)]; exact h.rl b hb
  · rw [hcell _ _ (by omega) (by omega) (by omega)]; exact h.rf b hb
  · rw [hcell _ _ (by omega) (by omega) (by omega)]; exact h.p1
  · rw [hcell _ _ (by omega) (by omega) (by omega)]; exact h.p3
  · have hc1 : ∀ s, s < R + 16 → w1.cell? (adr w.heap.size R s) = some (V s) := fun s hs => by
      rw [← h.cell s hs]
      exact World.cell?_of_block (w := wr) (hblk _ (adr_block w.heap.size R s hs).2.1)
    by_cases e : s = t
    · subst e
      rw [upd_same]
      exact World.cell?_setCell_same _ _ _ (hc1 s hs)
    · rw [upd_ne _ _ e, World.cell?_setCell_other _ _ _ _ (adr_ne _ _ ht hs (Ne.symm e)), hc1 s hs]
  · have : (w1.setCell (adr w.heap.size R t) v').frozen? ⟨b, i, none⟩ = w1.frozen? ⟨b, i, none⟩ := by simp
    rw [this, ← h.frz b i h1 h2]
    exact World.frozen?_of_block (w := wr) (hblk b h2)
  · by_cases e : s = t
    · subst e
      rw [upd_same, upd_same, List.length_append]
      have := ho.kept (grown_setN (v := v')) hvne
      simpa [encI] using this
    · rw [upd_ne _ _ e, upd_ne _ _ e]
      refine ((howna s hs).kept hg (h.dist s t hs ht e)).kept grown_setN ?_
      cases e2 : (V s).ownBlock with
      | none => exact .inl rfl
      | some k => exact .inr (fun e3 => by simp at e3; have := hlt s hs k e2; omega)
  · by_cases e1 : r = t
    · subst e1
      rw [upd_same, upd_ne _ _ (Ne.symm hne)]
      exact (hdv s hs (Ne.symm hne)).2
    · by_cases e2 : s = t
      · subst e2
        rw [upd_same, upd_ne _ _ e1]
        exact (hdv r hr e1).1
      · rw [upd_ne _ _ e1, upd_ne _ _ e2]
        exact h.dist r s hr hs hne
  · have hbs := hb s hs
    by_cases e : s = t
    · subst e
      rw [if_pos rfl] at hbs
      rw [upd_same, List.length_append]
      simpa using hbs
    · rw [if_neg e] at hbs
      rw [upd_ne _ _ e]
      exact Nat.le_trans (h.len s hs) hbs
  · by_cases e : s = t
    · subst e
      rw [upd_same]
      intro x hx
      rcases List.mem_append.1 hx with hx | hx
      · exact h.rng s hs x hx
      · obtain rfl : x = y := by simpa using hx
        exact hy
    · rw [upd_ne _ _ e]; exact h.rng s hs

theorem heap_alloc_if (w : World) (A : Obj) (n : Nat) : (w.alloc A).heap[n]? = if n = w.heap.size then some A else w.heap[n]? := Array.getElem?_push
theorem size_alloc1 (w : World) (A : Obj) : (w.alloc A).heap.size = w.heap.size + 1 := by simp
theorem frz_of {w : World} {b o : Nat} {cs : Array Value} {t : TypeId} (h : w.heap[b]? = some (.cells cs t (0, 0))) : w.frozen? ⟨b, o, none⟩ = false := by simp [World.frozen?, h]

theorem blocks6 (w : World) (A B C D E F : Obj) : ((((((w.alloc A).alloc B).alloc C).alloc D).alloc E).alloc F).heap[w.heap.size]? = some A ∧ ((((((w.alloc A).alloc B).alloc C).alloc D).alloc E).alloc F).heap[w.heap.size + 1]? = some B ∧ ((((((w.alloc A).alloc B).alloc C).alloc D).alloc E).alloc F).heap[w.heap.size + 2]? = some C ∧
    ((((((w.alloc A).alloc B).alloc C).alloc D).alloc E).alloc F).heap[w.heap.size + 3]? = some D ∧ ((((((w.alloc A).alloc B).alloc C).alloc D).alloc E).alloc F).heap[w.heap.size + 4]? = some E ∧ ((((((w.alloc A).alloc B).alloc C).alloc D).alloc E).alloc F).heap[w.heap.size + 5]? = some F := by
  refine ⟨?_, ?_, ?_, ?_, ?_, ?_⟩
  all_goals
    simp only [heap_alloc_if, size_alloc1, Nat.add_assoc]
    simp

theorem made2 (R i : Nat) (h : i < R * 2) : (madeCells #[.int .i64 0, .int .i64 0] (R * 2))[i]? = some (.int .i64 0) := by
  simp [madeCells, h]
  rcases (show i % 2 = 0 ∨ i % 2 = 1 by omega) with e | e <;> simp [e]
theorem made1 (z : Value) (R i : Nat) (h : i < R) : (madeCells #[z] R)[i]? = some z := by
  simp [madeCells, h]
  simp [Nat.mod_one]

theorem nest_start (w : World) (R : Nat) (bnd : Nat → Nat) :
    Nest w ((((((w.alloc (Obj.cells (madeCells #[Value.int IntKind.i64 0, Value.int IntKind.i64 0] (R * 2)) 26)).alloc
                    (Obj.cells #[Value.slice (some { block := w.heap.size, off := 0 }) R R] 23)).alloc
                (Obj.cells (madeCells #[Value.slice none 0 0] R) 27)).alloc
            (Obj.cells #[Value.slice (some { block := w.heap.size + 2, off := 0 }) R R] 24)).alloc (Obj.cells (madeCells #[Value.slice none 0 0] 8) 27)).alloc (Obj.cells (madeCells #[Value.slice none 0 0] 8) 27))
      R (fun _ => 0) (fun _ => 0) (fun _ => .slice none 0 0) (fun _ => []) bnd := by
  obtain ⟨b0, b1, b2, b3, b4, b5⟩ := blocks6 w (Obj.cells (madeCells #[Value.int IntKind.i64 0, Value.int IntKind.i64 0] (R * 2)) 26) (Obj.cells #[Value.slice (some { block := w.heap.size, off := 0 }) R R] 23) (Obj.cells (madeCells #[Value.slice none 0 0] R) 27) (Obj.cells #[Value.slice (some { block := w.heap.size + 2, off := 0 }) R R] 24) (Obj.cells (madeCells #[Value.slice none 0 0] 8) 27) (Obj.cells (madeCells #[Value.slice none 0 0] 8) 27)
  refine ⟨?_, by simp, fun b hb => ?_, fun b hb => ?_, fun b hb => by omega, ?_, ?_, fun t ht => ?_, fun b o h1 h2 => ?_, fun t ht => World.ownsRow_nil _ _ _ _, fun s t _ _ _ => .inl rfl, fun t ht => by simp, fun t ht x hx => by simp at hx⟩
  · exact ((((((Below.refl _ _).alloc (Nat.le_refl _) _).alloc (by simp) _).alloc (by simp; omega) _).alloc (by simp; omega) _).alloc (by simp; omega) _).alloc (by simp; omega) _
  · rw [cell_of_row _ _ _ _ 26 (0, 0) b0]; exact made2 R _ (by omega)
  · rw [cell_of_row _ _ _ _ 26 (0, 0) b0]; exact made2 R _ (by omega)
  · rw [cell_of_row _ _ _ _ 23 (0, 0) b1]; rfl
  · rw [cell_of_row _ _ _ _ 24 (0, 0) b3]; rfl
  · unfold adr
    split
    · rw [cell_of_row _ _ _ _ 27 (0, 0) b2]; exact made1 _ R _ (by omega)
    · split
      · rw [cell_of_row _ _ _ _ 27 (0, 0) b4]; exact made1 _ 8 _ (by omega)
      · rw [cell_of_row _ _ _ _ 27 (0, 0) b5]; exact made1 _ 8 _ (by omega)
  · rcases (show b = w.heap.size ∨ b = w.heap.size + 1 ∨ b = w.heap.size + 2 ∨ b = w.heap.size + 3 ∨ b = w.heap.size + 4 ∨ b = w.heap.size + 5 by omega) with rfl | rfl | rfl | rfl | rfl | rfl
    · exact frz_of b0
    · exact frz_of b1
    · exact frz_of b2
    · exact frz_of b3
    · exact frz_of b4
    · exact frz_of b5

/-- runs[k] = lockRun{l, f}. -/
theorem Nest.run {w wr wa : World} {R : Nat} {lock : Nat → Int} {first : Nat → Nat} {V : Nat → Value} {L : Nat → List Int} {bnd bnd' : Nat → Nat} {k f : Nat} {l : Int}
    (h : Nest w wr R lock first V L bnd) (hk : k < R) (hf : f < 8) (hwa : wa.heap = ((wr.setCell ⟨w.heap.size, k * 2, none⟩ (.int .i64 l)).setCell ⟨w.heap.size, k * 2 + 1, none⟩ (.int .i64 f)).heap) (ho : wa.os = wr.os) (htp : wa.tape = wr.tape) (hu : wa.output = wr.output) (hb : ∀ s, s < R + 16 → bnd s ≤ bnd' s) :
    Nest w wa R (upd lock k l) (upd first k f) V L bnd' := by
  have hsz := h.size
  have hs : wa.heap.size = wr.heap.size := by rw [hwa]; simp
  have hblk : ∀ b, b ≠ w.heap.size → wa.heap[b]? = wr.heap[b]? := fun b hb => by
    rw [hwa, Below.heap_setCell _ _ _ _ hb, Below.heap_setCell _ _ _ _ hb]
  have hcell : ∀ b o, b ≠ w.heap.size → wa.cell? ⟨b, o, none⟩ = wr.cell? ⟨b, o, none⟩ := fun b o hb => World.cell?_of_block (w := wr) (a := ⟨b, o, none⟩) (hblk b hb)
  have hself : ∀ a : Addr, wa.cell? a = ((wr.setCell ⟨w.heap.size, k * 2, none⟩ (.int .i64 l)).setCell ⟨w.heap.size, k * 2 + 1, none⟩ (.int .i64 f)).cell? a := fun a => by unfold World.cell?; rw [hwa]
  have hfr : ∀ a : Addr, wa.frozen? a = wr.frozen? a := fun a => by
    have : wa.frozen? a = ((wr.setCell ⟨w.heap.size, k * 2, none⟩ (.int .i64 l)).setCell ⟨w.heap.size, k * 2 + 1, none⟩ (.int .i64 f)).frozen? a := by unfold World.frozen?; rw [hwa]
    rw [this]; simp
  refine ⟨⟨ho.trans h.bel.os, htp.trans h.bel.tape, hu.trans h.bel.output, by have := h.bel.size; omega, fun b hb => (hblk b (by omega)).trans (h.bel.block b hb)⟩, by omega, fun b hb => ?_, fun b hb => ?_, fun b hb => ?_, ?_, ?_, fun t ht => ?_, fun b o h1 h2 => ?_, fun t ht => ?_, h.dist, fun t ht => Nat.le_trans (h.len t ht) (hb t ht), h.rng⟩
  · rw [hself, World.cell?_setCell_other _ _ _ _ (by simp <;> omega)]
    by_cases e : b = k
    · subst e
      rw [upd_same]; exact World.cell?_setCell_same _ _ _ (h.rl b hb)
    · rw [upd_ne _ _ e, World.cell?_setCell_other _ _ _ _ (by simp <;> omega)]; exact h.rl b hb
  · rw [hself]
    by_cases e : b = k
    · subst e
      rw [upd_same]
      refine World.cell?_setCell_same _ _ _ (u := .int .i64 (first b)) ?_
      rw [World.cell?_setCell_other _ _ _ _ (by simp)]; exact h.rf b hb
    · rw [upd_ne _ _ e, World.cell?_setCell_other _ _ _ _ (by simp <;> omega), World.cell?_setCell_other _ _ _ _ (by simp <;> omega)]; exact h.rf b hb
  · by_cases e : b = k
    · subst e; rw [upd_same]; exact hf
    · rw [upd_ne _ _ e]; exact h.f8 b hb
  · rw [hcell _ _ (by omega)]; exact h.p1
  · rw [hcell _ _ (by omega)]; exact h.p3
  · rw [← h.cell t ht]
    exact World.cell?_of_block (w := wr) (hblk _ (adr_block w.heap.size R t ht).2.2.1)
  · rw [hfr]; exact h.frz b o h1 h2
  · refine (h.own t ht).kept (row := some w.heap.size) ⟨ho, htp, hu, by omega, fun b _ hne => hblk b (fun e => hne (by rw [e]))⟩ ?_
    cases e2 : (V t).ownBlock with
    | none => exact .inl rfl
    | some j => exact .inr (fun e3 => by simp at e3; have := (h.own t ht).lt j e2; omega)

theorem Nest.mono {w wr : World} {R : Nat} {lock : Nat → Int} {first : Nat → Nat} {V : Nat → Value} {L : Nat → List Int} {bnd bnd' : Nat → Nat} (h : Nest w wr R lock first V L bnd) (hb : ∀ s, s < R + 16 → bnd s ≤ bnd' s) : Nest w wr R lock first V L bnd' :=
  ⟨h.bel, h.size, h.rl, h.rf, h.f8, h.p1, h.p3, h.cell, h.frz, h.own, h.dist, fun t ht => Nat.le_trans (h.len t ht) (hb t ht), h.rng⟩

theorem Nest.after {w wr wa w1 : World} {R : Nat} {lock : Nat → Int} {first : Nat → Nat} {V : Nat → Value} {L : Nat → List Int} {bnd : Nat → Nat} {t : Nat} {o : Obj}
    (h : Nest w wr R lock first V L bnd) (ht : t < R + 16) (hwa : wa = wr.alloc o ∨ wa = (wr.alloc o).drew ∨ wa = wr.drew.alloc o) (hg : wa.grownBy w1 (V t).ownBlock) (b i : Nat) (hb : b < w.heap.size + 6) :
    w1.cell? ⟨b, i, none⟩ = wr.cell? ⟨b, i, none⟩ ∧ w1.frozen? ⟨b, i, none⟩ = wr.frozen? ⟨b, i, none⟩ := by
  have hsz := h.size
  have hws : wa.heap.size = wr.heap.size + 1 := by rcases hwa with rfl | rfl | rfl <;> simp
  have hwb : ∀ k, k < wr.heap.size → wa.heap[k]? = wr.heap[k]? := fun k hk => by
    rcases hwa with rfl | rfl | rfl
    · exact Below.heap_alloc _ _ _ hk
    · exact Below.heap_alloc wr o k hk
    · exact Below.heap_alloc wr.drew o k hk
  have hblk : w1.heap[b]? = wr.heap[b]? := by
    rw [hg.block b (by omega) (fun e => by have := (h.own t ht).lt b e.symm; omega), hwb b (by omega)]
  exact ⟨World.cell?_of_block (w := wr) (a := ⟨b, i, none⟩) hblk, World.frozen?_of_block (w := wr) (a := ⟨b, i, none⟩) hblk⟩

theorem adr_cl (H R k : Nat) (h : k < R) : adr H R k = ⟨H + 2, k, none⟩ := by simp [adr, h]
theorem adr_fo (H R f : Nat) (h : f < 8) : adr H R (R + f) = ⟨H + 4, f, none⟩ := by simp [adr, h]
theorem adr_co (H R f : Nat) (h : f < 8) : adr H R (R + 8 + f) = ⟨H + 5, f, none⟩ := by
  unfold adr
  rw [if_neg (by omega), if_neg (by omega), show R + 8 + f - R - 8 = f by omega]

/-- How long inner slice t may be ahead of round k; within round k, ahead of its round j. -/
def bnd0 (R k t : Nat) : Nat := if t < R then (if t < k then 8 else 0) else k
def bnd1 (R k j t : Nat) : Nat := if t < R then (if t < k then 8 else if t = k then j else 0) else if t < R + 8 then k + 1 else if t < R + 8 + j then k + 1 else k
def bndM (R k j t : Nat) : Nat := if t = k then j + 1 else bnd1 R k j t

theorem bnd_fo {R k f n : Nat} (hk : k < R) (hf : f < 8) (hn : n ≤ k) : ∀ s, s < R + 16 → (if s = R + f then n + 1 ≤ bnd1 R k 0 (R + f) else bnd0 R k s ≤ bnd1 R k 0 s) := by
  intro s hs
  unfold bnd0 bnd1
  repeat' split
  all_goals omega
theorem bnd_cl {R k j n : Nat} (hk : k < R) (hn : n ≤ j) : ∀ s, s < R + 16 → (if s = k then n + 1 ≤ bndM R k j k else bnd1 R k j s ≤ bndM R k j s) := by
  intro s hs
  unfold bndM
  repeat' split
  all_goals omega
theorem bnd_co {R k j n : Nat} (hk : k < R) (hj : j < 8) (hn : n ≤ k) : ∀ s, s < R + 16 → (if s = R + 8 + j then n + 1 ≤ bnd1 R k (j + 1) (R + 8 + j) else bndM R k j s ≤ bnd1 R k (j + 1) s) := by
  intro s hs
  unfold bndM bnd1
  repeat' split
  all_goals omega
theorem bnd_no {R k j : Nat} : ∀ s, s < R + 16 → bnd1 R k j s ≤ bnd1 R k (j + 1) s := by
  intro s hs
  unfold bnd1
  repeat' split
  all_goals omega
theorem bnd_end {R k : Nat} (hk : k < R) : ∀ s, s < R + 16 → bnd1 R k 8 s ≤ bnd0 R (k + 1) s := by
  intro s hs
  unfold bnd0 bnd1
  repeat' split
  all_goals omega
end Go.Proofs.Ybulkaiie
