/-
  (*Register).layout, reading: the state between two fields; what each field does; the four ways.
-/
import Derived.Test.YbulkaigoCLayout
namespace Go.Proofs.Ybulkaigo
open Go.RowKit
set_option linter.unusedSimpArgs false

/-- THE STATE OF A READING CODEC (block cb) AND ITS MESSAGE (block mb): u bytes have been taken of the l that came in. -/
structure Rd (w : World) (cb mb b off l c u : Nat) (Z R : Nat → Value) (ev : Value) : Prop where
  c0 : w.cell? ⟨cb, 0, none⟩ = some (.bool true)
  c1 : ∃ A, w.cell? ⟨cb, 1, none⟩ = some (.slice A (l - u) (c - u)) ∧ (0 < l - u → A = some ⟨b, off + u, none⟩)
  c3 : w.cell? ⟨cb, 3, none⟩ = some ev
  f1 : w.frozen? ⟨cb, 1, none⟩ = false
  f3 : w.frozen? ⟨cb, 3, none⟩ = false
  row : w.rowIs mb 61 64 R
  src : ∀ j, j < l → w.cell? ⟨b, off + j, none⟩ = some (Z j)
  one : ∀ j, j < l → (Z j).oneCell' = true
  bm : l = 0 ∨ b < mb
  mc : mb < cb
  sz : cb < w.heap.size
  lc : l ≤ c

/-- Bytes laid over a row from place u on. -/
theorem laid_at {l : List Value} {u n : Nat} {Z R : Nat → Value} (hl : l.length = 64) (hR : ∀ i, i < 64 → l[i]? = some (R i)) (hun : u + n ≤ 64) (i : Nat) (hi : i < 64) :
    (l.take u ++ ((List.range n).map (fun j => Z (u + j)) ++ l.drop (u + ((List.range n).map fun j => Z (u + j)).length)))[i]? = some (if u ≤ i ∧ i < u + n then Z i else R i) := by
  have e1 : (l.take u).length = u := by simp; omega
  have e2 : ((List.range n).map fun j => Z (u + j)).length = n := by simp
  rw [List.getElem?_append, e1]
  by_cases h1 : i < u
  · rw [if_pos h1, if_neg (by omega), List.getElem?_take, if_pos h1]
    exact hR i hi
  · rw [if_neg h1, List.getElem?_append, e2]
    by_cases h2 : i < u + n
    · rw [if_pos (by omega), if_pos (by omega), List.getElem?_map, List.getElem?_range (by omega)]
      simp
      rw [show u + (i - u) = i from by omega]
    · rw [if_neg (by omega), if_neg (by omega), List.getElem?_drop, show u + n + (i - u - n) = i from by omega]
      exact hR i hi

section
variable {w : World} {cb mb b off l c u : Nat} {Z R : Nat → Value} {ev : Value}

/-- A field of n bytes, there are enough. -/
theorem rd_full (h : Rd w cb mb b off l c u Z R .nilIface) (n : Nat) (hn : n ≤ 4096) (hu : u + n ≤ l) (hn0 : 0 < n) (hun : u + n ≤ 64) :
    Calls Yba.prog 15 #[.pointer (some ⟨cb, 0, none⟩), .slice (some ⟨mb, u, none⟩) n n] w fun e w' => e = .returned (.tuple #[]) ∧ Below mb w w' ∧ Rd w' cb mb b off l c (u + n) Z (fun j => if u ≤ j ∧ j < u + n then Z j else R j) .nilIface := by
  obtain ⟨A, hA, hA'⟩ := h.c1
  obtain rfl := hA' (by omega)
  obtain ⟨cur, hb, hs, hcur⟩ := h.row
  have hbm : b < mb := by rcases h.bm with h0 | h0 <;> omega
  have hmc := h.mc
  have hcs : ((List.range n).map fun j => Z (u + j)).length = n := by simp
  refine (bytes_full w cb mb u n (l - u) (c - u) b (off + u) _ (by omega) (by have := h.lc; omega) hn h.c0 h.c3 hA h.f1 rfl cur hb (by omega) (by omega) ((List.range n).map fun j => Z (u + j)) hcs ?_ ?_ (by omega)).mono ?_
  · intro v hv
    obtain ⟨j, hj, rfl⟩ := List.mem_map.1 hv
    exact h.one _ (by have := List.mem_range.1 hj; omega)
  · intro j v hj
    have hj' : j < n := by have := (List.getElem?_eq_some_iff.1 hj).1; simpa using this
    rw [List.getElem?_map, List.getElem?_range hj'] at hj
    simp at hj
    rw [Nat.add_assoc, h.src (u + j) (by omega), hj]
  rintro e w' ⟨rfl, rfl⟩
  have hmm : (w.setCell ⟨cb, 1, none⟩ (.slice (if c - u = n then some ⟨b, off + u, none⟩ else some ⟨b, off + u + n, none⟩) (l - u - n) (c - u - n))).heap[mb]? = some (.cells cur 61 (0, 0)) :=
    (Below.heap_setCell _ _ _ _ (by simp; omega)).trans hb
  have hcell : ∀ x : Addr, x.block ≠ mb → x ≠ ⟨cb, 1, none⟩ → ((w.setCell ⟨cb, 1, none⟩ (.slice (if c - u = n then some ⟨b, off + u, none⟩ else some ⟨b, off + u + n, none⟩) (l - u - n) (c - u - n))).setRow mb (cur.toList.take u ++ ((List.range n).map (fun j => Z (u + j)) ++ cur.toList.drop (u + ((List.range n).map fun j => Z (u + j)).length))).toArray).cell? x = w.cell? x := fun x h1 h2 => by
    rw [cell_setRow_other _ _ _ _ h1, World.cell?_setCell_other _ _ _ _ (fun e => h2 e.symm)]
  have hfr : ∀ i, ((w.setCell ⟨cb, 1, none⟩ (.slice (if c - u = n then some ⟨b, off + u, none⟩ else some ⟨b, off + u + n, none⟩) (l - u - n) (c - u - n))).setRow mb (cur.toList.take u ++ ((List.range n).map (fun j => Z (u + j)) ++ cur.toList.drop (u + ((List.range n).map fun j => Z (u + j)).length))).toArray).frozen? ⟨cb, i, none⟩ = w.frozen? ⟨cb, i, none⟩ := fun i => by
    rw [World.frozen?_of_block (setRow_other _ _ _ _ (by show cb ≠ mb; omega)), World.frozen?_setCell]
  refine ⟨rfl, ?_, ?_⟩
  · exact below_setRow ((Below.refl mb w).setCell (by simp; omega) _) (Nat.le_refl _) _
  · refine ⟨?_, ?_, ?_, ?_, ?_, ?_, ?_, h.one, h.bm, h.mc, by simpa using h.sz, h.lc⟩
    · rw [hcell _ (by simp; omega) (by simp)]; exact h.c0
    · refine ⟨if c - u = n then some ⟨b, off + u, none⟩ else some ⟨b, off + u + n, none⟩, ?_, fun hpos => ?_⟩
      · rw [cell_setRow_other _ _ _ _ (by simp; omega), World.cell?_setCell_same _ _ _ hA, Nat.sub_sub, Nat.sub_sub]
      · have := h.lc
        rw [if_neg (by omega), Nat.add_assoc]
    · rw [hcell _ (by simp; omega) (by simp)]; exact h.c3
    · rw [hfr]; exact h.f1
    · rw [hfr]; exact h.f3
    · refine ⟨_, setRow_heap _ _ _ _ _ _ hmm, ?_, fun i hi => ?_⟩
      · simp; omega
      · have := laid_at (Z := Z) (R := R) (u := u) (n := n) (l := cur.toList) (by simpa using hs) (fun i hi => by simpa using hcur i hi) hun i hi
        simpa using this
    · intro j hj
      rw [hcell _ (by simp; omega) (by intro e; injection e; omega)]
      exact h.src j hj


/-- A field of n bytes, fewer are left: an error is laid. -/
theorem rd_short (h : Rd w cb mb b off l c u Z R .nilIface) (o n : Nat) (hn : n ≤ 4096) (hu : l - u < n) :
    Calls Yba.prog 15 #[.pointer (some ⟨cb, 0, none⟩), .slice (some ⟨mb, o, none⟩) n n] w fun e w' => e = .returned (.tuple #[]) ∧ Below mb w w' ∧ ∃ x, Rd w' cb mb b off l c u Z R (.iface 76 x) := by
  obtain ⟨A, hA, hA'⟩ := h.c1
  have hmc := h.mc
  have hsz := h.sz
  refine (bytes_short w cb mb o n (l - u) (c - u) A hu hn hsz h.c0 h.c3 hA h.f3).mono ?_
  rintro e w' ⟨rfl, S, rfl⟩
  have hcell : ∀ x : Addr, x.block < w.heap.size → x ≠ ⟨cb, 3, none⟩ → ((w.setCell ⟨cb, 3, none⟩ (.iface 76 (.pointer (some ⟨w.heap.size, 0, none⟩)))).alloc (.cells #[.string S] 78)).cell? x = w.cell? x := fun x h1 h2 => by
    rw [World.cell?_alloc_lt _ _ _ (by simpa using h1), World.cell?_setCell_other _ _ _ _ (fun e => h2 e.symm)]
  have hfr : ∀ i, ((w.setCell ⟨cb, 3, none⟩ (.iface 76 (.pointer (some ⟨w.heap.size, 0, none⟩)))).alloc (.cells #[.string S] 78)).frozen? ⟨cb, i, none⟩ = w.frozen? ⟨cb, i, none⟩ := fun i => by
    rw [World.frozen?_of_block (Below.heap_alloc _ _ _ (by simpa using hsz)), World.frozen?_setCell]
  refine ⟨rfl, ((Below.refl mb w).setCell (by simp; omega) _).alloc (by simp; omega) _, .pointer (some ⟨w.heap.size, 0, none⟩), ?_⟩
  refine ⟨?_, ⟨A, ?_, hA'⟩, ?_, ?_, ?_, (h.row.setOther (by simp; omega) _).alloc _, ?_, h.one, h.bm, h.mc, by simp; omega, h.lc⟩
  · rw [hcell _ (by simpa using hsz) (by simp)]; exact h.c0
  · rw [hcell _ (by simpa using hsz) (by simp)]; exact hA
  · rw [World.cell?_alloc_lt _ _ _ (by simpa using hsz)]; exact World.cell?_setCell_same _ _ _ h.c3
  · rw [hfr]; exact h.f1
  · rw [hfr]; exact h.f3
  · intro j hj
    have hbm : b < mb := by rcases h.bm with h0 | h0 <;> omega
    rw [hcell _ (by simp; omega) (by intro e; injection e; omega)]
    exact h.src j hj

/-- A field behind an error. -/
theorem rd_err {T : TypeId} {x : Value} (h : Rd w cb mb b off l c u Z R (.iface T x)) (o n : Nat) (hn : n ≤ 4096) :
    Calls Yba.prog 15 #[.pointer (some ⟨cb, 0, none⟩), .slice (some ⟨mb, o, none⟩) n n] w fun e w' => e = .returned (.tuple #[]) ∧ w' = w :=
  bytes_err w cb mb o n hn T x h.c0 h.c3

theorem Rd.congr {R' : Nat → Value} (h : Rd w cb mb b off l c u Z R ev) (e : ∀ j, j < 64 → R j = R' j) : Rd w cb mb b off l c u Z R' ev := { h with row := h.row.congr e }

set_option maxHeartbeats 400000 in
set_option maxRecDepth 100000 in
theorem layout_err {T : TypeId} {x : Value} (h : Rd w cb mb b off l c u Z R (.iface T x)) :
    Calls Yba.prog 12 #[.pointer (some ⟨mb, 0, none⟩), .pointer (some ⟨cb, 0, none⟩)] w fun e w' => e = .returned (.tuple #[]) ∧ w' = w := by
  go_enter Yba.func12, Yba.ntmps12
  go_wp2_with fail
  refine (rd_err h 0 32 (by omega)).mono ?_
  rintro e w1 ⟨rfl, hw1⟩
  subst hw1
  go_wp2_with fail
  refine (rd_err h 32 16 (by omega)).mono ?_
  rintro e w2 ⟨rfl, hw2⟩
  subst hw2
  go_wp2_with fail
  refine (rd_err h 48 16 (by omega)).mono ?_
  rintro e w3 ⟨rfl, hw3⟩
  subst hw3
  go_wp2_with fail
  go_end0
  exact ⟨rfl, rfl⟩

set_option maxHeartbeats 400000 in
set_option maxRecDepth 100000 in
theorem layout_r0 (h : Rd w cb mb b off l c 0 Z R .nilIface) (h2 : l < 32) :
    Calls Yba.prog 12 #[.pointer (some ⟨mb, 0, none⟩), .pointer (some ⟨cb, 0, none⟩)] w fun e w' => e = .returned (.tuple #[]) ∧ Below mb w w' ∧ ∃ x, Rd w' cb mb b off l c 0 Z (fun j => if j < 0 then Z j else R j) (.iface 76 x) := by
  go_enter Yba.func12, Yba.ntmps12
  go_wp2_with fail
  refine (rd_short h 0 32 (by omega) (by omega)).mono ?_
  rintro e w1 ⟨rfl, b1, x, h1⟩
  have H1 := (show Hid _ from h1)
  have B1 := (show Hid _ from b1)
  clear h1 b1
  go_wp2_with fail
  refine (rd_err H1.out 32 16 (by omega)).mono ?_
  rintro e w2 ⟨rfl, hw2⟩
  subst hw2
  go_wp2_with fail
  refine (rd_err H1.out 48 16 (by omega)).mono ?_
  rintro e w3 ⟨rfl, hw3⟩
  subst hw3
  go_wp2_with fail
  go_end0
  refine ⟨rfl, B1.out, x, H1.out.congr fun j hj => ?_⟩
  simp only [Nat.zero_le, true_and, Nat.zero_add, Nat.not_lt_zero, if_false]

set_option maxHeartbeats 400000 in
set_option maxRecDepth 100000 in
theorem layout_r32 (h : Rd w cb mb b off l c 0 Z R .nilIface) (h1 : 32 ≤ l) (h2 : l < 48) :
    Calls Yba.prog 12 #[.pointer (some ⟨mb, 0, none⟩), .pointer (some ⟨cb, 0, none⟩)] w fun e w' => e = .returned (.tuple #[]) ∧ Below mb w w' ∧ ∃ x, Rd w' cb mb b off l c 32 Z (fun j => if j < 32 then Z j else R j) (.iface 76 x) := by
  go_enter Yba.func12, Yba.ntmps12
  go_wp2_with fail
  refine (rd_full h 32 (by omega) (by omega) (by omega) (by omega)).mono ?_
  rintro e w1 ⟨rfl, b1, h1⟩
  have H1 := (show Hid _ from h1)
  have B1 := (show Hid _ from b1)
  clear h1 b1
  go_wp2_with fail
  refine (rd_short H1.out 32 16 (by omega) (by omega)).mono ?_
  rintro e w2 ⟨rfl, b2, x, h2⟩
  have H2 := (show Hid _ from h2)
  have B2 := (show Hid _ from b2)
  clear h2 b2
  go_wp2_with fail
  refine (rd_err H2.out 48 16 (by omega)).mono ?_
  rintro e w3 ⟨rfl, hw3⟩
  subst hw3
  go_wp2_with fail
  go_end0
  refine ⟨rfl, (B1.out.trans B2.out), x, H2.out.congr fun j hj => ?_⟩
  by_cases q1 : j < 32
  · simp [show j < 48 by omega, show j < 64 by omega, q1, show ¬ 32 ≤ j by omega, show ¬ 48 ≤ j by omega]
  · by_cases q2 : j < 48
    · simp [q1, q2, show 32 ≤ j by omega, show j < 64 by omega, show ¬ 48 ≤ j by omega]
    · simp [q1, q2, show 32 ≤ j by omega, show 48 ≤ j by omega, hj]

set_option maxHeartbeats 400000 in
set_option maxRecDepth 100000 in
theorem layout_r48 (h : Rd w cb mb b off l c 0 Z R .nilIface) (h1 : 48 ≤ l) (h2 : l < 64) :
    Calls Yba.prog 12 #[.pointer (some ⟨mb, 0, none⟩), .pointer (some ⟨cb, 0, none⟩)] w fun e w' => e = .returned (.tuple #[]) ∧ Below mb w w' ∧ ∃ x, Rd w' cb mb b off l c 48 Z (fun j => if j < 48 then Z j else R j) (.iface 76 x) := by
  go_enter Yba.func12, Yba.ntmps12
  go_wp2_with fail
  refine (rd_full h 32 (by omega) (by omega) (by omega) (by omega)).mono ?_
  rintro e w1 ⟨rfl, b1, h1⟩
  have H1 := (show Hid _ from h1)
  have B1 := (show Hid _ from b1)
  clear h1 b1
  go_wp2_with fail
  refine (rd_full H1.out 16 (by omega) (by omega) (by omega) (by omega)).mono ?_
  rintro e w2 ⟨rfl, b2, h2⟩
  have H2 := (show Hid _ from h2)
  have B2 := (show Hid _ from b2)
  clear h2 b2
  go_wp2_with fail
  refine (rd_short H2.out 48 16 (by omega) (by omega)).mono ?_
  rintro e w3 ⟨rfl, b3, x, h3⟩
  have H3 := (show Hid _ from h3)
  have B3 := (show Hid _ from b3)
  clear h3 b3
  go_wp2_with fail
  go_end0
  refine ⟨rfl, ((B1.out.trans B2.out).trans B3.out), x, H3.out.congr fun j hj => ?_⟩
  by_cases q1 : j < 32
  · simp [show j < 48 by omega, show j < 64 by omega, q1, show ¬ 32 ≤ j by omega, show ¬ 48 ≤ j by omega]
  · by_cases q2 : j < 48
    · simp [q1, q2, show 32 ≤ j by omega, show j < 64 by omega, show ¬ 48 ≤ j by omega]
    · simp [q1, q2, show 32 ≤ j by omega, show 48 ≤ j by omega, hj]

set_option maxHeartbeats 400000 in
set_option maxRecDepth 100000 in
theorem layout_r64 (h : Rd w cb mb b off l c 0 Z R .nilIface) (h1 : 64 ≤ l) :
    Calls Yba.prog 12 #[.pointer (some ⟨mb, 0, none⟩), .pointer (some ⟨cb, 0, none⟩)] w fun e w' => e = .returned (.tuple #[]) ∧ Below mb w w' ∧ Rd w' cb mb b off l c 64 Z (fun j => if j < 64 then Z j else R j) .nilIface := by
  go_enter Yba.func12, Yba.ntmps12
  go_wp2_with fail
  refine (rd_full h 32 (by omega) (by omega) (by omega) (by omega)).mono ?_
  rintro e w1 ⟨rfl, b1, h1⟩
  have H1 := (show Hid _ from h1)
  have B1 := (show Hid _ from b1)
  clear h1 b1
  go_wp2_with fail
  refine (rd_full H1.out 16 (by omega) (by omega) (by omega) (by omega)).mono ?_
  rintro e w2 ⟨rfl, b2, h2⟩
  have H2 := (show Hid _ from h2)
  have B2 := (show Hid _ from b2)
  clear h2 b2
  go_wp2_with fail
  refine (rd_full H2.out 16 (by omega) (by omega) (by omega) (by omega)).mono ?_
  rintro e w3 ⟨rfl, b3, h3⟩
  have H3 := (show Hid _ from h3)
  have B3 := (show Hid _ from b3)
  clear h3 b3
  go_wp2_with fail
  go_end0
  refine ⟨rfl, ((B1.out.trans B2.out).trans B3.out), H3.out.congr fun j hj => ?_⟩
  by_cases q1 : j < 32
  · simp [show j < 48 by omega, show j < 64 by omega, q1, show ¬ 32 ≤ j by omega, show ¬ 48 ≤ j by omega]
  · by_cases q2 : j < 48
    · simp [q1, q2, show 32 ≤ j by omega, show j < 64 by omega, show ¬ 48 ≤ j by omega]
    · simp [q1, q2, show 32 ≤ j by omega, show 48 ≤ j by omega, hj]

end
end Go.Proofs.Ybulkaigo
