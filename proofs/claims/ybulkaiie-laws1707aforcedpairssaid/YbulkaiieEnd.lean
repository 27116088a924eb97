/-
  Clone, SortFunc, Equal on rows of pairs.
-/
import Derived.Test.YbulkaiieLays
import Derived.Test.YbulkaiieTail
import Derived.Shelf.SlSortCmp.NoneTotal
namespace Go.Proofs.Ybulkaiie
open Go.RowKit Go.Sort
set_option linter.unusedSimpArgs false
set_option linter.unusedVariables false

def FpS (w : World) (v : Value) (D : List Fp) : Prop :=
  (v = .slice none 0 0 ∧ D = []) ∨ ∃ g cap, v = .slice (some ⟨g, 0, none⟩) D.length cap ∧ g < w.heap.size ∧ HoldsK encFp 3 w g 0 D.toArray

theorem fpS_of_own {w : World} {base : Nat} {v : Value} {D : List Fp} (h : w.ownsRow base 59 3 v D.length (D.flatMap encFp)) : FpS w v D := by
  have hlt := h.lt
  obtain ⟨hl, ⟨rfl, h0⟩ | ⟨g, cap, cur, rfl, h1, h2, h3, h4, h5, h6⟩⟩ := h
  · exact .inl ⟨rfl, by simpa using h0⟩
  · refine .inr ⟨g, cap, rfl, (hlt g rfl).2, ?_⟩
    intro t ht
    have ht' : t < D.length * 3 := by simpa using ht
    refine ⟨?_, by simp [World.frozen?, h2]⟩
    rw [Nat.zero_add, cell_of_row w g t cur 59 (0, 0) h2, get_flatK _ _ _ t (by simpa using ht')]
    have e1 : cur[t]? = (D.flatMap encFp)[t]? := by
      rw [← h6, List.getElem?_take_of_lt (by omega), Array.getElem?_toList]
    have hd : t / 3 < D.length := by omega
    have e2 := flat_get D (t / 3) (t % 3) hd (by omega)
    rw [show t / 3 * 3 + t % 3 = t by omega] at e2
    rw [e1, e2]
    have e3 : D.toArray[t / 3]! = D.getD (t / 3) (0, 0, 0) := by
      simp [hd]
    rw [e3]
    rcases (show t % 3 = 0 ∨ t % 3 = 1 ∨ t % 3 = 2 by omega) with e | e | e <;> rw [e] <;> simp [encFp]

theorem FpS.kept {w w' : World} {v : Value} {D : List Fp} {row : Option Nat} (h : FpS w v D) (hg : w.grownBy w' row) (hne : v.ownBlock = none ∨ v.ownBlock ≠ row) : FpS w' v D := by
  rcases h with h | ⟨g, cap, rfl, hlt, hH⟩
  · exact .inl h
  · have hb : w'.heap[g]? = w.heap[g]? := hg.block g hlt (fun e => by
      rcases hne with h | h
      · simp [Value.ownBlock] at h
      · exact h (by simp [Value.ownBlock, e]))
    refine .inr ⟨g, cap, rfl, Nat.lt_of_lt_of_le hlt hg.size, fun t ht => ?_⟩
    obtain ⟨h1, h2⟩ := hH t ht
    exact ⟨by rw [← h1]; exact World.cell?_of_block (w := w) (a := ⟨g, 0 + t, none⟩) hb, by rw [← h2]; exact World.frozen?_of_block (w := w) (a := ⟨g, 0 + t, none⟩) hb⟩

theorem FpS.cells {w : World} {g : Nat} {D : List Fp} (h : HoldsK encFp 3 w g 0 D.toArray) : ∀ j u, (D.flatMap encFp)[j]? = some u → w.cell? ⟨g, 0 + j, none⟩ = some u := by
  intro j u hu
  have hj : j < D.length * 3 := by
    rcases Nat.lt_or_ge j (D.length * 3) with h | h
    · exact h
    · rw [List.getElem?_eq_none (by rw [flat_len]; omega)] at hu; cases hu
  obtain ⟨h1, _⟩ := h j (by simpa using hj)
  rw [h1, get_flatK _ _ _ j (by simpa using hj)]
  have hd : j / 3 < D.length := by omega
  have e2 := flat_get D (j / 3) (j % 3) hd (by omega)
  rw [show j / 3 * 3 + j % 3 = j by omega, hu] at e2
  have e3 : D.toArray[j / 3]! = D.getD (j / 3) (0, 0, 0) := by simp [hd]
  rw [e3]
  rcases (show j % 3 = 0 ∨ j % 3 = 1 ∨ j % 3 = 2 by omega) with e | e | e <;> rw [e] at e2 ⊢ <;> simp [encFp] at e2 ⊢ <;> exact e2.symm

theorem FpS.form {w : World} {v : Value} {D : List Fp} (h : FpS w v D) : ∃ a c, v = .slice a D.length c := by
  rcases h with ⟨rfl, rfl⟩ | ⟨g, cap, rfl, _⟩
  · exact ⟨none, 0, rfl⟩
  · exact ⟨_, _, rfl⟩

theorem clone8 (w : World) (v : Value) (D : List Fp) (h : FpS w v D) (hD : D.length ≤ 4096) :
    Calls Yba.prog 8 #[v] w fun e w' => ∃ v', e = .returned v' ∧ FpS w' v' D ∧ Below w.heap.size w w' ∧ ∀ k, v'.ownBlock = some k → w.heap.size ≤ k := by
  obtain ⟨i0, hi, hz0, hz1, hz2⟩ := info_parts info59
  rcases h with ⟨rfl, rfl⟩ | ⟨g, cap, rfl, hlt, hH⟩
  · refine (AnyE.slices_Clone_nil Yba.cloneFp 0 0 w).mono ?_
    rintro e w' ⟨rfl, rfl⟩
    exact ⟨_, rfl, .inl ⟨rfl, rfl⟩, Below.refl _ _, fun k hk => by simp [Value.ownBlock] at hk⟩
  · refine (AnyE.slices_Clone Yba.cloneFp i0 (.agg #[.int .i64 0, .int .i64 0, .int .i64 0]) 3 24 hi hz0 hz1 hz2 rfl (by decide) Yba.sizeOf59 g 0 D.length cap (D.flatMap encFp) w (flat_len D) (by unfold maxLen; omega) (by omega) (FpS.cells hH) (fun u hu => ?_)).mono ?_
    · rw [List.mem_flatMap] at hu
      obtain ⟨x, _, hx⟩ := hu
      simp [encFp] at hx
      rcases hx with rfl | rfl | rfl <;> rfl
    · rintro e w' ⟨v', rfl, h1, _, h3⟩
      exact ⟨v', rfl, fpS_of_own h1, h3, fun k hk => (h1.lt k hk).1⟩

theorem grown_sortWorldK (w : World) (blk off n : Nat) (d : Array Fp) (os : Array Obj) : w.grownBy (sortWorldK encFp 3 w blk off n d os) (some blk) := by
  refine ⟨rfl, rfl, rfl, (by apply size_sortWorldK_c), fun k hk hne => ?_⟩
  have hne' : k ≠ blk := fun e => hne (by rw [e])
  show ((w.heap.modify blk _) ++ os)[k]? = w.heap[k]?
  rw [Array.getElem?_append_left (by simpa using hk), Array.getElem?_modify, if_neg (Ne.symm hne')]

def sortD (D : List Fp) : List Fp := D.mergeSort fun x y => !(ltOf cmpFp) y x

theorem sort9s (w : World) (v : Value) (D : List Fp) (h : FpS w v D) (hD : D.length ≤ 4096) :
    Calls Yba.prog 9 #[v, .func (.func 10) #[] #[]] w fun e w' => e = .returned (.tuple #[]) ∧ FpS w' v (sortD D) ∧ w.grownBy w' v.ownBlock := by
  rcases h with ⟨rfl, rfl⟩ | ⟨g, cap, rfl, hlt, hH⟩
  · refine (AnyF.slices_SortFunc_none Yba.sortFp none 0 (.func (.func 10) #[] #[]) w).mono ?_
    rintro e w' ⟨rfl, rfl⟩
    exact ⟨rfl, .inl ⟨rfl, by simp [sortD]⟩, ⟨rfl, rfl, rfl, Nat.le_refl _, fun _ _ _ => rfl⟩⟩
  · have hl : (sortD D).length = D.length := (List.mergeSort_perm _ _).length_eq
    refine (AnyQ.slices_SortFunc_total Yba.sortFp 3 Yba.isAgg59 Yba.sizeOf59 encFp (fun _ => rfl) (fun x v hv => by simp [encFp] at hv; rcases hv with rfl | rfl | rfl <;> rfl) cmpFp swoFp 10 #[] g 0 cap D.toArray w enters10 (cmpLays10 g 0 D.toArray.size w) hH hlt (by simp; omega) totFp).mono ?_
    rintro e w' ⟨rfl, n, os, rfl⟩
    refine ⟨rfl, .inr ⟨g, cap, by rw [hl], Nat.lt_of_lt_of_le hlt (by apply size_sortWorldK_c), ?_⟩, grown_sortWorldK w g 0 n _ os⟩
    exact holdsK_sortWorldK encFp 3 w g 0 n D.toArray (sortD D).toArray os hlt hH (by simp [hl])

theorem sortD_perm {D E : List Fp} (h : D.Perm E) : sortD D = sortD E := by
  have tr : ∀ a b c : Fp, (!(ltOf cmpFp) b a) = true → (!(ltOf cmpFp) c b) = true → (!(ltOf cmpFp) c a) = true := fun a b c h1 h2 => by
    simp only [Bool.not_eq_true'] at *
    exact swoFp.ntrans c b a h2 h1
  have tot : ∀ a b : Fp, ((!(ltOf cmpFp) b a) || (!(ltOf cmpFp) a b)) = true := fun a b => by
    cases h1 : ltOf cmpFp b a with
    | false => rfl
    | true =>
      cases h2 : ltOf cmpFp a b with
      | false => rfl
      | true =>
        have := swoFp.trans a b a h2 h1
        rw [swoFp.irrefl] at this
        cases this
  refine List.Perm.eq_of_pairwise (le := fun a b => (!(ltOf cmpFp) b a) = true) (fun a b _ _ h1 h2 => ?_) (List.pairwise_mergeSort tr tot D) (List.pairwise_mergeSort tr tot E) ?_
  · simp only [Bool.not_eq_true'] at h1 h2
    exact totFp a b h2 h1
  · exact (List.mergeSort_perm _ _).trans (h.trans (List.mergeSort_perm _ _).symm)

set_option maxHeartbeats 1000000 in
set_option maxRecDepth 100000 in
theorem equal11_nil (w : World) (p q : Option Addr) (c d : Nat) : Calls Yba.prog 11 #[.slice p 0 c, .slice q 0 d] w fun e w' => e = .returned (.bool true) ∧ Below w.heap.size w w' := by
  go_enter Yba.func11, Yba.ntmps11
  go_wp2_with fail
  refine wp_loop_rounds 1 ?_
  rw [rounds_succ]
  go_wp2_with fail
  go_ret
  exact ⟨rfl, Below.refl _ _⟩

theorem allEq_refl (D : List Fp) : Lib.allEq (fun x y : Fp => decide (x = y)) D D = true := by
  induction D with
  | nil => rfl
  | cons a D ih => simp [Lib.allEq, ih]

theorem equal11 (w : World) (v1 v2 : Value) (D : List Fp) (h1 : FpS w v1 D) (h2 : FpS w v2 D) (hD : D.length ≤ 4096) :
    Calls Yba.prog 11 #[v1, v2] w fun e w' => e = .returned (.bool true) ∧ Below w.heap.size w w' := by
  obtain ⟨a, c, e1⟩ := h1.form
  obtain ⟨b, d, e2⟩ := h2.form
  by_cases h0 : D.length = 0
  · rw [h0] at e1 e2
    rw [e1, e2]
    exact equal11_nil w a b c d
  · have hne : D ≠ [] := by intro e; rw [e] at h0; simp at h0
    rcases h1 with ⟨_, h⟩ | ⟨g1, c1, rfl, l1, H1⟩
    · exact absurd h hne
    rcases h2 with ⟨_, h⟩ | ⟨g2, c2, rfl, l2, H2⟩
    · exact absurd h hne
    have key : ∀ g, HoldsK encFp 3 w g 0 D.toArray → ∀ j, j < D.length → ∀ i v, (encFp D[j]!)[i]? = some v → w.cell? ⟨g, 0 + j * 3 + i, none⟩ = some v := fun g H j hj i v hv => by
      have hi : i < 3 := by
        rcases Nat.lt_or_ge i 3 with h | h
        · exact h
        · rw [List.getElem?_eq_none (by simpa [encFp] using h)] at hv; cases hv
      have := (H.cell (i := j) (c := i) (by simpa using hj) hi).1
      rw [this]
      have e : D.toArray[j]! = D[j]! := by simp
      rw [e]
      rw [List.getElem!_eq_getElem?_getD, hv]; rfl
    refine (AnyQ.slices_Equal Yba.equalFp 3 Yba.isAgg59 Yba.sizeOf59 encFp (fun _ => rfl) (fun x y : Fp => decide (x = y)) neqFp g1 0 D.length c1 g2 0 D.length c2 D D w (Nat.le_refl _) (Nat.le_refl _) (by omega) (by omega) (key g1 H1) (key g2 H2)).mono ?_
    rintro e w' ⟨rfl, q, rfl⟩
    refine ⟨?_, below_drewN (Below.refl _ _) q⟩
    rw [List.take_length, allEq_refl]
end Go.Proofs.Ybulkaiie
