/-
  The plain parts for LawS1704AKeeps: what release hands back, as a list; rows of pointers behind a copy.
-/
import Derived.Test.YbulkaigoProg
import Derived.WalkKit
import Derived.WalkSpells
import Derived.WalkLawsBesides
import Derived.BigQuiet
import Derived.Deep.QuietTactic
import Derived.Deep.RegionHeldLaw
import Derived.Deep.OwnRows
import Derived.Laws.CopyOwn
namespace Go.Proofs.Ybulkaigo
open Go.RowKit

/-- The non-nil pointers among the first k, in order. -/
def spent (P : Nat → Option Addr) : Nat → List Value
  | 0 => []
  | k + 1 => if (P k).isSome then spent P k ++ [.pointer (P k)] else spent P k

theorem spent_le (P : Nat → Option Addr) (k : Nat) : (spent P k).length ≤ k := by
  induction k with
  | zero => simp [spent]
  | succ k ih =>
    simp only [spent]
    split
    · simp; omega
    · omega

theorem spent_hit {P : Nat → Option Addr} {k : Nat} {a : Addr} (h : P k = some a) : spent P (k + 1) = spent P k ++ [.pointer (some a)] := by
  simp [spent, h]

theorem spent_miss {P : Nat → Option Addr} {k : Nat} (h : P k = none) : spent P (k + 1) = spent P k := by
  simp [spent, h]

theorem info26 : (Yba.prog.info? 26).map (fun i => (i.zero, i.size, i.bytes)) = some (some (.pointer none), 1, 8) := by kernel_rfl
theorem size26 : (Yba.prog.info? 26).map (·.size) = some 1 := by kernel_rfl

/-- THE ROW BEHIND 'copy(st.chunks, st.chunks[d:])'. -/
def shifted (P : Nat → Option Addr) (n d : Nat) (i : Nat) : Option Addr := if i + d < n then P (i + d) else P i

/-- A copy inside one row or from another, as a step of a drawing region: the world behind it by 'grownBy', the row by its index. -/
theorem copy_row_run {P : Program} (w : World) (dT sT ty elem : TypeId) (hu : P.underlying dT = some (.slice elem)) (hsz : (P.info? elem).map (·.size) = some 1)
    (g : Nat) (dLen dCap : Nat) (sp : Option Addr) (sLen sCap : Nat) (t : TypeId) (n : Nat) (f f' : Nat → Value) (hrow : w.rowIs g t n f)
    (m : Nat) (hm : m = Nat.min sLen dLen) (hmn : m ≤ n)
    (hsrc : 0 < m → ∃ ad, sp = some ad ∧ ∀ j, j < m → w.cell? (ad.add j) = some (f' j)) (h1 : ∀ j, j < m → (f' j).oneCell' = true)
    (hf' : ∀ j, m ≤ j → j < n → f' j = f j) :
    ∃ w', (Builtin.copy_ #[dT, sT] ty #[.slice (some ⟨g, 0, none⟩) dLen dCap, .slice sp sLen sCap]).run P w = .ok (goInt m) w' ∧ w'.rowIs g t n f' ∧ w.grownBy w' (some g) ∧ w'.heap.size = w.heap.size := by
  by_cases h0 : m = 0
  · subst h0
    have hrun := run_copy_none (P := P) w dT sT ty elem (some ⟨g, 0, none⟩) sp dLen dCap sLen sCap hu hsz hm.symm
    exact ⟨w, hrun, hrow.congr fun i hi => (hf' i (Nat.zero_le _) hi).symm, ⟨rfl, rfl, rfl, Nat.le_refl _, fun _ _ _ => rfl⟩, rfl⟩
  · obtain ⟨ad, rfl, hc⟩ := hsrc (by omega)
    obtain ⟨cur, hg, hcs, hcur⟩ := hrow
    have hlen : ((List.range m).map f').length = m := by simp
    have hrun := run_copy_row (P := P) w dT sT ty elem g 0 dLen dCap ad sLen sCap cur t ((List.range m).map f') hu hsz hg (by rw [hlen]; exact hm)
      (fun j v hj => by
        have hj' : j < m := by have := (List.getElem?_eq_some_iff.1 hj).1; simpa using this
        rw [List.getElem?_map, List.getElem?_range hj'] at hj
        simp at hj
        rw [hc j hj', hj])
      (by rw [hlen]; omega)
      (fun v hv => by
        obtain ⟨j, hj, rfl⟩ := List.mem_map.1 hv
        exact h1 j (by simpa using hj))
    rw [hlen] at hrun
    refine ⟨_, hrun, ⟨_, setRow_heap w g _ _ t _ hg, ?_, ?_⟩, ⟨rfl, rfl, rfl, by simp, fun k hk hne => setRow_other w g k _ (fun e => hne (by rw [e]))⟩, by simp⟩
    · simp; omega
    · intro i hi
      by_cases him : i < m
      · simp [List.getElem?_append, him]
      · have e1 : cur.toList.length = n := by simpa using hcs
        have := hcur i hi
        rw [hf' i (by omega) hi]
        simp [List.getElem?_append, him]
        rw [show m + (i - m) = i from by omega]
        simpa using this

/-- The same as one step of a region that draws its order. -/
theorem step_copy_rowIs {P : Program} {ops : Array Oper} {o : Oper} {a : Act} {w : World} {K : Act → World → Prop} {Q : Exit → Act → World → Prop} {E : Prop} (hgd : o.guard = none) (d s : Operand) (dT sT : TypeId)
    (ho : o.op = .call { callee := .builtin .copy, args := #[d, s], argTypes := #[dT, sT] }) (elem : TypeId) (hu : P.underlying dT = some (.slice elem)) (hsz : (P.info? elem).map (·.size) = some 1)
    (g : Nat) (dLen dCap : Nat) (sp : Option Addr) (sLen sCap : Nat) (hd : a.eval d = .slice (some ⟨g, 0, none⟩) dLen dCap) (hs : a.eval s = .slice sp sLen sCap)
    (t : TypeId) (n : Nat) (f f' : Nat → Value) (hrow : w.rowIs g t n f)
    (m : Nat) (hm : m = Nat.min sLen dLen) (hmn : m ≤ n)
    (hsrc : 0 < m → ∃ ad, sp = some ad ∧ ∀ j, j < m → w.cell? (ad.add j) = some (f' j)) (h1 : ∀ j, j < m → (f' j).oneCell' = true)
    (hf' : ∀ j, m ≤ j → j < n → f' j = f j)
    (h : ∀ w', w'.rowIs g t n f' → w.grownBy w' (some g) → w'.heap.size = w.heap.size → K (a.put o.dst (goInt m)) w') :
    if Region.wanted o (yielded ops a.tmps) = true then Oper.wp P o a w K Q else E := by
  have hw : Region.wanted o (yielded ops a.tmps) = true := by simp [Region.wanted, hgd]
  rw [if_pos hw]
  obtain ⟨w', hrun, h2, h3, h4⟩ := copy_row_run (P := P) w dT sT o.type elem hu hsz g dLen dCap sp sLen sCap t n f f' hrow m hm hmn hsrc h1 hf'
  unfold Oper.wp
  simp [execOp, ho, resolve, invoke, builtin, hd, hs, hrun, Result.andThen]
  exact h w' h2 h3 h4

/-- The same as a law of the plain walk. -/
theorem wpList_copy_rowIs {P : Program} {w : World} {ops : Array Oper} {rest : List Oper} {o : Oper} {a : Act} {Q : Exit → Act → World → Prop} (hgd : o.guard = none) (d s : Operand) (dT sT : TypeId)
    (ho : o.op = .call { callee := .builtin .copy, args := #[d, s], argTypes := #[dT, sT] }) (elem : TypeId) (hu : P.underlying dT = some (.slice elem)) (hsz : (P.info? elem).map (·.size) = some 1)
    (g : Nat) (dLen dCap : Nat) (sp : Option Addr) (sLen sCap : Nat) (hd : a.eval d = .slice (some ⟨g, 0, none⟩) dLen dCap) (hs : a.eval s = .slice sp sLen sCap)
    (t : TypeId) (n : Nat) (f f' : Nat → Value) (hrow : w.rowIs g t n f)
    (m : Nat) (hm : m = Nat.min sLen dLen) (hmn : m ≤ n)
    (hsrc : 0 < m → ∃ ad, sp = some ad ∧ ∀ j, j < m → w.cell? (ad.add j) = some (f' j)) (h1 : ∀ j, j < m → (f' j).oneCell' = true)
    (hf' : ∀ j, m ≤ j → j < n → f' j = f j)
    (h : ∀ w', w'.rowIs g t n f' → w.grownBy w' (some g) → w'.heap.size = w.heap.size → wpList P ops Q rest (a.put o.dst (goInt m)) w') :
    wpList P ops Q (o :: rest) a w := by
  refine wpList_plain hgd fun K hK => ?_
  obtain ⟨w', hrun, h2, h3, h4⟩ := copy_row_run (P := P) w dT sT o.type elem hu hsz g dLen dCap sp sLen sCap t n f f' hrow m hm hmn hsrc h1 hf'
  unfold Oper.wp
  simp [execOp, ho, resolve, invoke, builtin, hd, hs, hrun, Result.andThen]
  exact hK _ _ (h w' h2 h3 h4)

/-- THE END OF release: both stores into the store's own cells, behind the copy. -/
theorem rel_fin {w wr w4 : World} {s c n k : Nat} {v A B u0 u1 : Value} {P : Nat → Option Addr} {xs : List Value} {m : Nat} (hcs : c < s) (hsz : s < w.heap.size)
    (hown : wr.ownsRow w.heap.size 26 1 v m xs) (hbel : Below w.heap.size w wr) (hg4 : wr.drew.grownBy w4 (some c)) (hrow4 : w4.rowIs c 26 n (fun i => .pointer (shifted P n k i)))
    (h0w : w4.cell? ⟨s, 0, none⟩ = some u0) (h1w : w4.cell? ⟨s, 1, none⟩ = some u1) :
    ((w4.setCell ⟨s, 1, none⟩ A).setCell ⟨s, 0, none⟩ B).ownsRow w.heap.size 26 1 v m xs ∧
    ((w4.setCell ⟨s, 1, none⟩ A).setCell ⟨s, 0, none⟩ B).cell? ⟨s, 0, none⟩ = some B ∧
    ((w4.setCell ⟨s, 1, none⟩ A).setCell ⟨s, 0, none⟩ B).cell? ⟨s, 1, none⟩ = some A ∧
    ((w4.setCell ⟨s, 1, none⟩ A).setCell ⟨s, 0, none⟩ B).rowIs c 26 n (fun i => .pointer (shifted P n k i)) ∧
    Below c w ((w4.setCell ⟨s, 1, none⟩ A).setCell ⟨s, 0, none⟩ B) ∧ w.heap.size ≤ ((w4.setCell ⟨s, 1, none⟩ A).setCell ⟨s, 0, none⟩ B).heap.size := by
  have hd : wr.drew.ownsRow w.heap.size 26 1 v m xs := hown.drew
  have hk : w4.ownsRow w.heap.size 26 1 v m xs := by
    refine hd.kept hg4 ?_
    by_cases e : v.ownBlock = some c
    · have := (hd.lt c e).1; omega
    · exact .inr e
  have hc0 : (w4.setCell ⟨s, 1, none⟩ A).cell? ⟨s, 0, none⟩ = some u0 := by
    rw [World.cell?_setCell_other _ _ _ _ (by simp)]; exact h0w
  have hb4 : Below c w w4 := (hbel.mono (by omega)).drew.grown hg4 (by show c ≤ wr.heap.size; have := hbel.size; omega) (by intro k hk; simp at hk; omega)
  have hs4 : w.heap.size ≤ w4.heap.size := by have h1 := hbel.size; have h2 : wr.heap.size ≤ w4.heap.size := hg4.size; omega
  refine ⟨ownsRow_setCell_below (ownsRow_setCell_below hk (by simpa using hsz) _) (by simpa using hsz) _, World.cell?_setCell_same _ _ _ hc0, ?_, ?_, ?_, ?_⟩
  · rw [World.cell?_setCell_other _ _ _ _ (by simp)]; exact World.cell?_setCell_same _ _ _ h1w
  · exact (hrow4.setOther (by simp; omega) _).setOther (by simp; omega) _
  · exact (hb4.setCell (by simp; omega) _).setCell (by simp; omega) _
  · simpa using hs4

/-- A ROUND OF THE GATHERING LOOPS ('if c != nil { xs = append(xs, c) }') that appends. -/
theorem gath_hit {N : Nat} {w wr w1 : World} {P : Nat → Option Addr} {k : Nat} {a : Addr} {v v' : Value} {o : Obj} (hP : P k = some a) (hbel : Below N w wr) (hN : N ≤ w.heap.size)
    (hown : wr.ownsRow N 26 1 v (spent P k).length (spent P k)) (hown' : w1.ownsRow N 26 1 v' ((spent P k).length + 1) (spent P k ++ [.pointer (some a)])) (hg : (wr.alloc o).grownBy w1 v.ownBlock) :
    w1.ownsRow N 26 1 v' (spent P (k + 1)).length (spent P (k + 1)) ∧ spent P (k + 1) ≠ [] ∧ Below N w w1 := by
  rw [spent_hit hP]
  refine ⟨by simpa using hown', by simp, ?_⟩
  have hs := hbel.size
  refine (hbel.alloc (by omega) o).grown hg (by simp; omega) fun k hk => (hown.lt k hk).1

end Go.Proofs.Ybulkaigo
