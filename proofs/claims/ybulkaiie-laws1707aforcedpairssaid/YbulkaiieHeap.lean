/-
  forcedPairs' methods; container/heap.Push: the row behind it is a permutation.
-/
import Derived.Test.YbulkaiieMeth
import Derived.WalkLawsBesides
import Derived.BigQuiet
import Derived.Deep.QuietTactic
import Derived.Deep.OwnRows
import Derived.Deep.AppendLies
import Derived.Below
namespace Go.Proofs.Ybulkaiie
open Go.RowKit
set_option linter.unusedSimpArgs false

set_option maxHeartbeats 400000 in
set_option maxRecDepth 100000 in
theorem less62 (w : World) (g n c i j : Nat) (x y : Int) (hi : i < n) (hj : j < n) (h1 : w.cell? ⟨g, i * 3 + 2, none⟩ = some (.int .i64 x)) (h2 : w.cell? ⟨g, j * 3 + 2, none⟩ = some (.int .i64 y)) :
    Calls Yba.prog 62 #[.slice (some ⟨g, 0, none⟩) n c, .int .i64 i, .int .i64 j] w fun e w' => e = .returned (.bool (decide (x < y))) ∧ ∃ m, w' = w.drewN m := by
  have b1 : (i : Int) < (n : Int) := by omega
  have b2 : (j : Int) < (n : Int) := by omega
  go_enter Yba.func62, Yba.ntmps62
  go_wp2_with fail
  go_quiet (fail)
  go_wp2_with fail
  go_ret
  exact ⟨rfl, _, rfl⟩

set_option maxHeartbeats 1000000 in
set_option maxRecDepth 100000 in
theorem swap63 (w : World) (g n c i j : Nat) (x0 x1 x2 y0 y1 y2 : Int) (hi : i < n) (hj : j < n) (hij : ¬ i = j)
    (a0 : w.cell? ⟨g, i * 3, none⟩ = some (.int .i64 x0)) (a1 : w.cell? ⟨g, i * 3 + 1, none⟩ = some (.int .i64 x1)) (a2 : w.cell? ⟨g, i * 3 + 2, none⟩ = some (.int .i64 x2))
    (c0 : w.cell? ⟨g, j * 3, none⟩ = some (.int .i64 y0)) (c1 : w.cell? ⟨g, j * 3 + 1, none⟩ = some (.int .i64 y1)) (c2 : w.cell? ⟨g, j * 3 + 2, none⟩ = some (.int .i64 y2))
    (hf : ∀ k, w.frozen? ⟨g, k, none⟩ = false) :
    Calls Yba.prog 63 #[.slice (some ⟨g, 0, none⟩) n c, .int .i64 i, .int .i64 j] w fun e w' => e = .returned (.tuple #[]) ∧ w' = ((((((w.setCell ⟨g, i * 3, none⟩ (.int .i64 y0)).setCell ⟨g, i * 3 + 1, none⟩ (.int .i64 y1)).setCell ⟨g, i * 3 + 2, none⟩ (.int .i64 y2)).setCell ⟨g, j * 3, none⟩ (.int .i64 x0)).setCell ⟨g, j * 3 + 1, none⟩ (.int .i64 x1)).setCell ⟨g, j * 3 + 2, none⟩ (.int .i64 x2)).drew := by
  have b1 : (i : Int) < (n : Int) := by omega
  have b2 : (j : Int) < (n : Int) := by omega
  have n00 : ¬ i * 3 = j * 3 := by omega
  have n01 : ¬ i * 3 = j * 3 + 1 := by omega
  have n02 : ¬ i * 3 = j * 3 + 2 := by omega
  have n10 : ¬ i * 3 + 1 = j * 3 := by omega
  have n11 : ¬ i * 3 + 1 = j * 3 + 1 := by omega
  have n12 : ¬ i * 3 + 1 = j * 3 + 2 := by omega
  have n20 : ¬ i * 3 + 2 = j * 3 := by omega
  have n21 : ¬ i * 3 + 2 = j * 3 + 1 := by omega
  have n22 : ¬ i * 3 + 2 = j * 3 + 2 := by omega
  go_enter Yba.func63, Yba.ntmps63
  go_wp2_with fail
  go_region
  go_end0
  exact ⟨rfl, rfl⟩

/-- Block g is a row of N cells, its first n elements (three cells each) the pairs D. -/
def Row3 (w : World) (g N n : Nat) (D : Nat → Fp) : Prop :=
  ∃ F, w.rowIs g 59 N F ∧ n * 3 ≤ N ∧ ∀ e, e < n → F (e * 3) = .int .i64 (D e).1 ∧ F (e * 3 + 1) = .int .i64 (D e).2.1 ∧ F (e * 3 + 2) = .int .i64 (D e).2.2

theorem Row3.cells {w : World} {g N n : Nat} {D : Nat → Fp} (h : Row3 w g N n D) {e : Nat} (he : e < n) :
    w.cell? ⟨g, e * 3, none⟩ = some (.int .i64 (D e).1) ∧ w.cell? ⟨g, e * 3 + 1, none⟩ = some (.int .i64 (D e).2.1) ∧ w.cell? ⟨g, e * 3 + 2, none⟩ = some (.int .i64 (D e).2.2) := by
  obtain ⟨F, hr, hn, hF⟩ := h
  obtain ⟨h1, h2, h3⟩ := hF e he
  exact ⟨by rw [hr.cell (by omega), h1], by rw [hr.cell (by omega), h2], by rw [hr.cell (by omega), h3]⟩

def swapD (D : Nat → Fp) (i j : Nat) (e : Nat) : Fp := if e = i then D j else if e = j then D i else D e

theorem grownBy_set {w w1 : World} {g o : Nat} {v : Value} (h : w.grownBy w1 (some g)) : w.grownBy (w1.setCell ⟨g, o, none⟩ v) (some g) :=
  ⟨h.os, h.tape, h.output, by simpa using h.size, fun k hk hne => by
    rw [Below.heap_setCell _ _ _ _ (by intro e; exact hne (by rw [e]))]
    exact h.block k hk hne⟩
theorem grownBy_drew {w w1 : World} {r : Option Nat} (h : w.grownBy w1 r) : w.grownBy w1.drew r := ⟨h.os, h.tape, h.output, h.size, h.block⟩

theorem swap63_row (w : World) (g N n c i j : Nat) (D : Nat → Fp) (h : Row3 w g N n D) (hi : i < n) (hj : j < n) (hij : ¬ i = j) :
    Calls Yba.prog 63 #[.slice (some ⟨g, 0, none⟩) n c, .int .i64 i, .int .i64 j] w fun e w' => e = .returned (.tuple #[]) ∧ Row3 w' g N n (swapD D i j) ∧ w.grownBy w' (some g) ∧ w'.heap.size = w.heap.size := by
  obtain ⟨a0, a1, a2⟩ := h.cells hi
  obtain ⟨c0, c1, c2⟩ := h.cells hj
  obtain ⟨F, hr, hn, hF⟩ := h
  refine (swap63 w g n c i j _ _ _ _ _ _ hi hj hij a0 a1 a2 c0 c1 c2 (fun k => hr.frozen k)).mono ?_
  rintro e w' ⟨rfl, rfl⟩
  refine ⟨rfl, ⟨_, ((((((hr.set _ _).set _ _).set _ _).set _ _).set _ _).set _ _).drew, hn, fun e he => ?_⟩, ?_, by simp [World.drew]⟩
  · obtain ⟨h1, h2, h3⟩ := hF e he
    unfold swapD
    by_cases e1 : e = i
    · subst e1
      simp [show ¬ e * 3 = j * 3 + 2 by omega, show ¬ e * 3 = j * 3 + 1 by omega, show ¬ e * 3 = j * 3 by omega, show ¬ e * 3 + 1 = j * 3 + 2 by omega, show ¬ e * 3 + 1 = j * 3 + 1 by omega, show ¬ e * 3 + 1 = j * 3 by omega, show ¬ e * 3 + 2 = j * 3 + 2 by omega, show ¬ e * 3 + 2 = j * 3 + 1 by omega, show ¬ e * 3 + 2 = j * 3 by omega, show ¬ e = j by omega]
    · by_cases e2 : e = j
      · subst e2
        simp [e1]
      · simp [e1, e2, h1, h2, h3, show ¬ e * 3 = j * 3 + 2 by omega, show ¬ e * 3 = j * 3 + 1 by omega, show ¬ e * 3 = j * 3 by omega, show ¬ e * 3 + 1 = j * 3 + 2 by omega, show ¬ e * 3 + 1 = j * 3 + 1 by omega, show ¬ e * 3 + 1 = j * 3 by omega, show ¬ e * 3 + 2 = j * 3 + 2 by omega, show ¬ e * 3 + 2 = j * 3 + 1 by omega, show ¬ e * 3 + 2 = j * 3 by omega, show ¬ e * 3 = i * 3 + 2 by omega, show ¬ e * 3 = i * 3 + 1 by omega, show ¬ e * 3 = i * 3 by omega, show ¬ e * 3 + 1 = i * 3 + 2 by omega, show ¬ e * 3 + 1 = i * 3 + 1 by omega, show ¬ e * 3 + 1 = i * 3 by omega, show ¬ e * 3 + 2 = i * 3 + 2 by omega, show ¬ e * 3 + 2 = i * 3 + 1 by omega, show ¬ e * 3 + 2 = i * 3 by omega]
  · exact grownBy_drew (grownBy_set (grownBy_set (grownBy_set (grownBy_set (grownBy_set (grownBy_set ⟨rfl, rfl, rfl, Nat.le_refl _, fun _ _ _ => rfl⟩))))))

/-- The elements as a list. -/
def listD (D : Nat → Fp) (n : Nat) : List Fp := (List.range n).map D
theorem listD_swap (D : Nat → Fp) {n i j : Nat} (hi : i < n) (hj : j < n) : (listD (swapD D i j) n).Perm (listD D n) := by
  have h := Array.swap_perm (xs := (listD D n).toArray) (i := i) (j := j) (by simpa [listD] using hi) (by simpa [listD] using hj)
  have h2 := h.toList
  have e : ((listD D n).toArray.swap i j (by simpa [listD] using hi) (by simpa [listD] using hj)).toList = listD (swapD D i j) n := by
    apply List.ext_getElem
    · simp [listD]
    · intro k h1 h2
      have hk : k < n := by simpa [listD] using h2
      simp only [Array.getElem_toList, Array.getElem_swap]
      simp [listD, swapD]
  rw [e] at h2
  exact h2

theorem load50 (w : World) (pf : Addr) (a : Option Addr) (n c : Nat) (h : w.cell? pf = some (.slice a n c)) : (loadVar 50 pf).run Yba.prog w = .ok (.slice a n c) w := by
  have a50 := Yba.isAgg50
  simp [loadVar, a50, h, go_sem]

theorem grownBy_trans {a b c : World} {g : Nat} (h1 : a.grownBy b (some g)) (h2 : b.grownBy c (some g)) : a.grownBy c (some g) :=
  ⟨h2.os.trans h1.os, h2.tape.trans h1.tape, h2.output.trans h1.output, Nat.le_trans h1.size h2.size, fun k hk hne => (h2.block k (Nat.lt_of_lt_of_le hk h1.size) hne).trans (h1.block k hk hne)⟩

theorem grownBy_cell {w w' : World} {g : Nat} {p : Addr} (h : w.grownBy w' (some g)) (hp : p.block < w.heap.size) (hne : p.block ≠ g) : w'.cell? p = w.cell? p := by
  unfold World.cell?
  rw [h.block p.block hp (by simpa using hne)]

theorem half_facts (k p : Nat) (hk0 : ¬ k = 0) (hpk : p = (k - 1) / 2) (hk : k ≤ 4096) :
    IntKind.i64.wrap ((k : Int) - 1) = (k : Int) - 1 ∧ ((k : Int) - 1).tdiv 2 = (p : Int) ∧ wrap64 (p : Int) = (p : Int) ∧ ((p : Int) == (k : Int)) = false := by
  refine ⟨?_, ?_, ?_, ?_⟩
  · rw [IntKind.wrap_i64]; omega
  · rw [show (k : Int) - 1 = ((k - 1 : Nat) : Int) by omega, Int.tdiv_eq_ediv_of_nonneg (by omega)]
    omega
  · unfold wrap64; omega
  · have : ¬ (p : Int) = (k : Int) := by omega
    simpa using this

set_option maxHeartbeats 1000000 in
set_option maxRecDepth 100000 in
theorem up19 (w : World) (pf : Addr) (g N n c i : Nat) (D : Nat → Fp) (hp : w.cell? pf = some (.slice (some ⟨g, 0, none⟩) n c)) (hne : pf.block ≠ g) (hn : n ≤ 4096) (hD : Row3 w g N n D) (hi : i < n) :
    Calls Yba.prog 19 #[.iface 68 (.pointer (some pf)), .int .i64 i] w fun e w' => e = .returned (.tuple #[]) ∧ w.grownBy w' (some g) ∧ w'.heap.size = w.heap.size ∧ ∃ D', Row3 w' g N n D' ∧ (listD D' n).Perm (listD D n) := by
  have hpb : pf.block < w.heap.size := World.block_lt_of_cell? _ _ hp
  have HD := (show Hid _ from hD)
  have HN := (show Hid _ from hne)
  clear hD hne
  go_enter Yba.func19, Yba.ntmps19
  go_wp2_with fail
  go_loopw [1] (fun x wr => ∃ k : Nat, k < n ∧ x = .int .i64 k ∧ w.grownBy wr (some g) ∧ wr.heap.size = w.heap.size ∧ ∃ D', Row3 wr g N n D' ∧ (listD D' n).Perm (listD D n)) (fun x _ => (intOf x).toNat)
  case atStart => exact ⟨i, hi, rfl, ⟨rfl, rfl, rfl, Nat.le_refl _, fun _ _ _ => rfl⟩, rfl, D, HD.out, List.Perm.refl _⟩
  case round =>
    obtain ⟨k, hk, rfl, hg, hsz, D', hR, hP⟩ := hrel
    by_cases hk0 : k = 0
    · subst hk0
      have q2 : ((0 : Int) - 1).tdiv 2 = 0 := by decide
      have q1 : IntKind.i64.wrap (-1) = -1 := by decide
      have HE : Hid (w.grownBy wr (some g) ∧ wr.heap.size = w.heap.size ∧ ∃ D', Row3 wr g N n D' ∧ (listD D' n).Perm (listD D n)) := ⟨hg, hsz, D', hR, hP⟩
      clear hg hR hP hsz
      go_wp2_with fail
      go_end0
      exact ⟨rfl, HE.out⟩
    · obtain ⟨p, hpk⟩ : ∃ p : Nat, p = (k - 1) / 2 := ⟨_, rfl⟩
      have hpk1 : p < k := by omega
      have hpn : p < n := by omega
      have q5 : ¬ (p : Int) = (k : Int) := by omega
      obtain ⟨q1, q2, q3, q4⟩ := half_facts k p hk0 hpk (by omega)
      have hcell := (grownBy_cell hg hpb HN.out).trans hp
      have hmL := mLess wr pf _ (load50 wr pf _ _ _ hcell)
      have HR := (show Hid _ from hR)
      have HPm := (show Hid _ from hP)
      have HG := (show Hid _ from hg)
      clear hR hP hg hpk
      go_wp2_with fail
      refine (less62 wr g n c k p (D' k).2.2 (D' p).2.2 hk hpn (Row3.cells HR.out hk).2.2 (Row3.cells HR.out hpn).2.2).mono ?_
      rintro e w1 ⟨rfl, m, rfl⟩
      cases hlt : decide ((D' k).2.2 < (D' p).2.2) with
      | true =>
        have hmS := mSwap (wr.drewN m) pf _ (load50 (wr.drewN m) pf _ _ _ hcell)
        clear hmL
        go_wp2_with fail
        refine (swap63_row (wr.drewN m) g N n c p k D' HR.out hpn hk (by omega)).mono ?_
        rintro e w2 ⟨rfl, r2, g2, z2⟩
        have HE : Hid (w.grownBy w2 (some g) ∧ w2.heap.size = w.heap.size ∧ Row3 w2 g N n (swapD D' p k) ∧ (listD (swapD D' p k) n).Perm (listD D n)) := ⟨grownBy_trans HG.out ⟨g2.os, g2.tape, g2.output, g2.size, g2.block⟩, z2.trans hsz, r2, (listD_swap D' hpn hk).trans HPm.out⟩
        clear hmS r2 g2 z2
        go_wp2_with fail
        go_roundw
        case rel => exact ⟨p, hpn, rfl, HE.out.1, HE.out.2.1, _, HE.out.2.2.1, HE.out.2.2.2⟩
        case measure => simp [intOf]; omega
      | false =>
        have HE : Hid (w.grownBy (wr.drewN m) (some g) ∧ (wr.drewN m).heap.size = w.heap.size ∧ ∃ D', Row3 (wr.drewN m) g N n D' ∧ (listD D' n).Perm (listD D n)) := ⟨⟨HG.out.os, HG.out.tape, HG.out.output, HG.out.size, HG.out.block⟩, hsz, D', HR.out, HPm.out⟩
        clear hmL
        go_wp2_with fail
        go_end0
        exact ⟨rfl, HE.out⟩
end Go.Proofs.Ybulkaiie
