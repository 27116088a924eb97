/-
  (*store).release: its contract.
-/
import Derived.Test.YbulkaigoAParts
namespace Go.Proofs.Ybulkaigo
open Go.RowKit

set_option maxHeartbeats 1000000 in
set_option maxRecDepth 100000 in
theorem release_any (w : World) (s c n q d : Nat) (base off : Int) (P : Nat → Option Addr) (hn : n ≤ 1024) (hbw : Hid (IntKind.u64.wrap base = base))
    (hq : wrap64 (IntKind.u64.wrap ((IntKind.u64.wrap (off - base)).tdiv 65536)) = (q : Int)) (hd : (if n < q then (n : Int) else (q : Int)) = (d : Int))
    (h0 : w.cell? ⟨s, 0, none⟩ = some (.int .u64 base)) (h1 : w.cell? ⟨s, 1, none⟩ = some (.slice (some ⟨c, 0, none⟩) n n))
    (f0 : w.frozen? ⟨s, 0, none⟩ = false) (f1 : w.frozen? ⟨s, 1, none⟩ = false) (hrow : w.rowIs c 26 n (fun i => .pointer (P i))) (hcs : c < s) (hsz : s < w.heap.size) :
    Calls Yba.prog 8 #[.pointer (some ⟨s, 0, none⟩), .int .u64 off] w fun e w' => ∃ v, e = .returned v ∧ w'.ownsRow w.heap.size 26 1 v (spent P d).length (spent P d) ∧ (spent P d = [] → v = .slice none 0 0) ∧
      w'.cell? ⟨s, 0, none⟩ = some (.int .u64 (IntKind.u64.wrap (base + (d : Int) * 65536))) ∧ w'.cell? ⟨s, 1, none⟩ = some (.slice (some ⟨c, 0, none⟩) (n - d) n) ∧
      w'.rowIs c 26 n (fun i => .pointer (shifted P n d i)) ∧ Below c w w' ∧ w.heap.size ≤ w'.heap.size := by
  have hdn : d ≤ n := by split at hd <;> omega
  obtain ⟨i0, hi, hz0, hz1, hz2⟩ := info_parts info26
  by_cases hd0 : d = 0
  · subst hd0
    go_enter Yba.func8, Yba.ntmps8
    go_wp2_with fail
    go_region
    go_wp2_with fail
    go_ret
    refine ⟨_, rfl, World.ownsRow_nil _ _ _ _, fun _ => rfl, ?_, ?_, ?_, ?_, ?_⟩
    · rw [show base + ((0 : Nat) : Int) * 65536 = base from by omega, hbw.out]; exact h0
    · exact h1
    · exact World.rowIs.congr hrow.drew fun i hi' => by simp [shifted, hi']
    · exact (Below.refl _ _).drew
    · exact Nat.le_refl _
  · have hd1 : ((d : Int) == 0) = false := by simp; omega
    go_enter Yba.func8, Yba.ntmps8
    go_wp2_with fail
    go_region
    go_wp2_with fail
    go_loopw [6, 32] (fun v i wr => ∃ k : Nat, k ≤ d ∧ i = .int .i64 k ∧ wr.ownsRow w.heap.size 26 1 v (spent P k).length (spent P k) ∧ (spent P k = [] → v = .slice none 0 0) ∧ Below w.heap.size w wr)
      (fun _ i _ => d - (intOf i).toNat)
    case atStart => exact ⟨0, Nat.zero_le _, rfl, World.ownsRow_nil _ _ _ _, fun _ => rfl, (Below.refl _ _).drew⟩
    case round =>
      obtain ⟨k, hk, rfl, hown, hnil, hbel⟩ := hrel
      by_cases hlt : k < d
      · have hrowr := hrow.of_block (hbel.block _ hrow.lt)
        have hc := hrowr.cell (i := k) (by omega)
        have hle := spent_le P k
        have HN : Hid (spent P k = [] → u6 = .slice none 0 0) := hnil
        clear hnil
        cases hP : P k with
        | none =>
          rw [hP] at hc
          have HP : Hid (P k = none) := hP
          clear hrowr hrow h0 h1 f0 f1 hd hq hP
          go_wp2_with fail
          go_roundw
          case rel => exact ⟨k + 1, by omega, by go_num, by rw [spent_miss HP.out]; exact hown, by rw [spent_miss HP.out]; exact HN.out, hbel⟩
          case measure => simp [intOf]; omega
        | some a =>
          rw [hP] at hc
          have HP : Hid (P k = some a) := hP
          clear hrowr hrow h0 h1 f0 f1 hd hq hP
          go_wp2_with (at_builtin; refine wpList_append_own _ rfl (.tmp 38) (.tmp 40) 25 rfl w.heap.size 26 i0 (.pointer none) 1 8 Yba.underlying25 hi hz0 hz1 hz2 rfl (by decide) _ _ _ rfl (hown.alloc _) ⟨wr.heap.size, 0, none⟩ 1 1 [.pointer (some a)] rfl rfl ?c1 ?c2 ?c3 ?c4 ?c5 ?_)
          case c1 => exact cell_one_new _ _ _
          case c2 => intro u hu; simp at hu; subst hu; rfl
          case c3 => unfold maxLen; omega
          case c4 => omega
          case c5 => have := hbel.size; simp; omega
          intro v' w1 hown' hg1 hne
          obtain ⟨r1, r2, r3⟩ := gath_hit HP.out hbel (Nat.le_refl _) hown hown' hg1
          have R2 : Hid (spent P (k + 1) ≠ []) := r2
          clear hown' hg1 hne hown r2 hc
          go_wp2_with fail
          go_roundw
          case rel => exact ⟨k + 1, by omega, by go_num, r1, fun h => absurd h R2.out, r3⟩
          case measure => simp [intOf]; omega
      · have h0r := (hbel.cell (p := ⟨s, 0, none⟩) hsz).trans h0
        have h1r := (hbel.cell (p := ⟨s, 1, none⟩) hsz).trans h1
        have f0r := (hbel.frozen (p := ⟨s, 0, none⟩) hsz).trans f0
        have f1r := (hbel.frozen (p := ⟨s, 1, none⟩) hsz).trans f1
        have hrowr := hrow.of_block (hbel.block _ hrow.lt)
        have HNl : Hid (spent P k = [] → u6 = .slice none 0 0) := hnil
        clear hnil
        have hkd : k = d := by omega
        subst hkd
        have hw1 : (0 : Int) ≤ (k : Int) := by omega
        have hw2 : (k : Int) ≤ (n : Int) := by omega
        obtain ⟨sp, hsp, HS⟩ : ∃ sp : Option Addr, (if n = k then some (⟨c, 0, none⟩ : Addr) else some ⟨c, k, none⟩) = sp ∧ Hid (0 < n - k → sp = some ⟨c, k, none⟩) := by
          by_cases h : n = k
          · exact ⟨_, rfl, fun h' => by omega⟩
          · exact ⟨_, rfl, fun _ => by simp [h]⟩
        have HR : Hid (wr.rowIs c 26 n (fun i => .pointer (P i))) := hrowr
        have Hsrc : Hid (∀ j, j < n - k → wr.drew.cell? ((⟨c, k, none⟩ : Addr).add j) = some (.pointer (shifted P n k j))) := fun j hj => by
          have := hrowr.cell (i := k + j) (by omega)
          rw [Addr.add_lit]
          show wr.cell? _ = _
          rw [this]
          simp only [shifted]
          rw [if_pos (by omega), Nat.add_comm]
        have Hsh : Hid (∀ j, n - k ≤ j → j < n → (Value.pointer (shifted P n k j)) = .pointer (P j)) := fun j hj _ => by
          simp only [shifted]
          rw [if_neg (by omega)]
        have Hst : Hid (∀ w4, wr.drew.grownBy w4 (some c) → w4.cell? ⟨s, 0, none⟩ = some (.int .u64 base) ∧ w4.cell? ⟨s, 1, none⟩ = some (.slice (some ⟨c, 0, none⟩) n n) ∧ w4.frozen? ⟨s, 0, none⟩ = false ∧ w4.frozen? ⟨s, 1, none⟩ = false) := fun w4 hg => by
          have hb := hg.block s (by show s < wr.heap.size; have := hbel.size; omega) (by simp; omega)
          exact ⟨(World.cell?_of_block (a := ⟨s, 0, none⟩) hb).trans h0r, (World.cell?_of_block (a := ⟨s, 1, none⟩) hb).trans h1r, (World.frozen?_of_block (a := ⟨s, 0, none⟩) hb).trans f0r, (World.frozen?_of_block (a := ⟨s, 1, none⟩) hb).trans f1r⟩
        clear hd hq h0 h1 f0 f1 hrowr
        go_wp2_with fail
        go_region_law (refine step_copy_rowIs rfl (.tmp 51) (.tmp 57) 25 25 rfl 26 Yba.underlying25 size26 c n n sp (n - k) (n - k) (by simp [Act.eval, Act.put]) (by simp [Act.eval, Act.put]) 26 n (fun i => .pointer (P i)) (fun i => .pointer (shifted P n k i)) HR.out (n - k) (by simp) (by omega) (fun h => ⟨⟨c, k, none⟩, HS.out h, Hsrc.out⟩) (fun _ _ => rfl) Hsh.out ?_; intro w4 hrow4 hg4 hsz4; obtain ⟨h0w, h1w, f0w, f1w⟩ := Hst.out _ hg4)
        all_goals go_wp2_with fail
        all_goals go_ret
        all_goals
          obtain ⟨r1, r2, r3, r4, r5, r6⟩ := rel_fin (A := .slice (some ⟨c, 0, none⟩) (n - k) n) (B := .int .u64 (IntKind.u64.wrap (base + (k : Int) * 65536))) hcs hsz hown hbel hg4 hrow4 h0w h1w
          exact ⟨_, rfl, r1, HNl.out, r2, r3, r4, r5, r6⟩
end Go.Proofs.Ybulkaigo
