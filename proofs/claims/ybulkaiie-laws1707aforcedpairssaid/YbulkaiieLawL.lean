/-
  The law's walk.
-/
import Derived.Test.YbulkaiieLawA
import Derived.Deep.CutRange
namespace Go.Proofs.Ybulkaiie
open Go.RowKit
set_option linter.unusedSimpArgs false
set_option linter.unusedVariables false

set_option maxHeartbeats 4000000 in
set_option maxRecDepth 100000 in
theorem law3 (a0 : Option Addr) (len0 cap0 : Nat) (z0 : List Int) (a1 : Option Addr) (len1 cap1 : Nat) (z1 : List Int) (a2 : Option Addr) (len2 cap2 : Nat) (z2 : List Int) (a3 : Option Addr) (len3 cap3 : Nat) (z3 : List Int) (a4 : Int) (a5 : Int) (a6 : Int) (w : World) (w0 : IsRowU w a0 len0 cap0 z0) (w1 : IsRowU w a1 len1 cap1 z1) (w2 : IsRowU w a2 len2 cap2 z2) (w3 : IsRowU w a3 len3 cap3 z3) (w4 : (Lit.int .u8 a4).wf = true) (w5 : (Lit.int .u8 a5).wf = true) (w6 : (Lit.int .u8 a6).wf = true) :
    Calls Yba.prog 3 #[.slice a0 len0 cap0, .slice a1 len1 cap1, .slice a2 len2 cap2, .slice a3 len3 cap3, .int .u8 a4, .int .u8 a5, .int .u8 a6] w fun e w' => e = .returned (.bool true) ∧ Below w.heap.size w w' := by
  by_cases hbig : 256 < len0
  · have hb1 : (256 : Int) < (len0 : Int) := by omega
    clear w0 w1 w2 w3
    go_enter Yba.func3, Yba.ntmps3
    go_wp2_with fail
    go_ret
    exact ⟨rfl, Below.refl _ _⟩
  · have hb1 : ¬ (256 : Int) < (len0 : Int) := by omega
    by_cases hz : len0 = 0
    · subst hz
      clear w0 w1 w2 w3
      go_enter Yba.func3, Yba.ntmps3
      go_wp2_with fail
      go_ret
      exact ⟨rfl, Below.refl _ _⟩
    · have hb2 : ((len0 : Int) == 0) = false := by simp; omega
      have hR : len0 ≤ 256 := by omega
      obtain ⟨R, hRR⟩ : ∃ R, R = len0 := ⟨_, rfl⟩
      subst hRR
      have W0 : Hid (IsRowU w a0 R cap0 z0) := w0
      have W1 : Hid (IsRowU w a1 len1 cap1 z1) := w1
      have W2 : Hid (IsRowU w a2 len2 cap2 z2) := w2
      have W3 : Hid (IsRowU w a3 len3 cap3 z3) := w3
      clear w0 w1 w2 w3
      have m1 := make23 R hR
      have m2 := make24 R hR
      have m3 : ∀ w : World, (Instr.makeSlice 24 (.int .i64 8) (.int .i64 8)).run Yba.prog w = .ok (.slice (some ⟨w.heap.size, 0, none⟩) 8 8) (w.alloc (.cells (madeCells #[.slice none 0 0] 8) 27)) := make24 8 (by omega)
      go_enter Yba.func3, Yba.ntmps3
      go_upto_region 9 with fail
      rename_i K9 a9
      go_cut [16, 17, 18, 19] from 40 (fun s16 s17 s18 s19 wx => s16 = .pointer (some ⟨w.heap.size + 1, 0, none⟩) ∧ s17 = .pointer (some ⟨w.heap.size + 3, 0, none⟩) ∧ s18 = .slice (some ⟨w.heap.size + 4, 0, none⟩) 8 8 ∧ s19 = .slice (some ⟨w.heap.size + 5, 0, none⟩) 8 8 ∧ Nest w wx R (fun _ => 0) (fun _ => 0) (fun _ => .slice none 0 0) (fun _ => []) (bnd0 R 0))
      case first =>
        go_wp2_with fail
        go_meet
        case rel => exact ⟨rfl, by simp [Nat.add_assoc], by simp [Nat.add_assoc], by simp [Nat.add_assoc], nest_start w R _⟩
      case rest =>
        obtain ⟨rfl, rfl, rfl, rfl, hN⟩ := hcut
        refine a9 _ _ ?_
        exact partA R a0 cap0 z0 a1 len1 cap1 z1 a2 len2 cap2 z2 a3 len3 cap3 z3 a4 a5 a6 w wc W0 W1 W2 W3 w4 w5 w6 hR hz hN _ _ _ _ _ _ _ _ _ _ _ _ _ _ _ _ _ _ _ _ _ _ _ _ _ _ _ _ _ _ _ _ _ _ _ _ _ _ _ _ _ _ _ _ _ _ _ _ _ _ _ _ _ _ _ _ _ _ _ _ _ _ _ _ _ _ _ _ _ _ _ _ _ _ _ _ _ _ _ _ _ _ _ _ _ _ _ _ _ _ _ _ _ _ _ _ _ _ _ _ _ _ _ _ _ _ _ _ _ _ _ _ _ _ _ _ _ _ _ _ _ _ _ _ _ _ _ _ _ _ _ _ _ _ _ _ _ _ _ _ _ _ _ _ _ _ _ _ _ _ _ _ _ _ _ _ _ _ _ _ _ _ _ _ _ _ _ _ _ _ _ _ _ _ _ _ _ _ _ _ _ _ _ _ _ _ _ _ _ _ _ _ _ _ _ _ _ _ _ _ _ _ _ _ _ _ _ _ _ _ _ _ _ _ _ _ _ _ _ _ _ _ _ _ _ _ _ _ _ _ _
end Go.Proofs.Ybulkaiie
