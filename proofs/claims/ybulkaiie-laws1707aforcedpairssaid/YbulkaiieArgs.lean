/-
  The law's arguments; the parts of its text.
-/
import Derived.Test.YbulkaiieMem
namespace Go.Proofs.Ybulkaiie
open Go.RowKit
set_option linter.unusedSimpArgs false
set_option linter.unusedVariables false

/-- A slice of bytes that came in. -/
def IsRowU (w : World) (a : Option Addr) (len cap : Nat) (zs : List Int) : Prop :=
  (a = none ∧ len = 0 ∧ cap = 0 ∧ zs = []) ∨
  ∃ x, a = some x ∧ len ≤ cap ∧ cap ≤ maxLen ∧ zs.length = cap ∧ (∀ i, i < zs.length → w.cell? (x.add i) = some (.int .u8 (zs.getD i 0))) ∧ ∀ n ∈ zs, (Lit.int .u8 n).wf = true

theorem u8_of_wf {x : Int} (h : (Lit.int .u8 x).wf = true) : 0 ≤ x ∧ x < 256 := by
  simp [Lit.wf, IntKind.min, IntKind.max, IntKind.signed, IntKind.bits] at h
  omega

theorem IsRowU.at {w wr : World} {a : Option Addr} {len cap k : Nat} {zs : List Int} (h : IsRowU w a len cap zs) (hk : k < len) (hb : Below w.heap.size w wr) : ∃ (x : Addr) (z : Nat), a = some x ∧ wr.cell? (x.add k) = some (.int .u8 z) ∧ z < 256 := by
  rcases h with ⟨_, h0, _⟩ | ⟨x, rfl, h1, h2, h3, h4, h5⟩
  · omega
  · have hc := h4 k (by omega)
    obtain ⟨y0, y1⟩ := u8_of_wf (h5 (zs.getD k 0) (by rw [List.getD_eq_getElem?_getD, List.getElem?_eq_getElem (by omega)]; exact List.getElem_mem _))
    refine ⟨x, (zs.getD k 0).toNat, rfl, ?_, by omega⟩
    rw [hb.cell (World.block_lt_of_cell? _ _ hc), hc, Int.toNat_of_nonneg y0]

/-- What is left of a sequence behind its first n statements. -/
noncomputable def tailOf : Nat → Code → Code
  | 0, c => c
  | n + 1, .seq _ b => tailOf n b
  | _ + 1, c => c

theorem wp_tail11 {P : Program} {f : Func} {Q : Exit → Act → World → Prop} {a : Act} {w : World} {x1 x2 x3 x4 x5 x6 x7 x8 x9 x10 x11 c : Code} (h : f.body = some (.seq x1 (.seq x2 (.seq x3 (.seq x4 (.seq x5 (.seq x6 (.seq x7 (.seq x8 (.seq x9 (.seq x10 (.seq x11 c)))))))))))) (hc : Code.wp P c Q a w) : Code.wp P (tailOf 11 (f.body.getD .skip)) Q a w := by
  rw [h]; exact hc
theorem wp_tail21 {P : Program} {f : Func} {Q : Exit → Act → World → Prop} {a : Act} {w : World} {x1 x2 x3 x4 x5 x6 x7 x8 x9 x10 x11 x12 x13 x14 x15 x16 x17 x18 x19 x20 x21 c : Code} (h : f.body = some (.seq x1 (.seq x2 (.seq x3 (.seq x4 (.seq x5 (.seq x6 (.seq x7 (.seq x8 (.seq x9 (.seq x10 (.seq x11 (.seq x12 (.seq x13 (.seq x14 (.seq x15 (.seq x16 (.seq x17 (.seq x18 (.seq x19 (.seq x20 (.seq x21 c)))))))))))))))))))))) (hc : Code.wp P c Q a w) : Code.wp P (tailOf 21 (f.body.getD .skip)) Q a w := by
  rw [h]; exact hc
end Go.Proofs.Ybulkaiie
