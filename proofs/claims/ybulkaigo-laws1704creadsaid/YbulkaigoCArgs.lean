/-
  What the three wire laws' rows want of their arguments: arrays of bytes by value.
-/
import Derived.Test.YbulkaigoRows
import Derived.Test.YbulkaigoCLaws
import Derived.ProofKit
import Derived.OpenShut
import Derived.ShutString
import Derived.ChangeOld
import Derived.Below
namespace Go.Proofs.Ybulkaigo
open Go.ChangeShapes Go.WideShapes Go.ChangeAt Go.RowKit

theorem cown : ownKnob Yba.prog.godebug = none := by kernel_rfl
theorem claidOut : laidOutB Yba.prog = true := by kernel_rfl
theorem ccells5 : Yba.prog.cellsOf 5 = 1 := by kernel_rfl
theorem ccells44 : Yba.prog.cellsOf 44 = 32 := by kernel_rfl
theorem ccells57 : Yba.prog.cellsOf 57 = 16 := by kernel_rfl

set_option maxRecDepth 100000 in
/-- An array of n bytes, by value. -/
theorem open_array {H : Type} {enc : TypeId × Value → H} {W : World} {r : Reach} {b0 base : Nat} {spare : Nat → Bool} {held : Bool} {t n : Nat} {v : Value} {d : DataW H} {p : List MemPlace} (ht : Yba.prog.underlying t = some (.array n 5)) (hc : Yba.prog.cellsOf t = n)
    (hv : Value.okWide Yba.prog W r b0 t v) (h : DataW.Trod enc Yba.prog W base spare held t v d p) : ∃ A, v = .agg A ∧ A.size = n ∧ BL A.toList := by
  obtain ⟨A, rfl, hs, _⟩ : ∃ cs, v = .agg cs ∧ cs.size = Yba.prog.cellsOf t ∧ Row.okWide Yba.prog W r b0 t cs := by
    unfold Value.okWide at hv
    rw [ht] at hv
    exact hv
  rw [hc] at hs
  refine ⟨A, rfl, hs, ?_⟩
  intro u hu
  obtain ⟨fuel, hf⟩ := h
  obtain ⟨xs, m, _, _, _, hl, hel⟩ := DataW.trod_array ht hf
  obtain ⟨i, hi, rfl⟩ := List.getElem_of_mem hu
  have hi' : i < n := by rw [← hs]; simpa using hi
  have hx := hel i hi'
  rw [ccells5, Nat.mul_one, List.getElem?_eq_getElem (show i < xs.length by omega)] at hx
  obtain ⟨x, e0, _, _⟩ := DataW.trod_int Yba.underlying5 hx
  refine ⟨x, ?_⟩
  have e1 : ((A.toList.drop i).take 1)[0]? = some (.int .u8 x) := by
    have : (Value.agg A).cells.toList = A.toList := rfl
    rw [this] at e0
    rw [e0]; rfl
  rw [List.getElem?_take, if_pos (by omega), List.getElem?_drop, Nat.add_zero, List.getElem?_eq_getElem hi] at e1
  exact Option.some.inj e1

end Go.Proofs.Ybulkaigo
