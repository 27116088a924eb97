/-
  The library's functions laid at this dump: slices.SortFunc, slices.Clone, slices.Equal at forcedPair; zzs1707acmp.
-/
import Derived.Test.YbulkaiieMem
import Derived.Shelf.SlSortCmp.WholeK
import Derived.Shelf.SlicesQ.Equal
import Derived.Shelf.SlicesE.Clone
import Derived.Shelf.SlGeneric
import Derived.Shelf.Lay
import Derived.Laws.StructEq
import Derived.Ground.SlsfProg
import Derived.Ground.SlgqProg
import Derived.Ground.SlgnProg
import Derived.WalkKit
namespace Go.Proofs.Ybulkaiie
open Go.Proofs Go.Shelf Go.RowKit Go.Lib Go.Sort
set_option linter.unusedSimpArgs false

shelf_lay_g SlLaysF0.n6 Slsf 6 at Yba 9 as Yba.sortFp
shelf_lay_g SlLaysE0.n41 Slgn 41 at Yba 8 as Yba.cloneFp
shelf_lay_g SlLaysQ.n8 Slgq 8 at Yba 11 as Yba.equalFp

/-- A forcedPair's three cells. -/
def cmpFp (x y : Fp) : Int := if Lib.compareInt x.1 y.1 ≠ 0 then Lib.compareInt x.1 y.1 else if Lib.compareInt x.2.1 y.2.1 ≠ 0 then Lib.compareInt x.2.1 y.2.1 else Lib.compareInt x.2.2 y.2.2

theorem cmpI_lt {x y : Int} : Lib.compareInt x y < 0 ↔ x < y := by
  unfold Lib.compareInt
  by_cases h1 : x < y
  · simp [h1]
  · by_cases h2 : y < x <;> simp [h1, h2]
theorem cmpI_eq {x y : Int} : Lib.compareInt x y = 0 ↔ x = y := by
  unfold Lib.compareInt
  by_cases h1 : x < y
  · simp [h1]; omega
  · by_cases h2 : y < x <;> simp [h1, h2] <;> omega

theorem ltFp (x y : Fp) : ltOf cmpFp x y = decide (x.1 < y.1 ∨ (x.1 = y.1 ∧ (x.2.1 < y.2.1 ∨ (x.2.1 = y.2.1 ∧ x.2.2 < y.2.2)))) := by
  unfold ltOf cmpFp
  rw [decide_eq_decide]
  by_cases h1 : x.1 = y.1
  · rw [if_neg (fun h => h (cmpI_eq.2 h1))]
    by_cases h2 : x.2.1 = y.2.1
    · rw [if_neg (fun h => h (cmpI_eq.2 h2)), cmpI_lt]; omega
    · rw [if_pos (fun e => h2 (cmpI_eq.1 e)), cmpI_lt]; omega
  · rw [if_pos (fun e => h1 (cmpI_eq.1 e)), cmpI_lt]; omega

theorem swoFp : SWO (ltOf cmpFp) where
  irrefl x := by rw [ltFp]; simp
  trans x y z h1 h2 := by rw [ltFp] at *; simp at *; omega
  ntrans x y z h1 h2 := by rw [ltFp] at *; simp at *; omega
theorem totFp (x y : Fp) (h1 : ltOf cmpFp x y = false) (h2 : ltOf cmpFp y x = false) : x = y := by
  rw [ltFp] at h1 h2
  simp at h1 h2
  obtain ⟨a, b, c⟩ := x
  obtain ⟨a', b', c'⟩ := y
  simp at h1 h2 ⊢
  omega

/-- cmp.Compare[int] -/
theorem compare17 (x y : Int) (w : World) : Calls Yba.prog 17 #[.int .i64 x, .int .i64 y] w fun e w' => e = .returned (.int .i64 (Lib.compareInt x y)) ∧ w' = w := by
  unfold Lib.compareInt
  by_cases h1 : x < y
  · simp only [h1, if_true]
    go_enter Yba.func17, Yba.ntmps17
    go_wp2
    go_ret
    exact ⟨rfl, rfl⟩
  · by_cases h2 : y < x
    · simp only [h1, h2, if_true, if_false]
      go_enter Yba.func17, Yba.ntmps17
      go_wp2
      go_ret
      exact ⟨rfl, rfl⟩
    · simp only [h1, h2, if_false]
      go_enter Yba.func17, Yba.ntmps17
      go_wp2
      go_ret
      exact ⟨rfl, rfl⟩

set_option maxHeartbeats 1000000 in
/-- zzs1707acmp, in whatever world: two blocks are laid. -/
theorem cmp10 (x y : Fp) (W : World) : Calls Yba.prog 10 #[.agg (encFp x).toArray, .agg (encFp y).toArray] W fun e w' => e = .returned (.int .i64 (cmpFp x y)) ∧ ∃ q os', w' = grow (W.drewN q) os' := by
  obtain ⟨a, b, c⟩ := x
  obtain ⟨a', b', c'⟩ := y
  show Calls Yba.prog 10 #[.agg #[.int .i64 a, .int .i64 b, .int .i64 c], .agg #[.int .i64 a', .int .i64 b', .int .i64 c']] W _
  unfold cmpFp
  have k1 := fun W' => compare17 a a' W'
  have k2 := fun W' => compare17 b b' W'
  have k3 := fun W' => compare17 c c' W'
  dsimp only
  generalize Lib.compareInt a a' = r1 at k1 ⊢
  generalize Lib.compareInt b b' = r2 at k2 ⊢
  generalize Lib.compareInt c c' = r3 at k3 ⊢
  have HK := (show Hid _ from And.intro k1 (And.intro k2 k3))
  clear k1 k2 k3
  go_enter Yba.func10, Yba.ntmps10
  go_wp2_with fail
  refine (HK.out.1 _).mono ?_
  rintro e w1 ⟨rfl, rfl⟩
  by_cases h1 : r1 = 0
  · subst h1
    go_wp2_with fail
    refine (HK.out.2.1 _).mono ?_
    rintro e w1 ⟨rfl, rfl⟩
    by_cases h2 : r2 = 0
    · subst h2
      go_wp2_with fail
      refine (HK.out.2.2 _).mono ?_
      rintro e w1 ⟨rfl, rfl⟩
      go_wp2_with fail
      go_ret
      exact ⟨by simp, 0, _, by rw [alloc_eq_grow, alloc_eq_grow, grow_grow]; rfl⟩
    · go_wp2_with fail
      go_ret
      exact ⟨by simp [h2], 0, _, by rw [alloc_eq_grow, alloc_eq_grow, grow_grow]; rfl⟩
  · go_wp2_with fail
    go_ret
    exact ⟨by simp [h1], 0, _, by rw [alloc_eq_grow, alloc_eq_grow, grow_grow]; rfl⟩

theorem cmpLays10 (blk off size : Nat) (w : World) : CmpLays Yba.prog 10 #[] encFp 3 cmpFp blk off size w :=
  fun _ _ _ _ x y => cmp10 x y _

theorem enters10 : ∀ args w, (callFunc 10 args).run Yba.prog w = .ok (.enter 10 args) w := enters_of Yba.func10 (by kernel_rfl) rfl

/-- slices.SortFunc(d, zzs1707acmp), at one element or more. -/
theorem sort9 (blk off cap : Nat) (d : Array Fp) (w : World) (hH : HoldsK encFp 3 w blk off d) (hblk : blk < w.heap.size) (hsz : d.size ≤ 4096) :
    Calls Yba.prog 9 #[.slice (some ⟨blk, off, none⟩) d.size cap, .func (.func 10) #[] #[]] w fun e w' => e = .returned (.tuple #[]) ∧ ∃ d' n os, PermIn 0 d.size d d' ∧ SortedIn (ltOf cmpFp) 0 d.size d' ∧ w' = sortWorldK encFp 3 w blk off n d' os :=
  AnyQ.slices_SortFunc Yba.sortFp 3 Yba.isAgg59 Yba.sizeOf59 encFp (fun _ => rfl) (fun x v hv => by simp [encFp] at hv; rcases hv with rfl | rfl | rfl <;> rfl) cmpFp swoFp 10 #[] blk off cap d w enters10 (cmpLays10 blk off d.size w) hH hblk (by omega)

theorem neqFp : NeqAt Yba.prog 59 (fun x => .agg (encFp x).toArray) (fun x y : Fp => decide (x = y)) := by
  refine ⟨fun x y w => ?_, GuardAt.agg _ (by kernel_rfl)⟩
  have u3 := Yba.underlying3
  have a3 := Yba.isAgg3
  have z3 := Yba.sizeOf3
  have hS : Yba.prog.underlying 59 = some (.struct (Yba.prog.fieldsOf 59)) := by kernel_rfl
  have hp : Yba.prog.stoodInHeld 59 = false := by kernel_rfl
  obtain ⟨a, b, c⟩ := x
  obtain ⟨a', b', c'⟩ := y
  simp only [encFp]
  rw [run_neq_struct, show (10000 : Nat) = 9999 + 1 from rfl, run_equalIn_agg w 9999 59 _ _ hS hp]
  simp only [Program.fieldsOf, Yba.underlying59]
  go_simp
  by_cases h1 : a = a' <;> by_cases h2 : b = b' <;> by_cases h3 : c = c' <;> simp [h1, h2, h3]
end Go.Proofs.Ybulkaiie
