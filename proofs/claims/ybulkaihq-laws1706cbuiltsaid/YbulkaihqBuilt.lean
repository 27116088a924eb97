/-
  LawS1706CBuilt: her walk.
-/
import Derived.Test.YbulkaihqCheck
import Derived.Deep.OwnRows
import Derived.Laws.CopyOwn
import Derived.Laws.IdiomStrings
import Derived.Maps.AppendAt
import Derived.Below
namespace Go.Proofs.Ybulkaihq
open Go.RowKit

theorem info5 : (Yba.prog.info? 5).map (fun i => (i.zero, i.size, i.bytes)) = some (some (.int .u8 0), 1, 1) := by kernel_rfl

/-- The table's byte for a code. -/
def tab (r : Nat) : UInt8 := [47, 37, 50, 70, 102, 97].getD r 0
def built (T : Nat → UInt8) (k : Nat) : List UInt8 := (List.range k).map T
def bcells (l : List UInt8) : List Value := l.map fun b => .int .u8 (b.toNat : Int)
theorem built_length (T : Nat → UInt8) (k : Nat) : (built T k).length = k := by simp [built]
theorem built_succ (T : Nat → UInt8) (k : Nat) : bcells (built T (k + 1)) = bcells (built T k) ++ [.int .u8 ((T k).toNat : Int)] := by simp [built, bcells, List.range_succ]
theorem index_tab (w : World) (r : Nat) (hr : r < 6) : (Instr.index 9 (.string ⟨#[47, 37, 50, 70, 102, 97]⟩) (.int .i64 (r : Int))).run Yba.prog w = .ok (.int .u8 ((tab r).toNat : Int)) w := by
  rw [run_index_string w 9 _ .i64 _ Yba.underlying9]
  rcases (show r = 0 ∨ r = 1 ∨ r = 2 ∨ r = 3 ∨ r = 4 ∨ r = 5 by omega) with rfl | rfl | rfl | rfl | rfl | rfl <;> rfl

theorem round_kept {N : Nat} {w wr w1 : World} {T : Nat → UInt8} {k : Nat} {v v' : Value} {o : Obj} (hbel : Below N w wr) (hN : N ≤ w.heap.size)
    (hown : wr.ownsRow N 5 1 v k (bcells (built T k))) (hown' : w1.ownsRow N 5 1 v' (k + 1) (bcells (built T k) ++ [.int .u8 ((T k).toNat : Int)])) (hg : (wr.alloc o).grownBy w1 v.ownBlock) :
    w1.ownsRow N 5 1 v' (k + 1) (bcells (built T (k + 1))) ∧ Below N w w1 := by
  rw [built_succ]
  refine ⟨hown', ?_⟩
  have hs := hbel.size
  exact (hbel.alloc (by omega) o).grown hg (by simp; omega) fun k hk => (hown.lt k hk).1

set_option maxHeartbeats 1000000 in
set_option maxRecDepth 100000 in
theorem law_built (w : World) (pa : Option Addr) (n cap : Nat) (Z : Nat → Int) (hn : n ≤ 1024) (hZ : ∀ i, i < n → 0 ≤ Z i ∧ Z i ≤ 255)
    (hp : ∀ i, i < n → ∃ b off, pa = some ⟨b, off, none⟩ ∧ b < w.heap.size ∧ w.cell? ⟨b, off + i, none⟩ = some (.int .u8 (Z i))) :
    Calls Yba.prog 4 #[.slice pa n cap] w fun e w' => e = .returned (.bool true) ∧ Below w.heap.size w w' := by
  obtain ⟨i0, hi, hz0, hz1, hz2⟩ := info_parts info5
  obtain ⟨MC, hMC, hmk⟩ : ∃ MC : Array Value, MC.size = n * 1 ∧ ∀ w : World, (Instr.makeSlice 23 (.int .i64 0) (.int .i64 (n : Int))).run Yba.prog w = .ok (.slice (some ⟨w.heap.size, 0, none⟩) 0 n) (w.alloc (.cells MC 5)) := by
    refine ⟨madeCells (Value.int .u8 0).cells (n * 1), size_madeCells _ _, fun w => ?_⟩
    have := run_make (P := Yba.prog) w 23 5 i0 (.int .u8 0) Yba.underlying23 hi hz0 .i64 .i64 0 n (by omega) (by omega) (by rw [hz2]; omega) (by omega)
    rw [hz1] at this
    simpa using this
  obtain ⟨T, hT⟩ : ∃ T : Nat → UInt8, ∀ i, T i = tab ((Z i).tmod 6).toNat := ⟨_, fun _ => rfl⟩
  have HT := (show Hid _ from hT)
  have HP := (show Hid _ from hp)
  have HZ := (show Hid _ from hZ)
  have HM := (show Hid _ from hMC)
  clear hT hp hZ hMC
  have hn' : (n : Int) ≤ 1024 := by omega
  go_enter Yba.func4, Yba.ntmps4
  go_wp2_with fail
  go_loopw [3, 14] (fun v i wr => ∃ k : Nat, k ≤ n ∧ i = .int .i64 k ∧ v ≠ .slice none 0 0 ∧ wr.ownsRow w.heap.size 5 1 v k (bcells (built T k)) ∧ Below w.heap.size w wr) (fun _ i _ => n - (intOf i).toNat)
  case atStart =>
    refine ⟨0, Nat.zero_le _, rfl, by simp, ?_, (Below.refl _ _).alloc (Nat.le_refl _) _⟩
    exact World.ownsRow_made w MC n (Nat.le_refl _) (by unfold maxLen; omega) HM.out
  case round =>
    obtain ⟨k, hk, rfl, hnn, hown, hbel⟩ := hrel
    by_cases hlt : k < n
    · obtain ⟨b, off, rfl, hb, hc0⟩ := HP.out k hlt
      have hc := (hbel.cell (p := ⟨b, off + k, none⟩) hb).trans hc0
      obtain ⟨z0, z1⟩ := HZ.out k hlt
      obtain ⟨r, hr⟩ : ∃ r : Nat, (Z k).tmod 6 = (r : Int) ∧ r < 6 := by
        refine ⟨((Z k).tmod 6).toNat, ?_, ?_⟩
        · have := Int.tmod_nonneg 6 z0; omega
        · have := Int.tmod_lt_of_pos (Z k) (show (0 : Int) < 6 by omega); omega
      have hTk : tab r = T k := by rw [HT.out, hr.1]; simp
      have hix := fun w => index_tab w r hr.2
      rw [hTk] at hix
      have hrm := hr.1
      have hcv : IntKind.i64.wrap (Z k) = Z k := by rw [IntKind.wrap_i64]; omega
      have hrw : IntKind.i64.wrap (r : Int) = (r : Int) := by have := hr.2; rw [IntKind.wrap_i64]; omega
      have hb' : (k : Int) < (n : Int) := by omega
      obtain ⟨B, hB⟩ : ∃ B : Int, ((T k).toNat : Int) = B := ⟨_, rfl⟩
      rw [hB] at hix
      have HB := (show Hid _ from hB)
      clear hB hTk z0 z1 hr hc0
      go_wp2_with (at_builtin; refine wpList_append_own _ rfl (.tmp 18) (.tmp 23) 23 rfl w.heap.size 5 i0 (.int .u8 0) 1 1 Yba.underlying23 hi hz0 hz1 hz2 rfl (by decide) _ _ _ rfl (hown.alloc _) ⟨wr.heap.size, 0, none⟩ 1 1 [.int .u8 B] rfl rfl ?c1 ?c2 ?c3 ?c4 ?c5 ?_)
      case c1 => exact cell_one_new _ _ _
      case c2 => intro u hu; simp at hu; subst hu; rfl
      case c3 => unfold maxLen; omega
      case c4 => omega
      case c5 => have := hbel.size; simp; omega
      intro v' w1 hown' hg1 hne
      obtain ⟨r1, r2⟩ := round_kept hbel (Nat.le_refl _) hown (by rw [HB.out]; exact hown') hg1
      clear hown' hg1 hown hc
      go_wp2_with fail
      go_roundw
      case rel => exact ⟨k + 1, by omega, by go_num, hne, r1, r2⟩
      case measure => simp [intOf]; omega
    · obtain rfl : k = n := by omega
      obtain ⟨g, c, rfl, hgc⟩ : ∃ g c, u3 = .slice (some ⟨g, 0, none⟩) k c ∧ ∀ j, j < k → wr.cell? ⟨g, j, none⟩ = (bcells (built T k))[j]? := by
        obtain ⟨_, ⟨rfl, h0⟩ | ⟨g, c, cur, rfl, hN, hb, hc1, hc2, hc3, hx⟩⟩ := hown
        · exact absurd rfl hnn
        · refine ⟨g, c, rfl, fun j hj => ?_⟩
          have : (cur.toList.take (k * 1))[j]? = (bcells (built T k))[j]? := by rw [hx]
          rw [Nat.mul_one, List.getElem?_take, if_pos hj] at this
          simp [World.cell?, hb]
          simpa using this
      obtain ⟨S, hS⟩ : ∃ S : ByteArray, (⟨(built T k).toArray⟩ : ByteArray) = S := ⟨_, rfl⟩
      have hcv : (convert 23 9 (.slice (some ⟨g, 0, none⟩) k c)).run Yba.prog wr = .ok (.string S) wr := by
        have h := run_convert_bytes_back (P := Yba.prog) wr 23 9 5 ⟨g, 0, none⟩ c (built T k) Yba.underlying23 Yba.underlying5 Yba.underlying9 (fun j hj => by
          have hj' : j < k := by rwa [built_length] at hj
          rw [Addr.add_lit, Nat.zero_add, hgc j hj']
          simp [bcells, List.getElem?_eq_getElem hj])
        rw [built_length, hS] at h
        exact h
      have hSs : S.size ≤ 4096 := by
        rw [← hS]
        show (built T k).toArray.size ≤ 4096
        simp [built_length]; omega
      have HBel := (show Hid _ from hbel)
      clear hgc hown hbel hnn hS
      have hb' : ¬ (k : Int) < (k : Int) := by omega
      go_wp2_with fail
      refine (check_true wr S hSs).mono ?_
      rintro e w1 ⟨rfl, m, rfl⟩
      go_wp2_with fail
      go_ret
      exact ⟨rfl, HBel.out.trans ⟨rfl, rfl, rfl, Nat.le_refl _, fun _ _ => rfl⟩⟩
end Go.Proofs.Ybulkaihq
