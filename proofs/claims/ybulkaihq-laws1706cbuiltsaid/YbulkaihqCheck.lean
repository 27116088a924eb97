/-
  zzs1706ccheck returns true.
-/
import Derived.Test.YbulkaihqRef
import Derived.Laws.Concat
namespace Go.Proofs.Ybulkaihq
open Go.RowKit

set_option maxHeartbeats 400000 in
set_option maxRecDepth 100000 in
theorem check_none (w : World) (s : ByteArray) (hs : s.size ≤ 4096) (hlow : ∀ j, j < s.size → ¬ Sep1 s j ∧ ¬ Sep3 s j) :
    Calls Yba.prog 5 #[.string s] w fun e w' => e = .returned (.bool true) ∧ ∃ m, w' = w.drewN m := by
  have Hlow := (show Hid _ from hlow)
  clear hlow
  go_enter Yba.func5, Yba.ntmps5
  go_wp2_with fail
  refine (cut_none w s hs Hlow.out).mono ?_
  rintro e w1 ⟨rfl, m, rfl⟩
  go_wp2_with fail
  refine (ref_none _ s hs Hlow.out).mono ?_
  rintro e w2 ⟨rfl, rfl⟩
  go_wp2_with fail
  go_ret
  exact ⟨rfl, _, rfl⟩

set_option maxHeartbeats 400000 in
set_option maxRecDepth 100000 in
theorem check_found (w : World) (s : ByteArray) (hs : s.size ≤ 4096) (i k : Nat) (hi : Sep s i k) (hlow : ∀ j, j < i → ¬ Sep1 s j ∧ ¬ Sep3 s j) :
    Calls Yba.prog 5 #[.string s] w fun e w' => e = .returned (.bool true) ∧ ∃ m, w' = w.drewN m := by
  obtain ⟨hl, hk0, _⟩ := hi.lt
  have hsep := sep_list hi
  have hseg := seg_none (by omega) hlow
  have hjoin := join3 (s := s) hl
  have C6 := fun w => cut_found w s i k hs hi hlow
  have C7 := fun w => ref_found w s i k hs hi hlow
  have z1 : (s.extract 0 i).size = i := by simp; omega
  have z2 : (s.extract i (i + k)).size = k := by simp; omega
  have z3 : (s.extract (i + k) s.size).size + (i + k) = s.size := by simp; omega
  clear hi hlow
  obtain ⟨e, he⟩ : ∃ e, i + k = e := ⟨_, rfl⟩
  rw [he] at hsep hjoin C6 C7 z2 z3
  obtain ⟨A, hA⟩ : ∃ A, s.extract 0 i = A := ⟨_, rfl⟩
  obtain ⟨T, hT⟩ : ∃ T, s.extract i e = T := ⟨_, rfl⟩
  obtain ⟨R, hR⟩ : ∃ R, s.extract e s.size = R := ⟨_, rfl⟩
  obtain ⟨AT, hAT⟩ : ∃ AT, A ++ T = AT := ⟨_, rfl⟩
  obtain ⟨J, hJ⟩ : ∃ J, AT ++ R = J := ⟨_, rfl⟩
  rw [hA] at hseg hjoin C6 C7 z1
  rw [hT] at hsep hjoin z2
  rw [hR] at hjoin C6 C7 z3
  rw [hAT, hJ] at hjoin
  obtain ⟨r, hr⟩ : ∃ r, R.size = r := ⟨_, rfl⟩
  rw [hr] at z3
  have zAT : AT.size = i + k := by rw [← hAT, ByteArray.size_append, z1, z2]
  have add1 : ∀ w, (Op.stringOp .add A T).run Yba.prog w = .ok (.string AT) w := fun w => by rw [run_string_add_sum w A T (by omega), hAT]
  have add2 : ∀ w, (Op.stringOp .add AT R).run Yba.prog w = .ok (.string J) w := fun w => by rw [run_string_add_sum w AT R (by omega), hJ]
  have hsz : A.size ≤ 4096 := by omega
  have C8 := fun w => holds_none w A hsz hseg
  have H6 := (show Hid _ from C6)
  have H7 := (show Hid _ from C7)
  have H8 := (show Hid _ from C8)
  clear C6 C7 C8 hseg hsz hAT hJ hA hR zAT
  have u1 : IntKind.i64.wrap ((i : Int) + (r : Int)) = (i : Int) + (r : Int) := by rw [IntKind.wrap_i64]; omega
  have u2 : ¬ (s.size : Int) ≤ (i : Int) + (r : Int) := by omega
  have u3 : IntKind.i64.wrap ((s.size : Int) - (r : Int)) = (e : Int) := by rw [IntKind.wrap_i64]; omega
  have u4 : (i : Int) ≤ (e : Int) := by omega
  have u5 : (e : Int) ≤ (s.size : Int) := by omega
  clear z2 z3 he hl hk0 hs
  rcases hsep with ⟨_, hS⟩ | ⟨_, hS⟩ | ⟨_, hS⟩
  all_goals
    go_enter Yba.func5, Yba.ntmps5
    go_wp2_with fail
    refine (H6.out w).mono ?_
    rintro e w1 ⟨rfl, m, rfl⟩
    go_wp2_with fail
    refine (H7.out _).mono ?_
    rintro e w2 ⟨rfl, m2, rfl⟩
    go_wp2_with fail
    refine (H8.out _).mono ?_
    rintro e w3 ⟨rfl, rfl⟩
    go_wp2_with fail
    go_ret
    exact ⟨rfl, _, rfl⟩

theorem check_true (w : World) (s : ByteArray) (hs : s.size ≤ 4096) :
    Calls Yba.prog 5 #[.string s] w fun e w' => e = .returned (.bool true) ∧ ∃ m, w' = w.drewN m := by
  rcases first_sep s with h | ⟨i, k, hi, h⟩
  · exact check_none w s hs h
  · exact check_found w s hs i k hi h
end Go.Proofs.Ybulkaihq
