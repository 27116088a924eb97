/-
  zzs1704ceq: its contract, where the two slices hold the same bytes.
-/
import Derived.Test.YbulkaigoCBytes
namespace Go.Proofs.Ybulkaigo
open Go.RowKit

set_option maxHeartbeats 400000 in
set_option maxRecDepth 100000 in
theorem ceq_eq (w : World) (n c1 c2 : Nat) (a1 a2 : Option Addr) (Z : Nat → Int) (hn : n ≤ 4096)
    (h : ∀ j, j < n → ∃ b1 o1 b2 o2, a1 = some ⟨b1, o1, none⟩ ∧ a2 = some ⟨b2, o2, none⟩ ∧ w.cell? ⟨b1, o1 + j, none⟩ = some (.int .u8 (Z j)) ∧ w.cell? ⟨b2, o2 + j, none⟩ = some (.int .u8 (Z j))) :
    Calls Yba.prog 13 #[.slice a1 n c1, .slice a2 n c2] w fun e w' => e = .returned (.bool true) ∧ ∃ k, w' = w.drewN k := by
  go_enter Yba.func13, Yba.ntmps13
  go_wp2_with fail
  go_loopw [5] (fun i wr => ∃ k : Nat, k ≤ n ∧ i = .int .i64 k ∧ ∃ m, wr = w.drewN m) (fun i _ => n - (intOf i).toNat)
  case atStart => exact ⟨0, Nat.zero_le _, rfl, 0, rfl⟩
  case round =>
    obtain ⟨k, hk, rfl, m, rfl⟩ := hrel
    by_cases hlt : k < n
    · obtain ⟨b1, o1, b2, o2, rfl, rfl, x1, x2⟩ := h k hlt
      clear h
      have b : (k : Int) < (n : Int) := by omega
      go_wp2_with fail
      go_quiet (fail)
      go_wp2_with fail
      go_roundw
      case rel => exact ⟨k + 1, by omega, by go_num, m + nq, rfl⟩
      case measure => simp [intOf]; omega
    · clear h
      go_wp2_with fail
      go_ret
      exact ⟨rfl, m, rfl⟩
end Go.Proofs.Ybulkaigo
