/-
  cutSegment, zzs1706cref, zzs1706cholds: contracts.
-/
import Derived.Test.YbulkaihqProg
import Derived.WalkKit
import Derived.WalkSpells
import Derived.WalkLawsBesides
import Derived.BigQuiet
import Derived.Deep.QuietTactic
import Derived.Laws.DeepStrings4
import Derived.OwnWalk
namespace Go.Proofs.Ybulkaihq
open Go.RowKit

/-- "/" stands at place j. -/
def Sep1 (s : ByteArray) (j : Nat) : Prop := ∃ h : j < s.size, (s[j].toNat : Int) = 47
/-- "%2F" or "%2f" stands at place j. -/
def Sep3 (s : ByteArray) (j : Nat) : Prop := ∃ h : j + 2 < s.size, (s[j].toNat : Int) = 37 ∧ (s[j+1].toNat : Int) = 50 ∧ ((s[j+2].toNat : Int) = 70 ∨ (s[j+2].toNat : Int) = 102)
def Sep (s : ByteArray) (j k : Nat) : Prop := (k = 1 ∧ Sep1 s j) ∨ (k = 3 ∧ ¬ Sep1 s j ∧ Sep3 s j)

theorem Sep.lt {s : ByteArray} {j k : Nat} (h : Sep s j k) : j + k ≤ s.size ∧ 0 < k ∧ k ≤ 3 := by
  rcases h with ⟨rfl, h, _⟩ | ⟨rfl, _, h, _⟩ <;> omega

set_option maxHeartbeats 400000 in
set_option maxRecDepth 100000 in
theorem cut_found (w : World) (s : ByteArray) (i k : Nat) (hs : s.size ≤ 4096) (hi : Sep s i k) (hlow : ∀ j, j < i → ¬ Sep1 s j ∧ ¬ Sep3 s j) :
    Calls Yba.prog 6 #[.string s] w fun e w' => e = .returned (.tuple #[.string (s.extract 0 i), .string (s.extract (i + k) s.size), .bool true]) ∧ ∃ m, w' = w.drewN m := by
  obtain ⟨his, hk0, hk3⟩ := hi.lt
  have Hlow := (show Hid _ from hlow)
  clear hlow
  go_enter Yba.func6, Yba.ntmps6
  go_wp2_with fail
  go_loopw [5] (fun x wr => ∃ j : Nat, j ≤ i ∧ x = .int .i64 j ∧ wr = w) (fun x _ => i - (intOf x).toNat)
  case atStart => exact ⟨0, Nat.zero_le _, rfl, rfl⟩
  case round =>
    obtain ⟨j, hj, rfl, rfl⟩ := hrel
    have b : (j : Int) < (s.size : Int) := by omega
    have b0 : (0 : Int) ≤ (j : Int) := by omega
    by_cases h1 : Sep1 s j
    · have hji : j = i := by
        by_cases e : j = i
        · exact e
        · exact absurd h1 (Hlow.out j (by omega)).1
      subst hji
      obtain rfl : k = 1 := by
        rcases hi with ⟨h, _⟩ | ⟨_, h, _⟩
        · exact h
        · exact absurd h1 h
      obtain ⟨q, h47⟩ := h1
      clear hi
      have b1 : (j : Int) + 1 ≤ (s.size : Int) := by omega
      have t1 : ((j : Int) + 1).toNat = j + 1 := by omega
      have t2 : (0 : Int) ≤ (j : Int) + 1 := by omega
      have t3 : IntKind.i64.wrap ((j : Int) + 1) = (j : Int) + 1 := by rw [IntKind.wrap_i64]; omega
      have t4 : (j : Int) ≤ (s.size : Int) := by omega
      go_wp2_with fail
      go_quiet (fail)
      go_wp2_with fail
      go_ret3
      exact ⟨rfl, _, rfl⟩
    · have n47 : ¬ ((s[j]'(by omega)).toNat : Int) = 47 := fun e => h1 ⟨by omega, e⟩
      have t1 : ((j : Int) + 1).toNat = j + 1 := by omega
      have t2 : (0 : Int) ≤ (j : Int) + 1 := by omega
      have t3 : IntKind.i64.wrap ((j : Int) + 1) = (j : Int) + 1 := by rw [IntKind.wrap_i64]; omega
      have s1 : ((j : Int) + 2).toNat = j + 2 := by omega
      have s2 : (0 : Int) ≤ (j : Int) + 2 := by omega
      have s3 : IntKind.i64.wrap ((j : Int) + 2) = (j : Int) + 2 := by rw [IntKind.wrap_i64]; omega
      by_cases h3 : Sep3 s j
      · have hji : j = i := by
          by_cases e : j = i
          · exact e
          · exact absurd h3 (Hlow.out j (by omega)).2
        subst hji
        obtain rfl : k = 3 := by
          rcases hi with ⟨_, h⟩ | ⟨h, _⟩
          · exact absurd h h1
          · exact h
        obtain ⟨q, h37, h50, hF⟩ := h3
        clear hi h1
        have b1 : (j : Int) + 1 < (s.size : Int) := by omega
        have b2 : (j : Int) + 2 < (s.size : Int) := by omega
        have b3 : (j : Int) + 3 ≤ (s.size : Int) := by omega
        have r1 : ((j : Int) + 3).toNat = j + 3 := by omega
        have r2 : (0 : Int) ≤ (j : Int) + 3 := by omega
        have r3 : IntKind.i64.wrap ((j : Int) + 3) = (j : Int) + 3 := by rw [IntKind.wrap_i64]; omega
        have t4 : (j : Int) ≤ (s.size : Int) := by omega
        rcases hF with hF | hF
        · go_wp2_with fail
          go_quiet (fail)
          go_wp2_with fail
          go_ret3
          exact ⟨rfl, _, rfl⟩
        · go_wp2_with fail
          go_quiet (fail)
          go_wp2_with fail
          go_ret3
          exact ⟨rfl, _, rfl⟩
      · have hjl : j < i := by
          by_cases e : j = i
          · subst e
            rcases hi with ⟨_, h⟩ | ⟨_, _, h⟩
            · exact absurd h h1
            · exact absurd h h3
          · omega
        clear hi h1
        by_cases h37 : ((s[j]'(by omega)).toNat : Int) = 37
        · by_cases b2 : j + 2 < s.size
          · have b1' : (j : Int) + 1 < (s.size : Int) := by omega
            have b2' : (j : Int) + 2 < (s.size : Int) := by omega
            by_cases h50 : ((s[j + 1]'(by omega)).toNat : Int) = 50
            · have n70 : ¬ ((s[j + 2]'(by omega)).toNat : Int) = 70 := fun e => h3 ⟨b2, h37, h50, .inl e⟩
              have n102 : ¬ ((s[j + 2]'(by omega)).toNat : Int) = 102 := fun e => h3 ⟨b2, h37, h50, .inr e⟩
              have m70 : (((s[j + 2]'(by omega)).toNat : Int) == 70) = false := by simpa using n70
              have m102 : (((s[j + 2]'(by omega)).toNat : Int) == 102) = false := by simpa using n102
              clear h3
              go_wp2_with fail
              go_roundw
              case rel => exact ⟨j + 1, by omega, by go_num, by first | rfl | trivial⟩
              case measure => simp [intOf]; omega
            · clear h3
              go_wp2_with fail
              go_roundw
              case rel => exact ⟨j + 1, by omega, by go_num, by first | rfl | trivial⟩
              case measure => simp [intOf]; omega
          · have b2' : ¬ (j : Int) + 2 < (s.size : Int) := by omega
            clear h3
            go_wp2_with fail
            go_roundw
            case rel => exact ⟨j + 1, by omega, by go_num, by first | rfl | trivial⟩
            case measure => simp [intOf]; omega
        · clear h3
          go_wp2_with fail
          go_roundw
          case rel => exact ⟨j + 1, by omega, by go_num, by first | rfl | trivial⟩
          case measure => simp [intOf]; omega

set_option maxHeartbeats 400000 in
set_option maxRecDepth 100000 in
theorem cut_none (w : World) (s : ByteArray) (hs : s.size ≤ 4096) (hlow : ∀ j, j < s.size → ¬ Sep1 s j ∧ ¬ Sep3 s j) :
    Calls Yba.prog 6 #[.string s] w fun e w' => e = .returned (.tuple #[.string s, .string ⟨#[]⟩, .bool false]) ∧ ∃ m, w' = w.drewN m := by
  have Hlow := (show Hid _ from hlow)
  clear hlow
  go_enter Yba.func6, Yba.ntmps6
  go_wp2_with fail
  go_loopw [5] (fun x wr => ∃ j : Nat, j ≤ s.size ∧ x = .int .i64 j ∧ wr = w) (fun x _ => s.size - (intOf x).toNat)
  case atStart => exact ⟨0, Nat.zero_le _, rfl, rfl⟩
  case round =>
    obtain ⟨j, hj, rfl, rfl⟩ := hrel
    by_cases hlt : j < s.size
    · have b : (j : Int) < (s.size : Int) := by omega
      have b0 : (0 : Int) ≤ (j : Int) := by omega
      have h1 := (Hlow.out j hlt).1
      have h3 := (Hlow.out j hlt).2
      have n47 : ¬ ((s[j]'(by omega)).toNat : Int) = 47 := fun e => h1 ⟨by omega, e⟩
      have t1 : ((j : Int) + 1).toNat = j + 1 := by omega
      have t2 : (0 : Int) ≤ (j : Int) + 1 := by omega
      have t3 : IntKind.i64.wrap ((j : Int) + 1) = (j : Int) + 1 := by rw [IntKind.wrap_i64]; omega
      have s1 : ((j : Int) + 2).toNat = j + 2 := by omega
      have s2 : (0 : Int) ≤ (j : Int) + 2 := by omega
      have s3 : IntKind.i64.wrap ((j : Int) + 2) = (j : Int) + 2 := by rw [IntKind.wrap_i64]; omega
      clear h1
      by_cases h37 : ((s[j]'(by omega)).toNat : Int) = 37
      · by_cases b2 : j + 2 < s.size
        · have b1' : (j : Int) + 1 < (s.size : Int) := by omega
          have b2' : (j : Int) + 2 < (s.size : Int) := by omega
          by_cases h50 : ((s[j + 1]'(by omega)).toNat : Int) = 50
          · have n70 : ¬ ((s[j + 2]'(by omega)).toNat : Int) = 70 := fun e => h3 ⟨b2, h37, h50, .inl e⟩
            have n102 : ¬ ((s[j + 2]'(by omega)).toNat : Int) = 102 := fun e => h3 ⟨b2, h37, h50, .inr e⟩
            have m70 : (((s[j + 2]'(by omega)).toNat : Int) == 70) = false := by simpa using n70
            have m102 : (((s[j + 2]'(by omega)).toNat : Int) == 102) = false := by simpa using n102
            clear h3
            go_wp2_with fail
            go_roundw
            case rel => exact ⟨j + 1, by omega, by go_num, by first | rfl | trivial⟩
            case measure => simp [intOf]; omega
          · clear h3
            go_wp2_with fail
            go_roundw
            case rel => exact ⟨j + 1, by omega, by go_num, by first | rfl | trivial⟩
            case measure => simp [intOf]; omega
        · have b2' : ¬ (j : Int) + 2 < (s.size : Int) := by omega
          clear h3
          go_wp2_with fail
          go_roundw
          case rel => exact ⟨j + 1, by omega, by go_num, by first | rfl | trivial⟩
          case measure => simp [intOf]; omega
      · clear h3
        go_wp2_with fail
        go_roundw
        case rel => exact ⟨j + 1, by omega, by go_num, by first | rfl | trivial⟩
        case measure => simp [intOf]; omega
    · have b : ¬ (j : Int) < (s.size : Int) := by omega
      go_wp2_with fail
      go_ret3
      exact ⟨rfl, 0, rfl⟩

/-! ### The parts of a string, as lists -/
theorem part3 {s : ByteArray} {j : Nat} (h : j + 3 ≤ s.size) : (s.extract j (j + 3)).toList = [s[j], s[j + 1], s[j + 2]] := by
  rw [ByteArray.toList_eq]
  apply List.ext_getElem
  · simp; have : s.data.size = s.size := rfl; omega
  · intro n h1 h2
    have hn : n < 3 := by simpa using h2
    rcases (show n = 0 ∨ n = 1 ∨ n = 2 by omega) with rfl | rfl | rfl <;> simp <;> rfl
theorem u8_of {b : UInt8} {n : Nat} (h : n < 256) : ((b.toNat : Int) = n) ↔ b = UInt8.ofNat n := by
  constructor
  · intro e
    apply UInt8.toNat_inj.1
    rw [UInt8.toNat_ofNat']
    omega
  · rintro rfl
    rw [UInt8.toNat_ofNat']
    omega
theorem part3_is {s : ByteArray} {j : Nat} (h : j + 3 ≤ s.size) (c : UInt8) : (s.extract j (j + 3)).toList = [37, 50, c] ↔ ((s[j]'(by omega)).toNat : Int) = 37 ∧ ((s[j + 1]'(by omega)).toNat : Int) = 50 ∧ s[j + 2]'(by omega) = c := by
  rw [part3 h]
  have e1 : ((s[j]'(by omega)).toNat : Int) = 37 ↔ s[j]'(by omega) = 37 := u8_of (n := 37) (by omega)
  have e2 : ((s[j + 1]'(by omega)).toNat : Int) = 50 ↔ s[j + 1]'(by omega) = 50 := u8_of (n := 50) (by omega)
  rw [e1, e2]
  simp
theorem sep3_iff {s : ByteArray} {j : Nat} (h : j + 3 ≤ s.size) : Sep3 s j ↔ (s.extract j (j + 3)).toList = [37, 50, 70] ∨ (s.extract j (j + 3)).toList = [37, 50, 102] := by
  have e3 : ((s[j + 2]'(by omega)).toNat : Int) = 70 ↔ s[j + 2]'(by omega) = 70 := u8_of (n := 70) (by omega)
  have e4 : ((s[j + 2]'(by omega)).toNat : Int) = 102 ↔ s[j + 2]'(by omega) = 102 := u8_of (n := 102) (by omega)
  rw [part3_is h, part3_is h]
  unfold Sep3
  constructor
  · rintro ⟨_, h1, h2, h3⟩
    rcases h3 with h3 | h3
    · exact .inl ⟨h1, h2, e3.1 h3⟩
    · exact .inr ⟨h1, h2, e4.1 h3⟩
  · rintro (⟨h1, h2, h3⟩ | ⟨h1, h2, h3⟩)
    · exact ⟨by omega, h1, h2, .inl (e3.2 h3)⟩
    · exact ⟨by omega, h1, h2, .inr (e4.2 h3)⟩
end Go.Proofs.Ybulkaihq
