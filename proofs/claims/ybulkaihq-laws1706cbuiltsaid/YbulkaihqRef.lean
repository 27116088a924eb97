/-
  zzs1706cref, zzs1706cholds: contracts.
-/
import Derived.Test.YbulkaihqCut
namespace Go.Proofs.Ybulkaihq
open Go.RowKit

set_option maxHeartbeats 400000 in
set_option maxRecDepth 100000 in
theorem ref_found (w : World) (s : ByteArray) (i k : Nat) (hs : s.size ≤ 4096) (hi : Sep s i k) (hlow : ∀ j, j < i → ¬ Sep1 s j ∧ ¬ Sep3 s j) :
    Calls Yba.prog 7 #[.string s] w fun e w' => e = .returned (.tuple #[.string (s.extract 0 i), .string (s.extract (i + k) s.size), .bool true]) ∧ ∃ m, w' = w.drewN m := by
  obtain ⟨his, hk0, hk3⟩ := hi.lt
  have Hlow := (show Hid _ from hlow)
  clear hlow
  go_enter Yba.func7, Yba.ntmps7
  go_wp2_with fail
  go_loopw [5] (fun x wr => ∃ j : Nat, j ≤ i ∧ x = .int .i64 j ∧ wr = w) (fun x _ => i - (intOf x).toNat)
  case atStart => exact ⟨0, Nat.zero_le _, rfl, rfl⟩
  case round =>
    obtain ⟨j, hj, rfl, rfl⟩ := hrel
    have b : (j : Int) < (s.size : Int) := by omega
    have b0 : (0 : Int) ≤ (j : Int) := by omega
    have t4 : (j : Int) ≤ (s.size : Int) := by omega
    have r1 : ((j : Int) + 3).toNat = j + 3 := by omega
    have r2 : (0 : Int) ≤ (j : Int) + 3 := by omega
    have r3 : IntKind.i64.wrap ((j : Int) + 3) = (j : Int) + 3 := by rw [IntKind.wrap_i64]; omega
    have r4 : (j : Int) ≤ (j : Int) + 3 := by omega
    have t1 : ((j : Int) + 1).toNat = j + 1 := by omega
    have t2 : (0 : Int) ≤ (j : Int) + 1 := by omega
    have t3 : IntKind.i64.wrap ((j : Int) + 1) = (j : Int) + 1 := by rw [IntKind.wrap_i64]; omega
    by_cases h1 : Sep1 s j
    · have hji : j = i := by
        by_cases e : j = i
        · exact e
        · exact absurd h1 (Hlow.out j (by omega)).1
      subst hji
      obtain rfl : k = 1 := by
        rcases hi with ⟨h, _⟩ | ⟨_, h, _⟩
        · exact h
        · exact absurd h1 h
      obtain ⟨q, h47⟩ := h1
      clear hi
      have b1 : (j : Int) + 1 ≤ (s.size : Int) := by omega
      go_wp2_with fail
      go_quiet (fail)
      go_wp2_with fail
      go_ret3
      exact ⟨rfl, _, rfl⟩
    · have n47 : ¬ ((s[j]'(by omega)).toNat : Int) = 47 := fun e => h1 ⟨by omega, e⟩
      by_cases h3 : Sep3 s j
      · have hji : j = i := by
          by_cases e : j = i
          · exact e
          · exact absurd h3 (Hlow.out j (by omega)).2
        subst hji
        obtain rfl : k = 3 := by
          rcases hi with ⟨_, h⟩ | ⟨h, _⟩
          · exact absurd h h1
          · exact h
        have hF := (sep3_iff his).1 h3
        have b3 : (j : Int) + 3 ≤ (s.size : Int) := by omega
        clear hi h1 h3
        rcases hF with hF | hF
        · go_wp2_with fail
          go_quiet (fail)
          go_wp2_with fail
          go_ret3
          exact ⟨rfl, _, rfl⟩
        · go_wp2_with fail
          go_quiet (fail)
          go_wp2_with fail
          go_ret3
          exact ⟨rfl, _, rfl⟩
      · have hjl : j < i := by
          by_cases e : j = i
          · subst e
            rcases hi with ⟨_, h⟩ | ⟨_, _, h⟩
            · exact absurd h h1
            · exact absurd h h3
          · omega
        clear hi h1
        by_cases b3 : j + 3 ≤ s.size
        · have b3' : (j : Int) + 3 ≤ (s.size : Int) := by omega
          have hF : ¬ (s.extract j (j + 3)).toList = [37, 50, 70] := fun e => h3 ((sep3_iff b3).2 (.inl e))
          have hf : ¬ (s.extract j (j + 3)).toList = [37, 50, 102] := fun e => h3 ((sep3_iff b3).2 (.inr e))
          have hF' : ((s.extract j (j + 3)).toList == [37, 50, 70]) = false := by simpa using hF
          have hf' : ((s.extract j (j + 3)).toList == [37, 50, 102]) = false := by simpa using hf
          clear h3
          go_wp2_with fail
          go_roundw
          case rel => exact ⟨j + 1, by omega, by go_num, by first | rfl | trivial⟩
          case measure => simp [intOf]; omega
        · have b3' : ¬ (j : Int) + 3 ≤ (s.size : Int) := by omega
          clear h3
          go_wp2_with fail
          go_roundw
          case rel => exact ⟨j + 1, by omega, by go_num, by first | rfl | trivial⟩
          case measure => simp [intOf]; omega

set_option maxHeartbeats 400000 in
set_option maxRecDepth 100000 in
theorem ref_none (w : World) (s : ByteArray) (hs : s.size ≤ 4096) (hlow : ∀ j, j < s.size → ¬ Sep1 s j ∧ ¬ Sep3 s j) :
    Calls Yba.prog 7 #[.string s] w fun e w' => e = .returned (.tuple #[.string s, .string ⟨#[]⟩, .bool false]) ∧ w' = w := by
  have Hlow := (show Hid _ from hlow)
  clear hlow
  go_enter Yba.func7, Yba.ntmps7
  go_wp2_with fail
  go_loopw [5] (fun x wr => ∃ j : Nat, j ≤ s.size ∧ x = .int .i64 j ∧ wr = w) (fun x _ => s.size - (intOf x).toNat)
  case atStart => exact ⟨0, Nat.zero_le _, rfl, rfl⟩
  case round =>
    obtain ⟨j, hj, rfl, rfl⟩ := hrel
    by_cases hlt : j < s.size
    · have b : (j : Int) < (s.size : Int) := by omega
      have b0 : (0 : Int) ≤ (j : Int) := by omega
      have t4 : (j : Int) ≤ (s.size : Int) := by omega
      have r1 : ((j : Int) + 3).toNat = j + 3 := by omega
      have r2 : (0 : Int) ≤ (j : Int) + 3 := by omega
      have r3 : IntKind.i64.wrap ((j : Int) + 3) = (j : Int) + 3 := by rw [IntKind.wrap_i64]; omega
      have r4 : (j : Int) ≤ (j : Int) + 3 := by omega
      have t1 : ((j : Int) + 1).toNat = j + 1 := by omega
      have t2 : (0 : Int) ≤ (j : Int) + 1 := by omega
      have t3 : IntKind.i64.wrap ((j : Int) + 1) = (j : Int) + 1 := by rw [IntKind.wrap_i64]; omega
      have h1 := (Hlow.out j hlt).1
      have h3 := (Hlow.out j hlt).2
      have n47 : ¬ ((s[j]'(by omega)).toNat : Int) = 47 := fun e => h1 ⟨by omega, e⟩
      clear h1
      by_cases b3 : j + 3 ≤ s.size
      · have b3' : (j : Int) + 3 ≤ (s.size : Int) := by omega
        have hF : ¬ (s.extract j (j + 3)).toList = [37, 50, 70] := fun e => h3 ((sep3_iff b3).2 (.inl e))
        have hf : ¬ (s.extract j (j + 3)).toList = [37, 50, 102] := fun e => h3 ((sep3_iff b3).2 (.inr e))
        have hF' : ((s.extract j (j + 3)).toList == [37, 50, 70]) = false := by simpa using hF
        have hf' : ((s.extract j (j + 3)).toList == [37, 50, 102]) = false := by simpa using hf
        clear h3
        go_wp2_with fail
        go_roundw
        case rel => exact ⟨j + 1, by omega, by go_num, by first | rfl | trivial⟩
        case measure => simp [intOf]; omega
      · have b3' : ¬ (j : Int) + 3 ≤ (s.size : Int) := by omega
        clear h3
        go_wp2_with fail
        go_roundw
        case rel => exact ⟨j + 1, by omega, by go_num, by first | rfl | trivial⟩
        case measure => simp [intOf]; omega
    · have b : ¬ (j : Int) < (s.size : Int) := by omega
      go_wp2_with fail
      go_ret3
      exact ⟨rfl, rfl⟩

set_option maxHeartbeats 400000 in
set_option maxRecDepth 100000 in
theorem holds_none (w : World) (s : ByteArray) (hs : s.size ≤ 4096) (hlow : ∀ j, j < s.size → ¬ Sep1 s j ∧ ¬ Sep3 s j) :
    Calls Yba.prog 8 #[.string s] w fun e w' => e = .returned (.bool false) ∧ w' = w := by
  have Hlow := (show Hid _ from hlow)
  clear hlow
  go_enter Yba.func8, Yba.ntmps8
  go_wp2_with fail
  go_loopw [3] (fun x wr => ∃ j : Nat, j ≤ s.size ∧ x = .int .i64 j ∧ wr = w) (fun x _ => s.size - (intOf x).toNat)
  case atStart => exact ⟨0, Nat.zero_le _, rfl, rfl⟩
  case round =>
    obtain ⟨j, hj, rfl, rfl⟩ := hrel
    by_cases hlt : j < s.size
    · have b : (j : Int) < (s.size : Int) := by omega
      have b0 : (0 : Int) ≤ (j : Int) := by omega
      have t4 : (j : Int) ≤ (s.size : Int) := by omega
      have r1 : ((j : Int) + 3).toNat = j + 3 := by omega
      have r2 : (0 : Int) ≤ (j : Int) + 3 := by omega
      have r3 : IntKind.i64.wrap ((j : Int) + 3) = (j : Int) + 3 := by rw [IntKind.wrap_i64]; omega
      have r4 : (j : Int) ≤ (j : Int) + 3 := by omega
      have t1 : ((j : Int) + 1).toNat = j + 1 := by omega
      have t2 : (0 : Int) ≤ (j : Int) + 1 := by omega
      have t3 : IntKind.i64.wrap ((j : Int) + 1) = (j : Int) + 1 := by rw [IntKind.wrap_i64]; omega
      have h1 := (Hlow.out j hlt).1
      have h3 := (Hlow.out j hlt).2
      have n47 : ¬ ((s[j]'(by omega)).toNat : Int) = 47 := fun e => h1 ⟨by omega, e⟩
      clear h1
      by_cases b3 : j + 3 ≤ s.size
      · have b3' : (j : Int) + 3 ≤ (s.size : Int) := by omega
        have hF : ¬ (s.extract j (j + 3)).toList = [37, 50, 70] := fun e => h3 ((sep3_iff b3).2 (.inl e))
        have hf : ¬ (s.extract j (j + 3)).toList = [37, 50, 102] := fun e => h3 ((sep3_iff b3).2 (.inr e))
        have hF' : ((s.extract j (j + 3)).toList == [37, 50, 70]) = false := by simpa using hF
        have hf' : ((s.extract j (j + 3)).toList == [37, 50, 102]) = false := by simpa using hf
        clear h3
        go_wp2_with fail
        go_roundw
        case rel => exact ⟨j + 1, by omega, by go_num, by first | rfl | trivial⟩
        case measure => simp [intOf]; omega
      · have b3' : ¬ (j : Int) + 3 ≤ (s.size : Int) := by omega
        clear h3
        go_wp2_with fail
        go_roundw
        case rel => exact ⟨j + 1, by omega, by go_num, by first | rfl | trivial⟩
        case measure => simp [intOf]; omega
    · have b : ¬ (j : Int) < (s.size : Int) := by omega
      go_wp2_with fail
      go_ret
      exact ⟨rfl, rfl⟩

/-- Where the first separator stands, if there is one. -/
theorem first_sep (s : ByteArray) : (∀ j, j < s.size → ¬ Sep1 s j ∧ ¬ Sep3 s j) ∨ ∃ i k, Sep s i k ∧ ∀ j, j < i → ¬ Sep1 s j ∧ ¬ Sep3 s j := by
  have main : ∀ n, n ≤ s.size → (∀ j, j < n → ¬ Sep1 s j ∧ ¬ Sep3 s j) ∨ ∃ i k, Sep s i k ∧ ∀ j, j < i → ¬ Sep1 s j ∧ ¬ Sep3 s j := by
    intro n
    induction n with
    | zero => exact fun _ => .inl fun j hj => absurd hj (by omega)
    | succ n ih =>
      intro hn
      rcases ih (by omega) with h | h
      · by_cases h1 : Sep1 s n
        · exact .inr ⟨n, 1, .inl ⟨rfl, h1⟩, h⟩
        · by_cases h3 : Sep3 s n
          · exact .inr ⟨n, 3, .inr ⟨rfl, h1, h3⟩, h⟩
          · refine .inl fun j hj => ?_
            by_cases e : j = n
            · subst e; exact ⟨h1, h3⟩
            · exact h j (by omega)
      · exact .inr h
  exact main s.size (Nat.le_refl _)

theorem ext_get {s : ByteArray} {i j : Nat} (hi : i ≤ s.size) (hj : j < (s.extract 0 i).size) : (s.extract 0 i)[j] = s[j]'(by simp at hj; omega) := by
  show (s.extract 0 i).data[j]'hj = s.data[j]'(by have : s.data.size = s.size := rfl; simp at hj; omega)
  simp [ByteArray.data_extract]

/-- A segment that ends ahead of the first separator holds none. -/
theorem seg_none {s : ByteArray} {i : Nat} (hi : i ≤ s.size) (h : ∀ j, j < i → ¬ Sep1 s j ∧ ¬ Sep3 s j) : ∀ j, j < (s.extract 0 i).size → ¬ Sep1 (s.extract 0 i) j ∧ ¬ Sep3 (s.extract 0 i) j := by
  intro j hj
  have hsz : (s.extract 0 i).size = i := by simp; omega
  rw [hsz] at hj
  obtain ⟨h1, h3⟩ := h j hj
  constructor
  · rintro ⟨q, e⟩
    rw [ext_get hi] at e
    exact h1 ⟨by omega, e⟩
  · rintro ⟨q, e1, e2, e3⟩
    rw [ext_get hi] at e1 e2 e3
    exact h3 ⟨by omega, e1, e2, e3⟩

theorem join3 {s : ByteArray} {i k : Nat} (_h : i + k ≤ s.size) : ((s.extract 0 i ++ s.extract i (i + k)) ++ s.extract (i + k) s.size).toList = s.toList := by
  rw [ByteArray.toList_eq, ByteArray.toList_eq]
  simp

theorem sep_list {s : ByteArray} {i k : Nat} (h : Sep s i k) : (k = 1 ∧ (s.extract i (i + k)).toList = [47]) ∨ (k = 3 ∧ (s.extract i (i + k)).toList = [37, 50, 70]) ∨ (k = 3 ∧ (s.extract i (i + k)).toList = [37, 50, 102]) := by
  have hl := h.lt
  rcases h with ⟨rfl, q, e⟩ | ⟨rfl, _, h3⟩
  · refine .inl ⟨rfl, ?_⟩
    have e1 : s[i] = 47 := (u8_of (n := 47) (by omega)).1 e
    rw [ByteArray.toList_eq]
    apply List.ext_getElem
    · simp; have : s.data.size = s.size := rfl; omega
    · intro n h1 h2
      obtain rfl : n = 0 := by simp at h2; omega
      simp
      exact e1
  · rcases (sep3_iff hl.1).1 h3 with h | h
    · exact .inr (.inl ⟨rfl, h⟩)
    · exact .inr (.inr ⟨rfl, h⟩)
end Go.Proofs.Ybulkaihq
