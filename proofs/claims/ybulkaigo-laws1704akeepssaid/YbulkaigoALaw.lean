/-
  LawS1704AKeeps: her walk.
-/
import Derived.Test.YbulkaigoALaws
namespace Go.Proofs.Ybulkaigo
open Go.RowKit

set_option maxHeartbeats 1000000 in
set_option maxRecDepth 100000 in
theorem law_a (w : World) (base offset steps rem : Int) (raw : Bool) (pa : Option Addr) (n cap : Nat) (B : Nat → Bool) (hn : n ≤ 1024) (hbw : Hid (IntKind.u64.wrap base = base))
    (hp : ∀ i, i < n → ∃ b off, pa = some ⟨b, off, none⟩ ∧ b < w.heap.size ∧ w.cell? ⟨b, off + i, none⟩ = some (.bool (B i))) :
    Calls Yba.prog 3 #[.int .u64 base, .int .u64 offset, .int .u8 steps, .int .u32 rem, .bool raw, .slice pa n cap] w fun e w' => e = .returned (.bool true) ∧ Below w.heap.size w w' := by
  obtain ⟨i0, hi, hz0, hz1, hz2⟩ := info_parts info26
  have hmk := run_make_row' (P := Yba.prog) 25 26 (.pointer none) 8 Yba.underlying25 info26 rfl .i64 .i64 n (by omega) (by omega)
  go_enter Yba.func3, Yba.ntmps3
  go_wp2_with fail
  go_loopw [34] (fun i wr => ∃ k : Nat, k ≤ n ∧ i = .int .i64 k ∧ (∃ P : Nat → Option Addr, wr.rowIs w.heap.size 26 n (fun i => .pointer (P i))) ∧ Below w.heap.size w wr)
    (fun i _ => n - (intOf i).toNat)
  case atStart => exact ⟨0, Nat.zero_le _, rfl, ⟨fun _ => none, World.rowIs_made _ _ _ _⟩, (Below.refl _ _).alloc (Nat.le_refl _) _⟩
  case round =>
    obtain ⟨k, hk, rfl, ⟨P, hrow⟩, hbel⟩ := hrel
    by_cases hlt : k < n
    · obtain ⟨b, off, rfl, hbw, hc⟩ := hp k hlt
      have hcr := (hbel.cell (p := ⟨b, off + k, none⟩) hbw).trans hc
      have hco := hrow.cell hlt
      have hfo := hrow.frozen k
      have hlo := hrow.lt
      have HR : Hid (wr.rowIs w.heap.size 26 n (fun i => .pointer (P i))) := hrow
      clear hc hp hrow
      cases hB : B k with
      | false =>
        rw [hB] at hcr
        go_wp2_with fail
        go_roundw
        case rel => exact ⟨k + 1, by omega, by go_num, ⟨P, HR.out⟩, hbel⟩
        case measure => simp [intOf]; omega
      | true =>
        rw [hB] at hcr
        go_wp2_with (refine wpList_alloc28 rfl rfl ?_; intro z)
        go_roundw
        case rel => exact ⟨k + 1, by omega, by go_num, ⟨_, put_new HR.out⟩, (hbel.setCell (Nat.le_refl _) _).alloc (by simp; omega) _⟩
        case measure => simp [intOf]; omega
    · have hlo := hrow.lt
      obtain ⟨wo, hwo⟩ : ∃ wo : World, wo = wr := ⟨_, rfl⟩
      subst hwo
      have HR : Hid (wo.rowIs w.heap.size 26 n (fun i => .pointer (P i))) := hrow
      clear hp hrow
      have Hsrc : Hid (∀ j, j < n → (wo.alloc (.cells (madeCells #[.pointer none] n) 26)).cell? ((⟨w.heap.size, 0, none⟩ : Addr).add j) = some (.pointer (P j))) := fun j hj => by
        rw [Addr.add_lit, Nat.zero_add]
        exact (HR.out.alloc _).cell hj
      go_upto_if 57 with (refine wpList_copy_rowIs rfl (.tmp 48) (.tmp 49) 25 25 rfl 26 Yba.underlying25 size26 wo.heap.size n n (some ⟨w.heap.size, 0, none⟩) n n rfl rfl 26 n (fun _ => .pointer none) (fun i => .pointer (P i)) (World.rowIs_made _ _ _ _) n (by simp) (Nat.le_refl _) (fun _ => ⟨_, rfl, Hsrc.out⟩) (fun _ _ => rfl) (fun j h1 h2 => by omega) ?_; intro w3 hrow3 hg3 hsz3; have HR3 : Hid (w3.rowIs wo.heap.size 26 n (fun i => .pointer (P i))) := hrow3; have HG3 : Hid ((wo.alloc (.cells (madeCells #[.pointer none] n) 26)).grownBy w3 (some wo.heap.size)) := hg3; have HS3 : Hid (w3.heap.size = (wo.alloc (.cells (madeCells #[.pointer none] n) 26)).heap.size) := hsz3; clear hrow3 hg3 hsz3)
      go_cut [18] from 56 to 66 (fun s18 wc => (∃ off : Int, s18 = .int .u64 off) ∧ wc = w3.alloc (.cells #[.int .u64 base, .slice (some ⟨wo.heap.size, 0, none⟩) n n] 31))
      case first =>
        cases raw
        all_goals
          go_wp2_with fail
          go_meet
          case rel => exact ⟨⟨_, rfl⟩, rfl⟩
      case rest =>
        obtain ⟨⟨off, rfl⟩, rfl⟩ := hcut
        obtain ⟨q, hq, HQ⟩ := quo_ex (off - base)
        obtain ⟨d, HD, hdn⟩ : ∃ d : Nat, Hid ((if n < q then (n : Int) else (q : Int)) = (d : Int)) ∧ d ≤ n := by
          by_cases h : n < q
          · exact ⟨n, by simp [Hid, h], Nat.le_refl _⟩
          · exact ⟨q, by simp [Hid, h], by omega⟩
        go_upto_if 75 with fail
        go_cut [19] from 67 to 78 (fun s19 wc => s19 = .int .u64 (d : Int) ∧ wc = w3.alloc (.cells #[.int .u64 base, .slice (some ⟨wo.heap.size, 0, none⟩) n n] 31))
        case first =>
          have hd := HD.out
          by_cases hnq : n < q
          · rw [if_pos hnq] at hd
            have hdn' : n = d := by omega
            subst hdn'
            clear hd
            go_wp2_with fail
            go_meet
            case rel => exact ⟨rfl, rfl⟩
          · rw [if_neg hnq] at hd
            have hdn' : q = d := by omega
            subst hdn'
            clear hd
            go_wp2_with fail
            go_meet
            case rel => exact ⟨rfl, rfl⟩
        case rest =>
          obtain ⟨rfl, rfl⟩ := hcut
          clear hq
          have hw3 := HS3.out
          have HB3 : Hid (Below w.heap.size w (w3.alloc (.cells #[.int .u64 base, .slice (some ⟨wo.heap.size, 0, none⟩) n n] 31))) := by
            have h1 := hbel.size
            refine ((hbel.alloc (by omega) _).grown HG3.out (by simp; omega) (by intro k hk; simp at hk; omega)).alloc ?_ _
            have h2 := HG3.out.size
            simp at h2; omega
          have HO3 : Hid ((w3.alloc (.cells #[.int .u64 base, .slice (some ⟨wo.heap.size, 0, none⟩) n n] 31)).rowIs w.heap.size 26 n (fun i => .pointer (P i))) := by
            refine ((HR.out.alloc _).of_block (HG3.out.block _ ?_ ?_)).alloc _
            · simp; omega
            · simp; omega
          have HC3 : Hid ((w3.alloc (.cells #[.int .u64 base, .slice (some ⟨wo.heap.size, 0, none⟩) n n] 31)).rowIs wo.heap.size 26 n (fun i => .pointer (P i))) := HR3.out.alloc _
          have hlt3 : wo.heap.size < w3.heap.size := HR3.out.lt
          clear hw3 Hsrc HR HR3 HG3 HS3 hbel hmk
          go_wp2_with fail
          refine (release_any _ w3.heap.size wo.heap.size n q d base off P hn hbw HQ.out HD.out ?_ ?_ ?_ ?_ HC3.out hlt3 ?_).mono ?_
          · simp
          · simp
          · simp
          · simp
          · simp
          rintro e w5 ⟨v, rfl, hown, hnil, hc0, hc1, hrow5, hbel5, hsz5⟩
          have HO5 : Hid (w5.rowIs w.heap.size 26 n (fun i => .pointer (P i))) := HO3.out.of_block (hbel5.block _ hlo)
          have HB5 : Hid (Below w.heap.size w w5) := HB3.out.trans (hbel5.mono (by omega))
          have HW5 : Hid (w5.ownsRow (w3.alloc (.cells #[.int .u64 base, .slice (some ⟨wo.heap.size, 0, none⟩) n n] 31)).heap.size 26 1 v (spent P d).length (spent P d) ∧ (spent P d = [] → v = .slice none 0 0)) := ⟨hown, hnil⟩
          have HC5 : Hid (w5.rowIs wo.heap.size 26 n (fun i => .pointer (shifted P n d i))) := hrow5
          have hs5 : w3.heap.size < w5.heap.size := by simp at hsz5; omega
          have HS5 : Hid (w5.cell? ⟨w3.heap.size, 0, none⟩ = some (.int .u64 (IntKind.u64.wrap (base + (d : Int) * 65536))) ∧ w5.cell? ⟨w3.heap.size, 1, none⟩ = some (.slice (some ⟨wo.heap.size, 0, none⟩) (n - d) n)) := ⟨hc0, hc1⟩
          clear hown hnil hrow5 hc0 hc1 hbel5 hsz5 HO3 HB3 HC3 HQ HD
          go_wp2_with fail
          go_loopw [22, 23] (fun v2 i w6 => ∃ k2 : Nat, k2 ≤ d ∧ i = .int .i64 k2 ∧ w6.ownsRow w5.heap.size 26 1 v2 (spent P k2).length (spent P k2) ∧ (spent P k2 = [] → v2 = .slice none 0 0) ∧ Below w5.heap.size w5 w6)
            (fun _ i _ => d - (intOf i).toNat)
          case atStart => exact ⟨0, Nat.zero_le _, rfl, World.ownsRow_nil _ _ _ _, fun _ => rfl, Below.refl _ _⟩
          case round =>
            obtain ⟨k2, hk2, rfl, hown2, hnil2, hbel2⟩ := hrel
            by_cases hlt2 : k2 < d
            · have hc2 := (HO5.out.of_block (hbel2.block _ HO5.out.lt)).cell (i := k2) (by omega)
              have hle2 := spent_le P k2
              have HN2 : Hid (spent P k2 = [] → u22 = .slice none 0 0) := hnil2
              clear hnil2
              cases hP : P k2 with
              | none =>
                rw [hP] at hc2
                have HP : Hid (P k2 = none) := hP
                clear hP
                go_wp2_with fail
                go_roundw
                case rel => exact ⟨k2 + 1, by omega, by go_num, by rw [spent_miss HP.out]; exact hown2, by rw [spent_miss HP.out]; exact HN2.out, hbel2⟩
                case measure => simp [intOf]; omega
              | some a =>
                rw [hP] at hc2
                have HP : Hid (P k2 = some a) := hP
                clear hP
                go_wp2_with (at_builtin; refine wpList_append_own _ rfl (.tmp 94) (.tmp 99) 25 rfl w5.heap.size 26 i0 (.pointer none) 1 8 Yba.underlying25 hi hz0 hz1 hz2 rfl (by decide) _ _ _ rfl (hown2.alloc _) ⟨wr.heap.size, 0, none⟩ 1 1 [.pointer (some a)] rfl rfl ?c1 ?c2 ?c3 ?c4 ?c5 ?_)
                case c1 => exact cell_one_new _ _ _
                case c2 => intro u hu; simp at hu; subst hu; rfl
                case c3 => unfold maxLen; omega
                case c4 => omega
                case c5 => have := hbel2.size; simp; omega
                intro v' w1 hown' hg1 hne
                obtain ⟨r1, r2, r3⟩ := gath_hit HP.out hbel2 (Nat.le_refl _) hown2 hown' hg1
                have R2 : Hid (spent P (k2 + 1) ≠ []) := r2
                clear hown' hg1 hne hown2 r2 hc2
                go_wp2_with fail
                go_roundw
                case rel => exact ⟨k2 + 1, by omega, by go_num, r1, fun h => absurd h R2.out, r3⟩
                case measure => simp [intOf]; omega
            · have hkd : k2 = d := by omega
              subst hkd
              obtain ⟨w7, hw7⟩ : ∃ w7 : World, w7 = wr := ⟨_, rfl⟩
              subst hw7
              obtain ⟨ga, gc, rfl, hgn, hgs⟩ := own_shape (owns_below HW5.out.1 hbel2) HW5.out.2
              obtain ⟨wa, wc, rfl, hwn, hws⟩ := own_shape hown2 hnil2
              obtain ⟨m, hm⟩ : ∃ m, m = (spent P k2).length := ⟨_, rfl⟩
              have hle3 := spent_le P k2
              rw [← hm] at hgs hws hle3 ⊢
              have hgw : ga.isNone = wa.isNone := hgn.trans hwn.symm
              have HX : Hid (∀ j, j < m → ∃ g1 g2 a, ga = some ⟨g1, 0, none⟩ ∧ g1 < w7.heap.size ∧ wa = some ⟨g2, 0, none⟩ ∧ g2 < w7.heap.size ∧ w7.cell? ⟨g1, j, none⟩ = some (.pointer (some a)) ∧ w7.cell? ⟨g2, j, none⟩ = some (.pointer (some a))) := fun j hj => by
                obtain ⟨g1, e1, l1, c1⟩ := hgs j hj
                obtain ⟨g2, e2, l2, c2⟩ := hws j hj
                obtain ⟨a, ha⟩ := spent_at P k2 j (by omega)
                exact ⟨g1, g2, a, e1, l1, e2, l2, c1.trans ha, c2.trans ha⟩
              have qn := fun (w : World) (a : Option Addr) (n c : Nat) => Lib.run_eql_slice_nil (P := Yba.prog) w 25 26 a n c 0 0 Yba.underlying25
              clear hgs hws hgn hwn hnil2 hown2 hm HW5
              go_wp2_with fail
              go_loopw [24] (fun i w8 => ∃ k3 : Nat, k3 ≤ m ∧ i = .int .i64 k3 ∧ Below w7.heap.size w7 w8) (fun i _ => m - (intOf i).toNat)
              case atStart => exact ⟨0, Nat.zero_le _, rfl, Below.refl _ _⟩
              case round =>
                obtain ⟨k3, hk3, rfl, hbel3⟩ := hrel
                by_cases hlt3' : k3 < m
                · obtain ⟨g1, g2, a, rfl, l1, rfl, l2, c1, c2⟩ := HX.out k3 hlt3'
                  have d1 := (hbel3.cell (p := ⟨g1, k3, none⟩) l1).trans c1
                  have d2 := (hbel3.cell (p := ⟨g2, k3, none⟩) l2).trans c2
                  clear c1 c2
                  have b1 : (k3 : Int) < (m : Int) := by omega
                  have hnq := neq_same
                  go_wp2_with fail
                  go_quiet (fail)
                  go_wp2_with fail
                  go_roundw
                  case rel => exact ⟨k3 + 1, by omega, by go_num, below_drewN hbel3 _⟩
                  case measure => simp [intOf]; omega
                · have hbel8 : Below w5.heap.size w5 wr := hbel2.trans (hbel3.mono hbel2.size)
                  have e0 := (hbel8.cell (p := ⟨w3.heap.size, 0, none⟩) hs5).trans HS5.out.1
                  have e1 := (hbel8.cell (p := ⟨w3.heap.size, 1, none⟩) hs5).trans HS5.out.2
                  clear HX hgw
                  have HCo : Hid (wr.rowIs w.heap.size 26 n (fun i => .pointer (P i))) := HO5.out.of_block (hbel8.block _ HO5.out.lt)
                  have HCc : Hid (wr.rowIs wo.heap.size 26 n (fun i => .pointer (shifted P n k2 i))) := HC5.out.of_block (hbel8.block _ HC5.out.lt)
                  obtain ⟨w9, hw9⟩ : ∃ w9 : World, w9 = wr := ⟨_, rfl⟩
                  subst hw9
                  have HBf : Hid (Below w.heap.size w w9) := HB5.out.trans (hbel8.mono HB5.out.size)
                  clear hbel8 hbel3 hbel2
                  go_wp2_with fail
                  go_loopw [25] (fun i w8 => ∃ k4 : Nat, k4 ≤ n - k2 ∧ i = .int .i64 k4 ∧ Below w9.heap.size w9 w8) (fun i _ => n - (intOf i).toNat)
                  case atStart => exact ⟨0, Nat.zero_le _, rfl, Below.refl _ _⟩
                  case round =>
                    obtain ⟨k4, hk4, rfl, hbel4⟩ := hrel
                    have hs9 : w3.heap.size < w9.heap.size := World.block_lt_of_cell? _ _ e0
                    have e1r := (hbel4.cell (p := ⟨w3.heap.size, 1, none⟩) hs9).trans e1
                    by_cases hlt4 : k4 < n - k2
                    · have c1 := (hbel4.cell (p := ⟨wo.heap.size, k4, none⟩) HCc.out.lt).trans (HCc.out.cell (i := k4) (by omega))
                      have c2 := (hbel4.cell (p := ⟨w.heap.size, k2 + k4, none⟩) HCo.out.lt).trans (HCo.out.cell (i := k2 + k4) (by omega))
                      have es : shifted P n k2 k4 = P (k2 + k4) := by
                        simp only [shifted]
                        rw [if_pos (by omega), Nat.add_comm]
                      simp only [es] at c1
                      generalize P (k2 + k4) = x at c1 c2
                      have hnq := neq_same
                      have b1 : (k4 : Int) < ((n - k2 : Nat) : Int) := by omega
                      have b2 : (k2 : Int) + (k4 : Int) < (n : Int) := by omega
                      clear es e0 e1
                      go_wp2_with fail
                      go_quiet (fail)
                      go_wp2_with fail
                      go_roundw
                      case rel => exact ⟨k4 + 1, by omega, by go_num, below_drewN hbel4 _⟩
                      case measure => simp [intOf]; omega
                    · clear e0 e1
                      go_wp2_with fail
                      go_ret
                      exact ⟨rfl, HBf.out.trans (hbel4.mono HBf.out.size)⟩
end Go.Proofs.Ybulkaigo
