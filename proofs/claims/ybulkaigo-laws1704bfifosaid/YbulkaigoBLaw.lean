/-
  LawS1704BFifo: her walk.
-/
import Derived.Test.YbulkaigoBInv
import Derived.Deep.DeepCutAuto
import Derived.Deep.RegionHeldLaw
import Derived.BigRegion
namespace Go.Proofs.Ybulkaigo
open Go.Conc Go.RowKit

theorem info52 : ∃ i, Yba.prog.info? 52 = some i ∧ i.bytes = 120 := by
  have h : (Yba.prog.info? 52).map (·.bytes) = some 120 := by kernel_rfl
  obtain ⟨i, hi, hb⟩ := Option.map_eq_some_iff.1 h
  exact ⟨i, hi, hb⟩
theorem mkch (w : World) (n : Nat) (h : n ≤ 8) : (Instr.makeChan 35 (.int .i64 (n : Int))).run Yba.prog w = .ok (.chan (some w.heap.size)) (w.alloc (.chan n #[] false 0 0 false)) := by
  obtain ⟨i, hi, hb⟩ := info52
  exact run_makeChan (P := Yba.prog) (w := w) Yba.underlying35 hi .i64 n (by omega) (by rw [hb]; omega)

theorem info3 : (Yba.prog.info? 3).map (fun i => (i.zero, i.size, i.bytes)) = some (some (.int .i64 0), 1, 8) := by kernel_rfl

set_option maxHeartbeats 1000000 in
set_option maxRecDepth 100000 in
theorem law_b (w : World) (a0 a1 : Int) (pa : Option Addr) (n cap : Nat) (B : Nat → Bool) (hn : n ≤ 1024) (h0 : 0 ≤ a0) (h1 : a0 ≤ 255) (g0 : 0 ≤ a1) (g1 : a1 ≤ 255)
    (hp : ∀ i, i < n → ∃ b off, pa = some ⟨b, off, none⟩ ∧ b < w.heap.size ∧ w.cell? ⟨b, off + i, none⟩ = some (.bool (B i))) :
    Calls Yba.prog 4 #[.int .u8 a0, .int .u8 a1, .slice pa n cap] w fun e w' => e = .returned (.bool true) ∧ Below w.heap.size w w' := by
  obtain ⟨cq, hcq⟩ : ∃ cq : Nat, a0 % 9 = (cq : Int) := ⟨(a0 % 9).toNat, by omega⟩
  obtain ⟨co, hco⟩ : ∃ co : Nat, a1 % 9 = (co : Int) := ⟨(a1 % 9).toNat, by omega⟩
  have hq8 : cq ≤ 8 := by omega
  have ho8 : co ≤ 8 := by omega
  have mq := fun w => mkch w cq hq8
  have mo := fun w => mkch w co ho8
  go_enter Yba.func4, Yba.ntmps4
  go_wp2_with fail
  go_cut [9] from 24 to 28 (fun s9 wc => ∃ bq bo bs N : Nat, s9 = .pointer (some ⟨bs, 0, none⟩) ∧ Fifo wc N bq bo bs cq co (.slice none 0 0) (.slice none 0 0) [] [] [] [] ∧ Below w.heap.size w wc ∧ w.heap.size ≤ bq ∧ w.heap.size ≤ bo ∧ w.heap.size ≤ N)
  case first =>
    go_region
    all_goals go_wp2_with fail
    all_goals go_meet
    · obtain ⟨x, y, z, sz, b⟩ := heap3 w (.chan cq #[] false 0 0 false) (.chan co #[] false 0 0 false) (.cells #[.chan (some w.heap.size), .chan (some (w.heap.size + 1))] 37)
      exact ⟨_, _, _, _, rfl, fifo_start x y z (by omega) (by omega) (by omega), b, by omega, by omega, by rw [sz]; omega⟩
    · obtain ⟨x, y, z, sz, b⟩ := heap3 w (.chan cq #[] false 0 0 false) (.cells #[.chan (some w.heap.size), .chan (some (w.heap.size + 1 + 1))] 37) (.chan co #[] false 0 0 false)
      exact ⟨_, _, _, _, rfl, fifo_start x z y (by omega) (by omega) (by omega), b, by omega, by omega, by rw [sz]; omega⟩
    · obtain ⟨x, y, z, sz, b⟩ := heap3 w (.chan co #[] false 0 0 false) (.chan cq #[] false 0 0 false) (.cells #[.chan (some (w.heap.size + 1)), .chan (some w.heap.size)] 37)
      exact ⟨_, _, _, _, rfl, fifo_start y x z (by omega) (by omega) (by omega), b, by omega, by omega, by rw [sz]; omega⟩
    · obtain ⟨x, y, z, sz, b⟩ := heap3 w (.chan co #[] false 0 0 false) (.cells #[.chan (some (w.heap.size + 1 + 1)), .chan (some w.heap.size)] 37) (.chan cq #[] false 0 0 false)
      exact ⟨_, _, _, _, rfl, fifo_start z x y (by omega) (by omega) (by omega), b, by omega, by omega, by rw [sz]; omega⟩
    · obtain ⟨x, y, z, sz, b⟩ := heap3 w (.cells #[.chan (some (w.heap.size + 1)), .chan (some (w.heap.size + 1 + 1))] 37) (.chan cq #[] false 0 0 false) (.chan co #[] false 0 0 false)
      exact ⟨_, _, _, _, rfl, fifo_start y z x (by omega) (by omega) (by omega), b, by omega, by omega, by rw [sz]; omega⟩
    · obtain ⟨x, y, z, sz, b⟩ := heap3 w (.cells #[.chan (some (w.heap.size + 1 + 1)), .chan (some (w.heap.size + 1))] 37) (.chan co #[] false 0 0 false) (.chan cq #[] false 0 0 false)
      exact ⟨_, _, _, _, rfl, fifo_start z y x (by omega) (by omega) (by omega), b, by omega, by omega, by rw [sz]; omega⟩
  case rest =>
    obtain ⟨bq, bo, bs, N, rfl, hf0, hb0, l1, l2, l3⟩ := hcut
    clear mq mo hcq hco
    obtain ⟨i3, hi, hz0, hz1, hz2⟩ := info_parts info3
    have Hf0 : Hid (Fifo wc N bq bo bs cq co (.slice none 0 0) (.slice none 0 0) [] [] [] [] ∧ Below w.heap.size w wc) := ⟨hf0, hb0⟩
    clear hf0 hb0
    go_wp2_with fail
    go_loopw [10, 11, 31] (fun vq vo i wr => ∃ (k : Nat) (lq lo : List Nat), k ≤ n ∧ i = .int .i64 k ∧ fifo B cq co k = (lq, lo) ∧ Fifo wr N bq bo bs cq co vq vo lq lo lq lo ∧ Below w.heap.size w wr)
      (fun _ _ i _ => n - (intOf i).toNat)
    case atStart => exact ⟨0, [], [], Nat.zero_le _, rfl, rfl, Hf0.out.1, Hf0.out.2⟩
    case round =>
      obtain ⟨k, lq, lo, hk, rfl, hfk, hf, hbel⟩ := hrel
      have hle := fifo_le B cq co k
      rw [hfk] at hle
      obtain ⟨aq, xq, rfl⟩ := own_slice hf.ownq
      obtain ⟨ao, xo, rfl⟩ := own_slice hf.owno
      have e1 : lq.length ≤ 8 := Nat.le_trans hle.1 hq8
      have e2 : lo.length ≤ 8 := Nat.le_trans hle.2.1 ho8
      have HF : Hid (fifo B cq co k = (lq, lo)) := hfk
      have HI : Hid (Fifo wr N bq bo bs cq co (.slice aq lq.length xq) (.slice ao lo.length xo) lq lo lq lo) := hf
      have HL : Hid ((∀ i ∈ lq, i < k) ∧ ∀ i ∈ lo, i < k) := hle.2.2
      clear hfk hf hle
      by_cases hlt : k < n
      · obtain ⟨b, off, rfl, hbw, hc⟩ := hp k hlt
        have hcr := (hbel.cell (p := ⟨b, off + k, none⟩) hbw).trans hc
        clear hp hc
        have hN : N ≤ wr.heap.size := HI.out.sz
        cases hB : B k with
        | true =>
          rw [hB] at hcr
          have HB : Hid (B k = true) := hB
          clear hB
          by_cases hroom : lq.length < cq
          · go_wp2_with (at_builtin; refine wpList_append_own_at _ rfl (.tmp 42) (.tmp 44) 38 rfl N 3 i3 (.int .i64 0) 1 8 Yba.underlying38 hi hz0 hz1 hz2 rfl (by decide) _ _ _ rfl ((HI.out.ownq.alloc _).alloc _) ⟨wr.heap.size + 1, 0, none⟩ 1 1 [.int .i64 (k : Int)] rfl rfl ?c1 ?c2 ?c3 ?c4 ?c5 ?_)
            case c1 => simpa only [World.size_alloc] using cell_one_new (wr.alloc (.cells #[.bool true] 40)) (.int .i64 (k : Int)) 3
            case c2 => intro u hu; simp at hu; subst hu; rfl
            case c3 => unfold maxLen; omega
            case c4 => omega
            case c5 => simp; omega
            intro v' w1 hown' hg1 _ hat
            obtain ⟨hf1, cv, hb1⟩ := app_q l3 hbel HI.out hown' hg1 hat
            have c0 := hf1.c0
            have c1 := hf1.c1
            have n1 : bs ≠ bq := hf1.sq
            have n2 : wr.heap.size ≠ bq := by have := hf1.nq; omega
            have HD : Hid (Fifo w1.drew N bq bo bs cq co v' (.slice ao lo.length xo) (lq ++ [k]) lo lq lo) := hf1.below (Below.refl _ _).drew
            have HB1 : Hid (Below w.heap.size w w1) := hb1
            clear hown' hg1 hat hf1 hb1 hbel hcr HI
            go_wp2_with fail
            go_region_held (fun w' => w'.cell? ⟨bs, 0, none⟩ = some (.chan (some bq)) ∧ w'.cell? ⟨bs, 1, none⟩ = some (.chan (some bo)) ∧ w'.cell? ⟨wr.heap.size, 0, none⟩ = some (.bool true))
              (first | exact ⟨c0, c1, cv⟩ | exact ⟨cell_later hbt c0, cell_later hbt c1, cell_later hbt cv⟩ | exact ⟨hgp.cell (cell_later hbt c0) (by simpa using n1), hgp.cell (cell_later hbt c1) (by simpa using n1), hgp.cell (cell_later hbt cv) (by simpa using n2)⟩)
              (first | (go_at_call 10; refine (tag_any _ k (by omega)).mono ?_; rintro e wt ⟨hv, rfl, htag, hbt⟩) | (go_at_call 9; refine (put_yes _ bq bo bq cq k lq hv true rfl (HD.out.below hbt).chq hroom htag).mono ?_; rintro e wp ⟨rfl, hgp, hcp⟩))
            go_wp2_with fail
            go_roundw
            case rel => exact ⟨k + 1, (lq ++ [k]), lo, by omega, by go_num, fifo_qy HF.out HB.out hroom, (HD.out.below hbt).putq hgp hcp, fin_below HB1.out hbt hgp l1⟩
            case measure => simp [intOf]; omega
          · obtain ⟨hf1, cv, hb1⟩ := app_none (x := .bool true) hbel HI.out
            have c0 := hf1.c0
            have c1 := hf1.c1
            have n1 : bs ≠ bq := hf1.sq
            have n2 : wr.heap.size ≠ bq := by have := hf1.nq; omega
            have HD : Hid (Fifo (wr.alloc (.cells #[.bool true] 40)).drew N bq bo bs cq co (.slice aq lq.length xq) (.slice ao lo.length xo) lq lo lq lo) := hf1.below (Below.refl _ _).drew
            have HB1 : Hid (Below w.heap.size w (wr.alloc (.cells #[.bool true] 40))) := hb1
            clear hf1 hb1 hbel HI
            go_wp2_with fail
            go_region_held (fun w' => w'.cell? ⟨bs, 0, none⟩ = some (.chan (some bq)) ∧ w'.cell? ⟨bs, 1, none⟩ = some (.chan (some bo)) ∧ w'.cell? ⟨wr.heap.size, 0, none⟩ = some (.bool true))
              (first | exact ⟨c0, c1, cv⟩ | exact ⟨cell_later hbt c0, cell_later hbt c1, cell_later hbt cv⟩ | exact ⟨hgp.cell (cell_later hbt c0) (by simpa using n1), hgp.cell (cell_later hbt c1) (by simpa using n1), hgp.cell (cell_later hbt cv) (by simpa using n2)⟩)
              (first | (go_at_call 10; refine (tag_any _ k (by omega)).mono ?_; rintro e wt ⟨hv, rfl, htag, hbt⟩) | (go_at_call 9; refine (put_no _ bq bo bq cq lq hv true rfl (HD.out.below hbt).chq hroom htag.size).mono ?_; rintro e wp ⟨rfl, hgp, hcp⟩))
            go_wp2_with fail
            go_roundw
            case rel => exact ⟨k + 1, lq, lo, by omega, by go_num, fifo_qn HF.out HB.out hroom, (HD.out.below hbt).putq hgp hcp, fin_below HB1.out hbt hgp l1⟩
            case measure => simp [intOf]; omega
        | false =>
          rw [hB] at hcr
          have HB : Hid (B k = false) := hB
          clear hB
          by_cases hroom : lo.length < co
          · go_wp2_with (at_builtin; refine wpList_append_own_at _ rfl (.tmp 50) (.tmp 52) 38 rfl N 3 i3 (.int .i64 0) 1 8 Yba.underlying38 hi hz0 hz1 hz2 rfl (by decide) _ _ _ rfl ((HI.out.owno.alloc _).alloc _) ⟨wr.heap.size + 1, 0, none⟩ 1 1 [.int .i64 (k : Int)] rfl rfl ?c1 ?c2 ?c3 ?c4 ?c5 ?_)
            case c1 => simpa only [World.size_alloc] using cell_one_new (wr.alloc (.cells #[.bool false] 40)) (.int .i64 (k : Int)) 3
            case c2 => intro u hu; simp at hu; subst hu; rfl
            case c3 => unfold maxLen; omega
            case c4 => omega
            case c5 => simp; omega
            intro v' w1 hown' hg1 _ hat
            obtain ⟨hf1, cv, hb1⟩ := app_o l3 hbel HI.out hown' hg1 hat
            have c0 := hf1.c0
            have c1 := hf1.c1
            have n1 : bs ≠ bo := hf1.so
            have n2 : wr.heap.size ≠ bo := by have := hf1.no; omega
            have HD : Hid (Fifo w1.drew N bq bo bs cq co (.slice aq lq.length xq) v' lq (lo ++ [k]) lq lo) := hf1.below (Below.refl _ _).drew
            have HB1 : Hid (Below w.heap.size w w1) := hb1
            clear hown' hg1 hat hf1 hb1 hbel hcr HI
            go_wp2_with fail
            go_region_held (fun w' => w'.cell? ⟨bs, 0, none⟩ = some (.chan (some bq)) ∧ w'.cell? ⟨bs, 1, none⟩ = some (.chan (some bo)) ∧ w'.cell? ⟨wr.heap.size, 0, none⟩ = some (.bool false))
              (first | exact ⟨c0, c1, cv⟩ | exact ⟨cell_later hbt c0, cell_later hbt c1, cell_later hbt cv⟩ | exact ⟨hgp.cell (cell_later hbt c0) (by simpa using n1), hgp.cell (cell_later hbt c1) (by simpa using n1), hgp.cell (cell_later hbt cv) (by simpa using n2)⟩)
              (first | (go_at_call 10; refine (tag_any _ k (by omega)).mono ?_; rintro e wt ⟨hv, rfl, htag, hbt⟩) | (go_at_call 9; refine (put_yes _ bq bo bo co k lo hv false rfl (HD.out.below hbt).cho hroom htag).mono ?_; rintro e wp ⟨rfl, hgp, hcp⟩))
            go_wp2_with fail
            go_roundw
            case rel => exact ⟨k + 1, lq, (lo ++ [k]), by omega, by go_num, fifo_oy HF.out HB.out hroom, (HD.out.below hbt).puto hgp hcp, fin_below HB1.out hbt hgp l2⟩
            case measure => simp [intOf]; omega
          · obtain ⟨hf1, cv, hb1⟩ := app_none (x := .bool false) hbel HI.out
            have c0 := hf1.c0
            have c1 := hf1.c1
            have n1 : bs ≠ bo := hf1.so
            have n2 : wr.heap.size ≠ bo := by have := hf1.no; omega
            have HD : Hid (Fifo (wr.alloc (.cells #[.bool false] 40)).drew N bq bo bs cq co (.slice aq lq.length xq) (.slice ao lo.length xo) lq lo lq lo) := hf1.below (Below.refl _ _).drew
            have HB1 : Hid (Below w.heap.size w (wr.alloc (.cells #[.bool false] 40))) := hb1
            clear hf1 hb1 hbel HI
            go_wp2_with fail
            go_region_held (fun w' => w'.cell? ⟨bs, 0, none⟩ = some (.chan (some bq)) ∧ w'.cell? ⟨bs, 1, none⟩ = some (.chan (some bo)) ∧ w'.cell? ⟨wr.heap.size, 0, none⟩ = some (.bool false))
              (first | exact ⟨c0, c1, cv⟩ | exact ⟨cell_later hbt c0, cell_later hbt c1, cell_later hbt cv⟩ | exact ⟨hgp.cell (cell_later hbt c0) (by simpa using n1), hgp.cell (cell_later hbt c1) (by simpa using n1), hgp.cell (cell_later hbt cv) (by simpa using n2)⟩)
              (first | (go_at_call 10; refine (tag_any _ k (by omega)).mono ?_; rintro e wt ⟨hv, rfl, htag, hbt⟩) | (go_at_call 9; refine (put_no _ bq bo bo co lo hv false rfl (HD.out.below hbt).cho hroom htag.size).mono ?_; rintro e wp ⟨rfl, hgp, hcp⟩))
            go_wp2_with fail
            go_roundw
            case rel => exact ⟨k + 1, lq, lo, by omega, by go_num, fifo_on HF.out HB.out hroom, (HD.out.below hbt).puto hgp hcp, fin_below HB1.out hbt hgp l2⟩
            case measure => simp [intOf]; omega
      · have c0 := HI.out.c0
        have c1 := HI.out.c1
        have HBw : Hid (Below w.heap.size w wr) := hbel
        clear hp hbel
        go_wp2_with fail
        refine (drain_all _ bq cq N lq _ HI.out.chq HI.out.nq e1 (fun i hi' => by have := HL.out.1 i hi'; omega) HI.out.ownq).mono ?_
        rintro e w1 ⟨rfl, hg1⟩
        have c1' := hg1.cell c1 (by have := HI.out.sq; simpa using this)
        have Hcho : Hid (ChanAt w1 bo co lo) := HI.out.cho.of_block (hg1.block _ HI.out.cho.lt (by have := HI.out.ne; simp; omega))
        have Howno : Hid (w1.ownsRow N 3 1 (.slice ao lo.length xo) lo.length (ints lo)) := owns_kept_below HI.out.owno fun j hj hj2 => hg1.block j hj2 (by have := HI.out.nq; simp; omega)
        have HG1 : Hid (wr.grownBy w1 (some bq)) := hg1
        clear c0 c1 hg1
        go_wp2_with fail
        refine (drain_all _ bo co N lo _ Hcho.out HI.out.no e2 (fun i hi' => by have := HL.out.2 i hi'; omega) Howno.out).mono ?_
        rintro e w2 ⟨rfl, hg2⟩
        have HG2 : Hid (w1.grownBy w2 (some bo)) := hg2
        clear hg2 c1'
        go_wp2_with fail
        go_ret
        have hs1 := HBw.out.size
        have hs2 := HG1.out.size
        exact ⟨rfl, (HBw.out.grown HG1.out (by omega) (by intro j hj; simp at hj; omega)).grown HG2.out (by omega) (by intro j hj; simp at hj; omega)⟩
end Go.Proofs.Ybulkaigo
