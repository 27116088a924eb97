/-
  viewSearch.before.
-/
import Derived.Test.YbulkaiieReach
namespace Go.Proofs.Ybulkaiie
open Go.RowKit
set_option linter.unusedSimpArgs false
set_option linter.unusedVariables false

structure Cons (B : Nat) (w : World) (R bc br gr gw gk : Nat) (cl fo co : Nat → List Int) : Prop where
  bruns : w.cell? ⟨bc, 3, none⟩ = some (.slice (some ⟨gr, 0, none⟩) R R)
  bcl : ∃ a s, w.cell? ⟨bc, 5, none⟩ = some a ∧ w.cell? ⟨bc, 6, none⟩ = some s ∧ Grp B w (.agg #[a, s]) R cl
  bfo : ∃ a s, w.cell? ⟨bc, 9, none⟩ = some a ∧ w.cell? ⟨bc, 10, none⟩ = some s ∧ Grp B w (.agg #[a, s]) 8 fo
  bco : ∃ a s, w.cell? ⟨bc, 11, none⟩ = some a ∧ w.cell? ⟨bc, 12, none⟩ = some s ∧ Grp B w (.agg #[a, s]) 8 co
  r0 : w.cell? ⟨br, 0, none⟩ = some (.slice (some ⟨gk, 0, none⟩) 8 8)
  r1 : w.cell? ⟨br, 1, none⟩ = some (.int .i64 1)
  r2 : w.cell? ⟨br, 2, none⟩ = some (.slice (some ⟨gw, 0, none⟩) 8 8)
  col : ∀ t : Nat, t < 8 → w.cell? ⟨gk, t, none⟩ = some (.int .i64 t)
  ltc : bc < B
  ltr : br < B
  ltk : gk < B
  tcl : (joinL cl R).length ≤ 8192
  tfo : (joinL fo 8).length ≤ 8192
  tco : (joinL co 8).length ≤ 8192

theorem Grp.keep {B : Nat} {w w' : World} {G : Value} {n : Nat} {L : Nat → List Int} (h : Grp B w G n L) (hb : Below B w w') : Grp B w' G n L := by
  obtain ⟨a, s, e, h1, h2⟩ := h
  exact ⟨a, s, e, h1.keep hb, h2.keep hb⟩

theorem Cons.keep {B : Nat} {w w' : World} {R bc br gr gw gk : Nat} {cl fo co : Nat → List Int} (h : Cons B w R bc br gr gw gk cl fo co) (hb : Below B w w') : Cons B w' R bc br gr gw gk cl fo co := by
  have kc : ∀ o, w'.cell? ⟨bc, o, none⟩ = w.cell? ⟨bc, o, none⟩ := fun o => hb.cell (p := ⟨bc, o, none⟩) h.ltc
  have kr : ∀ o, w'.cell? ⟨br, o, none⟩ = w.cell? ⟨br, o, none⟩ := fun o => hb.cell (p := ⟨br, o, none⟩) h.ltr
  have kk : ∀ o, w'.cell? ⟨gk, o, none⟩ = w.cell? ⟨gk, o, none⟩ := fun o => hb.cell (p := ⟨gk, o, none⟩) h.ltk
  obtain ⟨a1, s1, x1, y1, z1⟩ := h.bcl
  obtain ⟨a2, s2, x2, y2, z2⟩ := h.bfo
  obtain ⟨a3, s3, x3, y3, z3⟩ := h.bco
  exact ⟨by rw [kc]; exact h.bruns, ⟨a1, s1, by rw [kc]; exact x1, by rw [kc]; exact y1, z1.keep hb⟩, ⟨a2, s2, by rw [kc]; exact x2, by rw [kc]; exact y2, z2.keep hb⟩, ⟨a3, s3, by rw [kc]; exact x3, by rw [kc]; exact y3, z3.keep hb⟩,
    by rw [kr]; exact h.r0, by rw [kr]; exact h.r1, by rw [kr]; exact h.r2, fun t ht => by rw [kk]; exact h.col t ht, h.ltc, h.ltr, h.ltk, h.tcl, h.tfo, h.tco⟩

set_option maxHeartbeats 1000000 in
set_option maxRecDepth 100000 in
theorem before13 (B : Nat) (w : World) (R bv bc br gr gc gw gk : Nat) (lock : Nat → Int) (first : Nat → Nat) (clV : Nat → Value) (cl fo co : Nat → List Int) (rv : Nat → Int)
    (hB : Base B w R gr gc gw lock first clV cl rv) (hC : Cons B w R bc br gr gw gk cl fo co) (a b : Nat) (ha : a < R) (hb : b < R) (hR : R ≤ 256) (hcl : (cl a).length ≤ 4096)
    (hBw : B ≤ w.heap.size) (hv0 : w.cell? ⟨bv, 0, none⟩ = some (.pointer (some ⟨bc, 0, none⟩))) (hv2 : w.cell? ⟨bv, 2, none⟩ = some (.pointer (some ⟨br, 0, none⟩))) :
    Calls Yba.prog 13 #[.pointer (some ⟨bv, 0, none⟩), .int .i64 a, .int .i64 b] w fun e w' => e = .returned (.bool (befF first cl rv a b)) ∧ Below w.heap.size w w' := by
  have b1 : (b : Int) < (R : Int) := by omega
  have b2 : (a : Int) < (R : Int) := by omega
  have c1 := hB.rf b hb
  have f1 := hB.f8 b hb
  have f2 := hB.f8 a ha
  have d1 := hC.bruns
  obtain ⟨va, vs, d2, d3, hG⟩ := hC.bcl
  have HB := (show Hid _ from hB)
  have HC := (show Hid _ from hC)
  have HG := (show Hid _ from hG)
  clear hB hC hG
  go_enter Yba.func13, Yba.ntmps13
  go_wp2_with fail
  refine (group12 w B _ R a cl HG.out hR ha HC.out.tcl hBw).mono ?_
  rintro e w1 ⟨v, rfl, hbel, hsl⟩
  have hbB : Below B w w1 := hbel.mono hBw
  have HB1 : Hid (Base B w1 R gr gc gw lock first clV cl rv) := HB.out.keep hbB
  have HC1 : Hid (Cons B w1 R bc br gr gw gk cl fo co) := HC.out.keep hbB
  have hv : bv < w.heap.size := World.block_lt_of_cell? _ _ hv0
  have e0 : w1.cell? ⟨bv, 0, none⟩ = _ := (hbel.cell (p := ⟨bv, 0, none⟩) hv).trans hv0
  have e2 : w1.cell? ⟨bv, 2, none⟩ = _ := (hbel.cell (p := ⟨bv, 2, none⟩) hv).trans hv2
  have e3 := HC1.out.bruns
  have g0 := HC1.out.r0
  have g1 := HC1.out.r1
  have g2 := HC1.out.r2
  have g3 := HC1.out.col _ f1
  have c2 := HB1.out.rf a ha
  have hx2 := HB1.out.rw8 _ f2
  obtain ⟨la, lc, rfl, hlc, hcells⟩ := hsl.form
  have HBel := (show Hid _ from hbel)
  clear hbel hbB hsl hv0 hv2 d1 d2 d3 c1 hlc
  obtain ⟨n, hn⟩ : ∃ n, n = (cl a).length := ⟨_, rfl⟩
  rw [← hn] at hcl ⊢
  by_cases h0 : n = 0
  · subst h0
    have HF : Hid (befF first cl rv a b = hasF (rv (first a)) (first b)) := by unfold Hid befF; rw [if_pos hn.symm]
    clear hcells hn
    go_wp2_with fail
    go_quiet (refine Calls.quiet_of (has18 _ br gw gk (first a) (first b) (rv (first a)) g0 g1 g2 g3 hx2 f2 f1))
    go_wp2_with fail
    all_goals
      go_ret
      rw [HF.out]
      exact ⟨rfl, below_drewN HBel.out _⟩
  · have hn0 : 0 < n := by omega
    obtain ⟨g, o, rfl, hgB, hcc⟩ := hcells (by omega)
    have HN : Hid (n = (cl a).length ∧ ∀ i, i < (cl a).length → w1.cell? ⟨g, o + i, none⟩ = some (.int .i64 ((cl a).getD i 0))) := ⟨hn, hcc⟩
    have b3 : ((n : Int) == 0) = false := by simp; omega
    clear hcells hn hcc
    go_wp2_with fail
    go_loopw [53] (fun x wr => ∃ k m : Nat, k ≤ n ∧ x = .int .i64 k ∧ wr = w1.drewN m ∧ ∀ j, j < k → hasF (rv ((cl a).getD j 0).toNat) (first b) = true) (fun x _ => n - (intOf x).toNat)
    case atStart => exact ⟨0, 0, by omega, rfl, rfl, fun j hj => by omega⟩
    case round =>
      obtain ⟨k, m, hk, rfl, rfl, hall⟩ := hrel
      have HA := (show Hid _ from hall)
      clear hall
      by_cases hkn : k < n
      · have hlt : (k : Int) < (n : Int) := by omega
        have hce := HN.out.2 k (by rw [← HN.out.1]; omega)
        obtain ⟨y0, y8⟩ := HB.out.c8 a ha _ (getD_mem (l := cl a) (k := k) (by rw [← HN.out.1]; omega))
        obtain ⟨y, hy⟩ : ∃ y : Nat, (cl a).getD k 0 = (y : Int) := ⟨((cl a).getD k 0).toNat, by omega⟩
        rw [hy] at hce y8
        have y8' : y < 8 := by omega
        have hxy := HB1.out.rw8 y y8'
        have HY := (show Hid _ from hy)
        clear hy y0 y8
        go_wp2_with fail
        refine (has18 (w1.drewN m) br gw gk y (first b) (rv y) g0 g1 g2 g3 hxy y8' f1).mono ?_
        rintro e w2 ⟨rfl, m1, rfl⟩
        cases hh : hasF (rv y) (first b) with
        | true =>
          go_wp2_with fail
          go_roundw
          case rel =>
            refine ⟨k + 1, m + m1, by omega, by go_num, rfl, fun j hj => ?_⟩
            rcases Nat.eq_or_lt_of_le (Nat.le_of_lt_succ hj) with rfl | hj
            · rw [HY.out]; simpa using hh
            · exact HA.out j hj
          case measure => simp [intOf]; omega
        | false =>
          go_wp2_with fail
          go_ret
          rw [befF_false (k := k) (by rw [← HN.out.1]; omega) (by rw [HY.out]; simpa using hh)]
          exact ⟨rfl, below_drewN HBel.out _⟩
      · obtain rfl : k = n := by omega
        go_wp2_with fail
        go_ret
        rw [befF_true (by rw [← HN.out.1]; omega) (fun j hj => HA.out j (by rw [HN.out.1]; omega))]
        exact ⟨rfl, below_drewN HBel.out _⟩
end Go.Proofs.Ybulkaiie
