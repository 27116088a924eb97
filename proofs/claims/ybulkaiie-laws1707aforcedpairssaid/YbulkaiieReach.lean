/-
  reachSets.row, reachSets.has, the closures has and bef, viewSearch.before.
-/
import Derived.Test.YbulkaiieGroups
namespace Go.Proofs.Ybulkaiie
open Go.RowKit
set_option linter.unusedSimpArgs false
set_option linter.unusedVariables false

set_option maxHeartbeats 1000000 in
set_option maxRecDepth 100000 in
theorem row31 (w : World) (p : Addr) (br gr i : Nat) (hp : p = ⟨br, 0, none⟩) (h1 : w.cell? ⟨br, 1, none⟩ = some (.int .i64 1)) (h2 : w.cell? ⟨br, 2, none⟩ = some (.slice (some ⟨gr, 0, none⟩) 8 8)) (hi : i < 8) :
    Calls Yba.prog 31 #[.pointer (some p), .int .i64 i] w fun e w' => e = .returned (.slice (some ⟨gr, i, none⟩) 1 (8 - i)) ∧ ∃ m, w' = w.drewN m := by
  subst hp
  have q1 : IntKind.i64.wrap ((i : Int) + 1) = (i : Int) + 1 := by rw [IntKind.wrap_i64]; omega
  have q2 : IntKind.i64.wrap (i : Int) = (i : Int) := by rw [IntKind.wrap_i64]; omega
  go_enter Yba.func31, Yba.ntmps31
  go_wp2_with fail
  go_quiet (fail)
  go_wp2_with fail
  all_goals
    go_ret
    exact ⟨rfl, _, rfl⟩

def hasF (x : Int) (t : Nat) : Bool := bits BinOp.and IntKind.u64 x (IntKind.u64.wrap (2 ^ t)) != 0

set_option maxHeartbeats 1000000 in
set_option maxRecDepth 100000 in
theorem has6 (w : World) (pr : Addr) (gr f t : Nat) (x : Int) (hp : w.cell? pr = some (.slice (some ⟨gr, 0, none⟩) 8 8)) (hx : w.cell? ⟨gr, f, none⟩ = some (.int .u64 x)) (hf : f < 8) (ht : t < 8) :
    Calls Yba.prog 6 #[.int .i64 f, .int .i64 t, .pointer (some pr)] w fun e w' => e = .returned (.bool (hasF x t)) ∧ ∃ m, w' = w.drewN m := by
  have b1 : (f : Int) < 8 := by omega
  go_enter Yba.func6, Yba.ntmps6
  go_wp2_with fail
  go_ret
  exact ⟨rfl, 0, rfl⟩

theorem t_facts (t : Nat) (ht : t < 8) : (t : Int).tdiv 64 = 0 ∧ (t : Int).tmod 64 = (t : Int) ∧ IntKind.i64.wrap (t : Int) = (t : Int) := by
  refine ⟨?_, ?_, ?_⟩
  · rw [Int.tdiv_eq_ediv_of_nonneg (by omega)]; omega
  · rw [Int.tmod_eq_emod_of_nonneg (by omega)]; omega
  · rw [IntKind.wrap_i64]; omega

set_option maxHeartbeats 1000000 in
set_option maxRecDepth 100000 in
theorem has18 (w : World) (br gr gc f t : Nat) (x : Int) (h0 : w.cell? ⟨br, 0, none⟩ = some (.slice (some ⟨gc, 0, none⟩) 8 8)) (h1 : w.cell? ⟨br, 1, none⟩ = some (.int .i64 1)) (h2 : w.cell? ⟨br, 2, none⟩ = some (.slice (some ⟨gr, 0, none⟩) 8 8))
    (hc : w.cell? ⟨gc, t, none⟩ = some (.int .i64 t)) (hx : w.cell? ⟨gr, f, none⟩ = some (.int .u64 x)) (hf : f < 8) (ht : t < 8) :
    Calls Yba.prog 18 #[.pointer (some ⟨br, 0, none⟩), .int .i64 f, .int .i64 t] w fun e w' => e = .returned (.bool (hasF x t)) ∧ ∃ m, w' = w.drewN m := by
  have b1 : (t : Int) < 8 := by omega
  obtain ⟨q1, q2, q3⟩ := t_facts t ht
  go_enter Yba.func18, Yba.ntmps18
  go_wp2_with fail
  go_quiet (refine Calls.quiet_of (row31 _ _ br gr f rfl h1 h2 hf))
  go_wp2_with fail
  all_goals
    go_ret
    exact ⟨rfl, _, rfl⟩

structure Base (B : Nat) (w : World) (R gr gc gw : Nat) (lock : Nat → Int) (first : Nat → Nat) (clV : Nat → Value) (cl : Nat → List Int) (rv : Nat → Int) : Prop where
  rl : ∀ b, b < R → w.cell? ⟨gr, b * 2, none⟩ = some (.int .i64 (lock b))
  rf : ∀ b, b < R → w.cell? ⟨gr, b * 2 + 1, none⟩ = some (.int .i64 (first b))
  f8 : ∀ b, b < R → first b < 8
  cv : ∀ r, r < R → w.cell? ⟨gc, r, none⟩ = some (clV r)
  cs : ∀ r, r < R → Sl B w (clV r) (cl r)
  c8 : ∀ r, r < R → ∀ x ∈ cl r, 0 ≤ x ∧ x < 8
  rw8 : ∀ i, i < 8 → w.cell? ⟨gw, i, none⟩ = some (.int .u64 (rv i))
  ltr : gr < B
  ltc : gc < B
  ltw : gw < B

theorem Base.keep {B : Nat} {w w' : World} {R gr gc gw : Nat} {lock : Nat → Int} {first : Nat → Nat} {clV : Nat → Value} {cl : Nat → List Int} {rv : Nat → Int}
    (h : Base B w R gr gc gw lock first clV cl rv) (hb : Below B w w') : Base B w' R gr gc gw lock first clV cl rv :=
  ⟨fun b hr => (hb.cell (p := ⟨gr, b * 2, none⟩) h.ltr).trans (h.rl b hr), fun b hr => (hb.cell (p := ⟨gr, b * 2 + 1, none⟩) h.ltr).trans (h.rf b hr), h.f8,
    fun r hr => (hb.cell (p := ⟨gc, r, none⟩) h.ltc).trans (h.cv r hr), fun r hr => (h.cs r hr).keep hb, h.c8,
    fun i hi => (hb.cell (p := ⟨gw, i, none⟩) h.ltw).trans (h.rw8 i hi), h.ltr, h.ltc, h.ltw⟩

def befF (first : Nat → Nat) (cl : Nat → List Int) (rv : Nat → Int) (a b : Nat) : Bool :=
  if (cl a).length = 0 then hasF (rv (first a)) (first b) else (cl a).all fun c => hasF (rv c.toNat) (first b)

theorem getD_mem {l : List Int} {k : Nat} (h : k < l.length) : l.getD k 0 ∈ l := by
  rw [List.getD_eq_getElem?_getD, List.getElem?_eq_getElem h]
  exact List.getElem_mem h

theorem befF_false {first : Nat → Nat} {cl : Nat → List Int} {rv : Nat → Int} {a b k : Nat} (hk : k < (cl a).length) (h : hasF (rv ((cl a).getD k 0).toNat) (first b) = false) : befF first cl rv a b = false := by
  unfold befF
  rw [if_neg (by omega), List.all_eq_false]
  exact ⟨_, getD_mem hk, by simpa using h⟩

theorem befF_true {first : Nat → Nat} {cl : Nat → List Int} {rv : Nat → Int} {a b : Nat} (hk : 0 < (cl a).length) (h : ∀ j, j < (cl a).length → hasF (rv ((cl a).getD j 0).toNat) (first b) = true) : befF first cl rv a b = true := by
  unfold befF
  rw [if_neg (by omega), List.all_eq_true]
  intro x hx
  obtain ⟨j, hj, rfl⟩ := List.mem_iff_getElem.1 hx
  have := h j hj
  rwa [List.getD_eq_getElem?_getD, List.getElem?_eq_getElem hj] at this

set_option maxHeartbeats 1000000 in
set_option maxRecDepth 100000 in
theorem bef7 (B : Nat) (w : World) (R gr gc gw : Nat) (lock : Nat → Int) (first : Nat → Nat) (clV : Nat → Value) (cl : Nat → List Int) (rv : Nat → Int) (h : Base B w R gr gc gw lock first clV cl rv)
    (pr pc pa ph pw : Addr) (a b : Nat) (ha : a < R) (hb : b < R) (hR : R ≤ 256) (hcl : (cl a).length ≤ 4096)
    (hpr : w.cell? pr = some (.slice (some ⟨gr, 0, none⟩) R R)) (hpc : w.cell? pc = some (.slice (some ⟨gc, 0, none⟩) R R)) (hpa : w.cell? pa = some (.int .i64 a))
    (hph : w.cell? ph = some (.func (.func 6) #[] #[.pointer (some pw)])) (hpw : w.cell? pw = some (.slice (some ⟨gw, 0, none⟩) 8 8)) :
    Calls Yba.prog 7 #[.int .i64 b, .pointer (some pr), .pointer (some pc), .pointer (some pa), .pointer (some ph)] w fun e w' => e = .returned (.bool (befF first cl rv a b)) ∧ ∃ m, w' = w.drewN m := by
  have b1 : (b : Int) < (R : Int) := by omega
  have b2 : (a : Int) < (R : Int) := by omega
  have c1 := h.rf b hb
  have c2 := h.rf a ha
  have c3 := h.cv a ha
  have f1 := h.f8 b hb
  have f2 := h.f8 a ha
  have hx2 := h.rw8 _ f2
  obtain ⟨la, lc, hv, hlc, hcells⟩ := (h.cs a ha).form
  rw [hv] at c3
  have HB := (show Hid _ from h)
  clear h hv
  obtain ⟨n, hn⟩ : ∃ n, n = (cl a).length := ⟨_, rfl⟩
  rw [← hn] at c3 hcl hlc
  by_cases h0 : n = 0
  · subst h0
    have HF : Hid (befF first cl rv a b = hasF (rv (first a)) (first b)) := by unfold Hid befF; rw [if_pos hn.symm]
    clear hcells hn
    go_enter Yba.func7, Yba.ntmps7
    go_wp2_with fail
    go_quiet (refine Calls.quiet_of (has6 _ pw gw (first a) (first b) (rv (first a)) hpw hx2 f2 f1))
    go_wp2_with fail
    all_goals
      go_ret
      rw [HF.out]
      exact ⟨rfl, _, rfl⟩
  · have hn0 : 0 < n := by omega
    obtain ⟨g, o, rfl, hgB, hcc⟩ := hcells (by omega)
    have HN : Hid (n = (cl a).length ∧ ∀ i, i < (cl a).length → w.cell? ⟨g, o + i, none⟩ = some (.int .i64 ((cl a).getD i 0))) := ⟨hn, hcc⟩
    have b3 : ((n : Int) == 0) = false := by simp; omega
    clear hcells hn hcc
    go_enter Yba.func7, Yba.ntmps7
    go_wp2_with fail
    go_loopw [34] (fun x wr => ∃ k m : Nat, k ≤ n ∧ x = .int .i64 k ∧ wr = w.drewN m ∧ ∀ j, j < k → hasF (rv ((cl a).getD j 0).toNat) (first b) = true) (fun x _ => n - (intOf x).toNat)
    case atStart => exact ⟨0, 0, by omega, rfl, rfl, fun j hj => by omega⟩
    case round =>
      obtain ⟨k, m, hk, rfl, rfl, hall⟩ := hrel
      have HA := (show Hid _ from hall)
      clear hall
      by_cases hkn : k < n
      · have hlt : (k : Int) < (n : Int) := by omega
        have hce := HN.out.2 k (by rw [← HN.out.1]; omega)
        obtain ⟨y0, y8⟩ := HB.out.c8 a ha _ (getD_mem (l := cl a) (k := k) (by rw [← HN.out.1]; omega))
        obtain ⟨y, hy⟩ : ∃ y : Nat, (cl a).getD k 0 = (y : Int) := ⟨((cl a).getD k 0).toNat, by omega⟩
        rw [hy] at hce y8
        have y8' : y < 8 := by omega
        have hxy := HB.out.rw8 y y8'
        have HY := (show Hid _ from hy)
        clear hy y0 y8
        go_wp2_with fail
        refine (has6 (w.drewN m) pw gw y (first b) (rv y) hpw hxy y8' f1).mono ?_
        rintro e w1 ⟨rfl, m1, rfl⟩
        cases hh : hasF (rv y) (first b) with
        | true =>
          go_wp2_with fail
          go_roundw
          case rel =>
            refine ⟨k + 1, m + m1, by omega, by go_num, rfl, fun j hj => ?_⟩
            rcases Nat.eq_or_lt_of_le (Nat.le_of_lt_succ hj) with rfl | hj
            · rw [HY.out]; simpa using hh
            · exact HA.out j hj
          case measure => simp [intOf]; omega
        | false =>
          go_wp2_with fail
          go_ret
          rw [befF_false (k := k) (by rw [← HN.out.1]; omega) (by rw [HY.out]; simpa using hh)]
          exact ⟨rfl, _, rfl⟩
      · obtain rfl : k = n := by omega
        go_wp2_with fail
        go_ret
        rw [befF_true (by rw [← HN.out.1]; omega) (fun j hj => HA.out j (by rw [HN.out.1]; omega))]
        exact ⟨rfl, _, rfl⟩
end Go.Proofs.Ybulkaiie
