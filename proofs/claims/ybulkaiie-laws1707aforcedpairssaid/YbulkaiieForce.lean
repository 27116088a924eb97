/-
  viewSearch.forceBefore.
-/
import Derived.Test.YbulkaiieBefore
import Derived.Test.YbulkaiiePush
import Derived.Deep.CutRange
import Derived.Deep.RegionWith
import Derived.Deep.RegionHeld
namespace Go.Proofs.Ybulkaiie
open Go.RowKit
set_option linter.unusedSimpArgs false
set_option linter.unusedVariables false

def keepF (lock : Nat → Int) (first : Nat → Nat) (cl : Nat → List Int) (rv : Nat → Int) (a : Nat) (x : Int) (b : Int) : Bool := (b != (a : Int)) && ((lock b.toNat == x) && !(befF first cl rv a b.toNat))
def selF (lock : Nat → Int) (first : Nat → Nat) (cl : Nat → List Int) (rv : Nat → Int) (a : Nat) (x : Int) (l : List Int) : List Fp := (l.filter (keepF lock first cl rv a x)).map (fun b => ((a : Int), b, (first b.toNat : Int)))

theorem take_succ_getD {l : List Int} {k : Nat} (h : k < l.length) : l.take (k + 1) = l.take k ++ [l.getD k 0] := by
  rw [List.take_add_one, List.getElem?_eq_getElem h, List.getD_eq_getElem?_getD, List.getElem?_eq_getElem h]; rfl

theorem selF_yes {lock : Nat → Int} {first : Nat → Nat} {cl : Nat → List Int} {rv : Nat → Int} {a : Nat} {x : Int} {l : List Int} {k y : Nat} (h : k < l.length) (hy : l.getD k 0 = (y : Int)) (hk : keepF lock first cl rv a x y = true) :
    selF lock first cl rv a x (l.take (k + 1)) = selF lock first cl rv a x (l.take k) ++ [((a : Int), (y : Int), (first y : Int))] := by
  rw [take_succ_getD h, hy]
  simp [selF, hk]
theorem selF_no {lock : Nat → Int} {first : Nat → Nat} {cl : Nat → List Int} {rv : Nat → Int} {a : Nat} {x : Int} {l : List Int} {k y : Nat} (h : k < l.length) (hy : l.getD k 0 = (y : Int)) (hk : keepF lock first cl rv a x y = false) :
    selF lock first cl rv a x (l.take (k + 1)) = selF lock first cl rv a x (l.take k) := by
  rw [take_succ_getD h, hy]
  simp [selF, hk]
theorem selF_len (lock : Nat → Int) (first : Nat → Nat) (cl : Nat → List Int) (rv : Nat → Int) (a : Nat) (x : Int) (l : List Int) : (selF lock first cl rv a x l).length ≤ l.length := by
  unfold selF; rw [List.length_map]; exact List.length_filter_le _ _

/-- The world within forceBefore: the pairs so far are D. -/
structure FSt (w wr : World) (bv : Nat) (D : List Fp) : Prop where
  bel : BelowX w.heap.size bv w wr
  oth : ∀ o, o ≠ 14 → wr.cell? ⟨bv, o, none⟩ = w.cell? ⟨bv, o, none⟩
  frz : wr.frozen? ⟨bv, 14, none⟩ = false
  own : ∃ v, wr.cell? ⟨bv, 14, none⟩ = some v ∧ wr.ownsRow w.heap.size 59 3 v D.length (D.flatMap encFp)

theorem FSt.step {w wr w1 : World} {bv : Nat} {D : List Fp} (h : FSt w wr bv D) (hb : Below wr.heap.size wr w1) (hv : bv < w.heap.size) : FSt w w1 bv D := by
  have hs := h.bel.size
  have hbv : w1.heap[bv]? = wr.heap[bv]? := hb.block bv (by omega)
  obtain ⟨v, c, o⟩ := h.own
  refine ⟨h.bel.trans (BelowX.of (hb.mono (by omega))), fun o ho => ?_, ?_, v, ?_, ?_⟩
  · rw [← h.oth o ho]; exact World.cell?_of_block (w := wr) hbv
  · rw [← h.frz]; exact World.frozen?_of_block (w := wr) hbv
  · rw [← c]; exact World.cell?_of_block (w := wr) hbv
  · refine o.kept (row := none) ⟨hb.os, hb.tape, hb.output, hb.size, fun k hk _ => hb.block k hk⟩ ?_
    cases v.ownBlock with
    | none => exact .inl rfl
    | some k => exact .inr (by simp)

theorem idx0 (v1 v2 : Value) (w : World) : (Instr.index 66 (.agg #[v1, v2]) (.int .i64 ((0 : Nat) : Int))).run Yba.prog w = .ok v1 w := by kernel_rfl
theorem idx1 (v1 v2 : Value) (w : World) : (Instr.index 66 (.agg #[v1, v2]) (.int .i64 ((1 : Nat) : Int))).run Yba.prog w = .ok v2 w := by kernel_rfl

set_option maxHeartbeats 4000000 in
set_option maxRecDepth 100000 in
theorem force5 (B : Nat) (w : World) (R bv bc br gr gc gw gk : Nat) (lock : Nat → Int) (first : Nat → Nat) (clV : Nat → Value) (cl fo co : Nat → List Int) (rv : Nat → Int)
    (hB : Base B w R gr gc gw lock first clV cl rv) (hC : Cons B w R bc br gr gw gk cl fo co) (a m : Nat) (x : Int) (ha : a < R) (hm : m < 8) (hR : R ≤ 256) (hcl : (cl a).length ≤ 4096)
    (hfo : ∀ y ∈ fo m, 0 ≤ y ∧ y < R) (hco : ∀ y ∈ co m, 0 ≤ y ∧ y < R) (hlen : (fo m).length + (co m).length ≤ 4095)
    (hBv : B ≤ bv) (hv0 : w.cell? ⟨bv, 0, none⟩ = some (.pointer (some ⟨bc, 0, none⟩))) (hv2 : w.cell? ⟨bv, 2, none⟩ = some (.pointer (some ⟨br, 0, none⟩)))
    (hv14 : w.cell? ⟨bv, 14, none⟩ = some (.slice none 0 0)) (hvf : w.frozen? ⟨bv, 14, none⟩ = false) :
    Calls Yba.prog 5 #[.pointer (some ⟨bv, 0, none⟩), .int .i64 a, .int .i64 x, .int .i64 m] w fun e w' => e = .returned (.tuple #[]) ∧ ∃ D, FSt w w' bv D ∧ D.Perm (selF lock first cl rv a x (fo m) ++ selF lock first cl rv a x (co m)) := by
  have hv : bv < w.heap.size := World.block_lt_of_cell? _ _ hv0
  have hBw : B ≤ w.heap.size := by omega
  obtain ⟨fa, fs, d9, d10, hGf⟩ := hC.bfo
  obtain ⟨ca, cs, d11, d12, hGc⟩ := hC.bco
  have HB : Hid (Base B w R gr gc gw lock first clV cl rv) := hB
  have HC : Hid (Cons B w R bc br gr gw gk cl fo co) := hC
  have HF : Hid (∀ w', Below w.heap.size w w' → Calls Yba.prog 12 #[.agg #[fa, fs], .int .i64 m] w' fun e w'' => ∃ v, e = .returned v ∧ Below w.heap.size w w'' ∧ Below w'.heap.size w' w'' ∧ Sl B w'' v (fo m)) := fun w' hb =>
    (group12 w' B _ 8 m fo (hGf.keep (hb.mono hBw)) (by omega) hm hC.tfo (Nat.le_trans hBw hb.size)).mono fun e w'' ⟨v, h1, h2, h3⟩ => ⟨v, h1, hb.trans (h2.mono hb.size), h2, h3⟩
  have HG : Hid (∀ w', Below w.heap.size w w' → Calls Yba.prog 12 #[.agg #[ca, cs], .int .i64 m] w' fun e w'' => ∃ v, e = .returned v ∧ Below w.heap.size w w'' ∧ Below w'.heap.size w' w'' ∧ Sl B w'' v (co m)) := fun w' hb =>
    (group12 w' B _ 8 m co (hGc.keep (hb.mono hBw)) (by omega) hm hC.tco (Nat.le_trans hBw hb.size)).mono fun e w'' ⟨v, h1, h2, h3⟩ => ⟨v, h1, hb.trans (h2.mono hb.size), h2, h3⟩
  have HK : Hid (∀ w', Below w.heap.size w w' → w'.cell? ⟨bv, 0, none⟩ = some (.pointer (some ⟨bc, 0, none⟩)) ∧ w'.cell? ⟨bc, 9, none⟩ = some fa ∧ w'.cell? ⟨bc, 10, none⟩ = some fs ∧ w'.cell? ⟨bc, 11, none⟩ = some ca ∧ w'.cell? ⟨bc, 12, none⟩ = some cs) := fun w' hb => by
    have hc := hC.ltc
    exact ⟨(hb.cell (p := ⟨bv, 0, none⟩) hv).trans hv0, (hb.cell (p := ⟨bc, 9, none⟩) (show bc < _ by omega)).trans d9, (hb.cell (p := ⟨bc, 10, none⟩) (show bc < _ by omega)).trans d10, (hb.cell (p := ⟨bc, 11, none⟩) (show bc < _ by omega)).trans d11, (hb.cell (p := ⟨bc, 12, none⟩) (show bc < _ by omega)).trans d12⟩
  clear hB hC hGf hGc
  go_enter Yba.func5, Yba.ntmps5
  go_upto_region 0 with fail
  go_cut [30, 31] from 12 (fun s30 s31 wx => s31 = .int .i64 0 ∧ Below w.heap.size w wx ∧ ∃ v1 v2, s30 = .agg #[v1, v2] ∧ Sl B wx v1 (fo m) ∧ Sl B wx v2 (co m))
  case first =>
    have HK0 := HK.out _ (Below.refl _ w).drew
    go_region_held (fun w' => w'.cell? ⟨bv, 0, none⟩ = some (.pointer (some ⟨bc, 0, none⟩)) ∧ w'.cell? ⟨bc, 9, none⟩ = some fa ∧ w'.cell? ⟨bc, 10, none⟩ = some fs ∧ w'.cell? ⟨bc, 11, none⟩ = some ca ∧ w'.cell? ⟨bc, 12, none⟩ = some cs) (first | exact HK0 | exact HK.out _ HX.out) (first
      | (go_at_call_of 12 fa; refine (HF.out _ ?_).mono ?_; (first | exact (Below.refl _ _).drew | exact HX.out); rintro e wA ⟨v1, rfl, hb1, hb1', hs1⟩; have HX := (show Hid (Below w.heap.size w wA) from hb1); have HXA := (show Hid (Below w.heap.size w wA) from hb1); have HS1 := (show Hid (Sl B wA v1 (fo m) ∧ _) from And.intro hs1 hb1'); obtain ⟨f1, f2, rfl, f3, f4⟩ := hs1.form; clear hb1 hb1' hs1 f3 f4)
      | (go_at_call_of 12 ca; refine (HG.out _ ?_).mono ?_; (first | exact (Below.refl _ _).drew | exact HX.out); rintro e wB ⟨v2, rfl, hb1, hb1', hs1⟩; have HX := (show Hid (Below w.heap.size w wB) from hb1); have HXB := (show Hid (Below w.heap.size w wB) from hb1); have HS2 := (show Hid (Sl B wB v2 (co m) ∧ _) from And.intro hs1 hb1'); obtain ⟨f1, f2, rfl, f3, f4⟩ := hs1.form; clear hb1 hb1' hs1 f3 f4))
    all_goals
      go_wp2_with fail
      go_meet
      case rel =>
        have hA := Nat.le_trans hBw HXA.out.size
        have hBB := Nat.le_trans hBw HXB.out.size
        first
          | exact ⟨rfl, HXB.out, _, _, rfl, HS1.out.1.keep (HS2.out.2.mono hA), HS2.out.1⟩
          | exact ⟨rfl, HXA.out, _, _, rfl, HS1.out.1, HS2.out.1.keep (HS1.out.2.mono hBB)⟩
  case rest =>
    obtain ⟨rfl, hbel, v1, v2, rfl, hs1, hs2⟩ := hcut
    obtain ⟨VV, hVV0, hVV1⟩ : ∃ VV : Nat → Value, VV 0 = v1 ∧ VV 1 = v2 := ⟨fun t => if t = 0 then v1 else v2, rfl, rfl⟩
    obtain ⟨LL, hLL0, hLL1⟩ : ∃ LL : Nat → List Int, LL 0 = fo m ∧ LL 1 = co m := ⟨fun t => if t = 0 then fo m else co m, rfl, rfl⟩
    have HSl : Hid (∀ t, t < 2 → Sl B wc (VV t) (LL t)) := fun t ht => by
      rcases (show t = 0 ∨ t = 1 by omega) with rfl | rfl
      · rw [hVV0, hLL0]; exact hs1
      · rw [hVV1, hLL1]; exact hs2
    have HLR : Hid (∀ t, t < 2 → ∀ y ∈ LL t, 0 ≤ y ∧ y < R) := fun t ht => by
      rcases (show t = 0 ∨ t = 1 by omega) with rfl | rfl
      · rw [hLL0]; exact hfo
      · rw [hLL1]; exact hco
    have HLn : Hid ((LL 0).length + (LL 1).length ≤ 4095) := by unfold Hid; rw [hLL0, hLL1]; exact hlen
    obtain ⟨pre, hp0, hp1, hp2⟩ : ∃ pre : Nat → List Fp, pre 0 = [] ∧ pre 1 = selF lock first cl rv a x (LL 0) ∧ pre 2 = selF lock first cl rv a x (LL 0) ++ selF lock first cl rv a x (LL 1) := ⟨fun t => if t = 0 then [] else if t = 1 then selF lock first cl rv a x (LL 0) else selF lock first cl rv a x (LL 0) ++ selF lock first cl rv a x (LL 1), rfl, rfl, rfl⟩
    have HP : Hid (∀ t, t < 2 → pre (t + 1) = pre t ++ selF lock first cl rv a x (LL t)) := fun t ht => by
      rcases (show t = 0 ∨ t = 1 by omega) with rfl | rfl
      · rw [hp0, hp1]; rfl
      · rw [hp1, hp2]
    have HPl : Hid (∀ t, t < 2 → (pre t).length + (LL t).length ≤ 4095) := fun t ht => by
      have hl := HLn.out
      have h0 := selF_len lock first cl rv a x (LL 0)
      rcases (show t = 0 ∨ t = 1 by omega) with rfl | rfl
      · rw [hp0]; simp; omega
      · rw [hp1]; omega
    have HEnd : Hid (pre 2 = selF lock first cl rv a x (fo m) ++ selF lock first cl rv a x (co m) ∧ pre 0 = []) := ⟨by rw [hp2, hLL0, hLL1], hp0⟩
    have hidx : ∀ (t : Nat) (w' : World), t < 2 → (Instr.index 66 (.agg #[v1, v2]) (.int .i64 t)).run Yba.prog w' = .ok (VV t) w' := fun t w' ht => by
      rcases (show t = 0 ∨ t = 1 by omega) with rfl | rfl
      · rw [hVV0]; exact idx0 v1 v2 w'
      · rw [hVV1]; exact idx1 v1 v2 w'
    have HF0 : Hid (FSt w wc bv []) := ⟨BelowX.of hbel, fun o _ => hbel.cell (p := ⟨bv, o, none⟩) hv, (hbel.frozen (p := ⟨bv, 14, none⟩) hv).trans hvf, .slice none 0 0, (hbel.cell (p := ⟨bv, 14, none⟩) hv).trans hv14, World.ownsRow_nil _ _ _ _⟩
    have HBc : Hid (Below B wc wc ∧ w.heap.size ≤ wc.heap.size) := ⟨Below.refl _ _, hbel.size⟩
    have HBel : Hid (Below w.heap.size w wc) := hbel
    have HI := (show Hid (∀ (t : Nat) (w' : World), t < 2 → (Instr.index 66 (.agg #[v1, v2]) (.int .i64 t)).run Yba.prog w' = .ok (VV t) w') from hidx)
    clear hs1 hs2 hVV0 hVV1 hLL0 hLL1 hp0 hp1 hp2 hidx hbel hfo hco hlen HF HG HK d9 d10 d11 d12
    go_wp2_with fail
    go_loopw [31] (fun i wr => ∃ t : Nat, t ≤ 2 ∧ i = .int .i64 t ∧ ∃ D, FSt w wr bv D ∧ D.Perm (pre t) ∧ Below B wc wr) (fun i _ => 2 - (intOf i).toNat)
    case atStart => exact ⟨0, by omega, rfl, [], HF0.out, by rw [HEnd.out.2], Below.refl _ _⟩
    case round =>
      obtain ⟨t, ht, rfl, D, hD, hDp, hBc⟩ := hrel
      by_cases ht2 : t < 2
      · have hi := fun w' => HI.out t w' ht2
        obtain ⟨la, lc, hvv, hlc, hcells⟩ := (HSl.out t ht2).form
        have HPt := (show Hid _ from HP.out t ht2)
        have HPlt := (show Hid _ from HPl.out t ht2)
        have HLRt := (show Hid _ from HLR.out t ht2)
        rw [hvv] at hi
        obtain ⟨n, hn⟩ : ∃ n, n = (LL t).length := ⟨_, rfl⟩
        rw [← hn] at hi
        have hlt2 : (t : Int) < 2 := by omega
        have HN : Hid (n = (LL t).length ∧ (0 < (LL t).length → ∃ g o, la = some ⟨g, o, none⟩ ∧ g < B ∧ ∀ i, i < (LL t).length → wc.cell? ⟨g, o + i, none⟩ = some (.int .i64 ((LL t).getD i 0)))) := ⟨hn, hcells⟩
        have hn4 : n ≤ 4095 := by have := HPlt.out; rw [← HN.out.1] at this; omega
        have HD : Hid (FSt w wr bv D ∧ D.Perm (pre t) ∧ Below B wc wr) := ⟨hD, hDp, hBc⟩
        clear hD hDp hBc hvv hcells hn hlc
        go_wp2_with fail
        go_loopw [36] (fun j wq => ∃ k : Nat, k ≤ n ∧ j = .int .i64 k ∧ ∃ D, FSt w wq bv D ∧ D.Perm (pre t ++ selF lock first cl rv a x ((LL t).take k)) ∧ Below B wc wq) (fun j _ => n - (intOf j).toNat)
        case atStart => exact ⟨0, by omega, rfl, D, HD.out.1, by simpa [selF] using HD.out.2.1, HD.out.2.2⟩
        case round =>
          clear HD D
          obtain ⟨k, hk, rfl, D, hD, hDp, hBc⟩ := hrel
          by_cases hkn : k < n
          · have hlt : (k : Int) < (n : Int) := by omega
            have hkl : k < (LL t).length := by rw [← HN.out.1]; exact hkn
            obtain ⟨g, o, rfl, hgB, hcc⟩ := HN.out.2 (by omega)
            have hce : wr.cell? ⟨g, o + k, none⟩ = some (.int .i64 ((LL t).getD k 0)) := (hBc.cell (p := ⟨g, o + k, none⟩) hgB).trans (hcc k hkl)
            obtain ⟨y0, y8⟩ := HLRt.out _ (getD_mem hkl)
            obtain ⟨y, hy⟩ : ∃ y : Nat, (LL t).getD k 0 = (y : Int) := ⟨((LL t).getD k 0).toNat, by omega⟩
            rw [hy] at hce y8
            have yR : y < R := by omega
            have yR' : (y : Int) < (R : Int) := y8
            have hbB : Below B w wr := hD.bel.below (by omega) hBv
            have HBr : Hid (Base B wr R gr gc gw lock first clV cl rv) := HB.out.keep hbB
            have HCr : Hid (Cons B wr R bc br gr gw gk cl fo co) := HC.out.keep hbB
            have p0 := (hD.oth 0 (by omega)).trans hv0
            have p2 := (hD.oth 2 (by omega)).trans hv2
            have p3 := HCr.out.bruns
            have p4 := HBr.out.rl y yR
            have p5 := HBr.out.rf y yR
            have hBr : B ≤ wr.heap.size := Nat.le_trans hBw hD.bel.size
            have HD : Hid (FSt w wr bv D ∧ D.Perm (pre t ++ selF lock first cl rv a x ((LL t).take k)) ∧ Below B wc wr) := ⟨hD, hDp, hBc⟩
            have HY : Hid ((LL t).getD k 0 = (y : Int) ∧ k < (LL t).length) := ⟨hy, hkl⟩
            clear hD hDp hBc hcc hy hbB y0 y8 hkl hv0 hv2 hv14 hvf
            cases e1 : ((y : Int) != (a : Int)) with
            | false =>
              go_wp2_with fail
              go_roundw
              case rel =>
                refine ⟨k + 1, by omega, by go_num, D, HD.out.1, ?_, HD.out.2.2⟩
                rw [selF_no HY.out.2 HY.out.1 (by unfold keepF; rw [e1]; rfl)]
                exact HD.out.2.1
              case measure => simp [intOf]; omega
            | true =>
              cases e2 : (lock y == x) with
              | false =>
                go_wp2_with fail
                go_roundw
                case rel =>
                  refine ⟨k + 1, by omega, by go_num, D, HD.out.1, ?_, HD.out.2.2⟩
                  rw [selF_no HY.out.2 HY.out.1 (by unfold keepF; rw [e1, Int.toNat_natCast, e2]; rfl)]
                  exact HD.out.2.1
                case measure => simp [intOf]; omega
              | true =>
                go_wp2_with fail
                refine (before13 B wr R bv bc br gr gc gw gk lock first clV cl fo co rv HBr.out HCr.out a y ha yR hR hcl hBr p0 p2).mono ?_
                rintro e w1 ⟨rfl, hb1⟩
                have HD1 : Hid (FSt w w1 bv D ∧ Below B wc w1) := ⟨HD.out.1.step hb1 hv, HD.out.2.2.trans (hb1.mono hBr)⟩
                have q0 := (hb1.cell (p := ⟨bv, 0, none⟩) (World.block_lt_of_cell? _ _ p0)).trans p0
                have q3 := (hb1.cell (p := ⟨bc, 3, none⟩) (World.block_lt_of_cell? _ _ p3)).trans p3
                have q5 := (hb1.cell (p := ⟨gr, y * 2 + 1, none⟩) (World.block_lt_of_cell? _ _ p5)).trans p5
                clear hb1 p0 p2 p3 p4 p5
                cases e3 : befF first cl rv a y with
                | true =>
                  go_wp2_with fail
                  go_roundw
                  case rel =>
                    refine ⟨k + 1, by omega, by go_num, D, HD1.out.1, ?_, HD1.out.2⟩
                    rw [selF_no HY.out.2 HY.out.1 (by unfold keepF; rw [e1, Int.toNat_natCast, e2, e3]; rfl)]
                    exact HD.out.2.1
                  case measure => simp [intOf]; omega
                | false =>
                  obtain ⟨v, cv, ov⟩ := HD1.out.1.own
                  have fv := HD1.out.1.frz
                  have HV : Hid (w1.ownsRow w.heap.size 59 3 v D.length (D.flatMap encFp) ∧ D.length ≤ 4095 ∧ w.heap.size ≤ w1.heap.size) := ⟨ov, by
                    have h1 := HD.out.2.1.length_eq
                    have h2 := selF_len lock first cl rv a x ((LL t).take k)
                    have h3 := HPlt.out
                    have h4 := HY.out.2
                    rw [List.length_append] at h1
                    rw [List.length_take] at h2
                    omega, HD1.out.1.bel.size⟩
                  clear ov
                  go_wp2_with fail
                  go_region_with (go_at_call 14; refine (push14 w1.drew bv 14 w.heap.size v D ((a : Int), (y : Int), (first y : Int)) cv fv hv HV.out.2.2 HV.out.2.1 HV.out.1).mono ?_; rintro e w2 ⟨rfl, v', D', c1, c2, c3, c4, c5, c6⟩; have HD2 := (show Hid (w2.cell? ⟨bv, 14, none⟩ = some v' ∧ w2.frozen? ⟨bv, 14, none⟩ = false ∧ w2.ownsRow w.heap.size 59 3 v' D'.length (D'.flatMap encFp) ∧ D'.Perm (D ++ [((a : Int), (y : Int), (first y : Int))]) ∧ BelowX w.heap.size bv w1 w2 ∧ ∀ o, o ≠ 14 → w2.cell? ⟨bv, o, none⟩ = w1.cell? ⟨bv, o, none⟩) from ⟨c1, c2, c3, c4, ⟨c5.os, c5.tape, c5.output, c5.size, c5.block⟩, c6⟩); clear c1 c2 c3 c4 c5 c6)
                  all_goals
                    go_wp2_with fail
                    go_roundw
                    case rel =>
                      obtain ⟨c1, c2, c3, c4, c5, c6⟩ := HD2.out
                      obtain ⟨k1, k2⟩ := HD1.out
                      refine ⟨k + 1, by omega, by go_num, D', ⟨k1.bel.trans c5, fun o ho => (c6 o ho).trans (k1.oth o ho), c2, v', c1, c3⟩, ?_, k2.trans (c5.below hBw hBv)⟩
                      rw [selF_yes HY.out.2 HY.out.1 (by unfold keepF; rw [e1, Int.toNat_natCast, e2, e3]; rfl), ← List.append_assoc]
                      exact c4.trans (HD.out.2.1.append_right _)
                    case measure => simp [intOf]; omega
          · obtain rfl : k = n := by omega
            have HD : Hid (FSt w wr bv D ∧ D.Perm (pre t ++ selF lock first cl rv a x ((LL t).take k)) ∧ Below B wc wr) := ⟨hD, hDp, hBc⟩
            clear hD hDp hBc
            go_wp2_with fail
            go_roundw
            case rel =>
              refine ⟨t + 1, by omega, by go_num, D, HD.out.1, ?_, HD.out.2.2⟩
              rw [HPt.out]
              have := HD.out.2.1
              rw [HN.out.1, List.take_length] at this
              exact this
            case measure => simp [intOf]; omega
      · obtain rfl : t = 2 := by omega
        have HD : Hid (FSt w wr bv D ∧ D.Perm (pre 2)) := ⟨hD, hDp⟩
        clear hD hDp hBc
        go_wp2_with fail
        go_end0
        exact ⟨rfl, D, HD.out.1, by rw [← HEnd.out.1]; exact HD.out.2⟩
end Go.Proofs.Ybulkaiie
