/-
  THE PROOF OF 'Rows.LawS1704CReadSaid': the frame after the guide's shells (a slice of bytes, three arrays of bytes by value, a bool).
-/
import Derived.Test.YbulkaigoCArgs
import Derived.Test.YbulkaigoCReadLaw
import Derived.Test.YbulkaigoCReadPre
namespace Go.Proofs.Ybulkaigo.lawS1704CRead
open Go.ChangeShapes Go.WideShapes Go.ChangeAt Go.RowKit
set_option linter.unusedVariables false

theorem spot_none {w : World} {a : Addr} {v : Value} (h : w.cell? a = some v) : a.spot = none := by
  unfold World.cell? at h
  split at h
  · cases hs : a.spot with
    | none => rfl
    | some s => simp [hs] at h
  · simp at h

set_option maxHeartbeats 400000 in
set_option maxRecDepth 100000 in
theorem walk_long (w : World) (pa : Option Addr) (n cap : Nat) (K C P : Array Value) (q : Bool) (hn : 1024 < (n : Int)) :
    Calls Yba.prog 6 #[.slice pa n cap, .agg K, .agg C, .agg P, .bool q] w fun e w' => e = .returned (.bool true) ∧ Below w.heap.size w w' := by
  have HB : Hid (Below w.heap.size w (((w.alloc (.cells K 44)).alloc (.cells C 57)).alloc (.cells P 57))) := (((Below.refl _ w).alloc (Nat.le_refl _) _).alloc (by simp) _).alloc (by simp; omega) _
  go_enter Yba.func6, Yba.ntmps6
  go_wp2
  go_ret
  exact ⟨rfl, HB.out⟩

theorem walk (w : World) (pa : Option Addr) (n cap : Nat) (K C P : Array Value) (q : Bool) (hK : K.size = 32) (hC : C.size = 16) (hP : P.size = 16) (bK : BL K.toList) (bC : BL C.toList) (bP : BL P.toList)
    (hp : n ≤ cap ∧ ∃ Z : Nat → Int, ∀ i, i < n → ∃ b off, pa = some ⟨b, off, none⟩ ∧ b < w.heap.size ∧ w.cell? ⟨b, off + i, none⟩ = some (.int .u8 (Z i))) :
    Calls Yba.prog 6 #[.slice pa n cap, .agg K, .agg C, .agg P, .bool q] w fun e w' => e = .returned (.bool true) ∧ Below w.heap.size w w' := by
  obtain ⟨hcap, Z, hZ⟩ := hp
  by_cases h : n ≤ 1024
  · cases q with
    | true => exact law_read_pre w pa n cap h K C P hK hC hP bK bC bP
    | false =>
      by_cases h0 : n = 0
      · exact law_read w pa n cap Z 0 0 h hcap K C P hK hC hP bK bC bP (fun h1 => absurd h1 (by omega)) (fun i hi => absurd hi (by omega))
      · obtain ⟨b, off, rfl, hb, _⟩ := hZ 0 (by omega)
        refine law_read w _ n cap Z b off h hcap K C P hK hC hP bK bC bP (fun _ => ⟨rfl, hb⟩) fun i hi => ?_
        obtain ⟨b', off', e, _, hc⟩ := hZ i hi
        injection e with e
        injection e with e1 e2
        subst e1 e2
        exact hc
  · exact walk_long w pa n cap K C P q (by omega)

/-! ### THE ROW's STEP -/
set_option maxRecDepth 100000 in
theorem lifted (os : Os) (started : os.Started) (H : Type) (enc : TypeId × Value → H) :
    ReturnsInHanded {} Yba.checked os 6 .any (Rows.lawS1704CReadSpec.pre6 enc Yba.prog Yba.f6 Rows.lawS1704CReadRow.domain false) (Rows.lawS1704CReadSpec.post enc Yba.prog Yba.f6 false true false false) := by
  refine returnsInHanded_of_change (C := Yba.checked) cown started (by kernel_rfl) Yba.func6
    (ChangeSpec.witness6 (enc := enc) (C := Yba.checked) false ⟨#[], #[.slice none 0 0, .agg #[.int .u8 0, .int .u8 0, .int .u8 0, .int .u8 0, .int .u8 0, .int .u8 0, .int .u8 0, .int .u8 0, .int .u8 0, .int .u8 0, .int .u8 0, .int .u8 0, .int .u8 0, .int .u8 0, .int .u8 0, .int .u8 0, .int .u8 0, .int .u8 0, .int .u8 0, .int .u8 0, .int .u8 0, .int .u8 0, .int .u8 0, .int .u8 0, .int .u8 0, .int .u8 0, .int .u8 0, .int .u8 0, .int .u8 0, .int .u8 0, .int .u8 0, .int .u8 0], .agg #[.int .u8 0, .int .u8 0, .int .u8 0, .int .u8 0, .int .u8 0, .int .u8 0, .int .u8 0, .int .u8 0, .int .u8 0, .int .u8 0, .int .u8 0, .int .u8 0, .int .u8 0, .int .u8 0, .int .u8 0, .int .u8 0], .agg #[.int .u8 0, .int .u8 0, .int .u8 0, .int .u8 0, .int .u8 0, .int .u8 0, .int .u8 0, .int .u8 0, .int .u8 0, .int .u8 0, .int .u8 0, .int .u8 0, .int .u8 0, .int .u8 0, .int .u8 0, .int .u8 0], .bool false], []⟩ 8 (by kernel_rfl) (by kernel_rfl) (by kernel_rfl) (by kernel_rfl)) ?_
  intro W base args ds gs before hval0 hW hcnd _
  have hval : ∀ (j : Nat) t v, Yba.f6.params[j]? = some t → args[j]? = some v → Value.okWide Yba.prog W .any base t v := hval0
  have hW' := hW
  obtain ⟨p, q, hA0, hV, rfl, hfz, hnd⟩ := hW
  have hA : DataW.TrodAll enc Yba.prog W 0 (fun _ => true) true Yba.f6.params.toList args.toList ds p := hA0
  rw [Yba.params6] at hA hval
  obtain ⟨v0, vs0, d0, ds0, p0, q0, hargs, rfl, rfl, h0, r0⟩ := trodAll_cons hA
  obtain ⟨v1, vs1, d1, ds1, p1, q1, rfl, rfl, rfl, h1, r1⟩ := trodAll_cons r0
  obtain ⟨v2, vs2, d2, ds2, p2, q2, rfl, rfl, rfl, h2, r2⟩ := trodAll_cons r1
  obtain ⟨v3, vs3, d3, ds3, p3, q3, rfl, rfl, rfl, h3, r3⟩ := trodAll_cons r2
  obtain ⟨v4, vs4, d4, ds4, p4, q4, rfl, rfl, rfl, h4, r4⟩ := trodAll_cons r3
  obtain ⟨rfl, rfl, rfl⟩ := trodAll_nil r4
  obtain rfl : args = #[v0, v1, v2, v3, v4] := by cases args; simp_all
  obtain ⟨rfl, rfl⟩ := trodVars_none hV
  obtain ⟨a0, len0, cap0, rfl⟩ := okWide_slice Yba.underlying56 (hval 0 56 v0 rfl rfl)
  have k0 := h0
  have lt0 : ∀ x ∈ p0, x.block < W.heap.size := by obtain ⟨m, hm⟩ := k0; exact DataW.trod_lt m _ _ _ hm
  have w0 : len0 ≤ cap0 ∧ ∃ Z : Nat → Int, ∀ i, i < len0 → ∃ b off, a0 = some ⟨b, off, none⟩ ∧ b < W.heap.size ∧ W.cell? ⟨b, off + i, none⟩ = some (.int .u8 (Z i)) := by
    obtain ⟨fuel, hf⟩ := h0
    rcases open_ints Yba.underlying56 Yba.underlying5 ccells5 hf with ⟨hcs, _⟩ | ⟨x, l, c, zs, hcs, _, hl, hm, hz, _, hcell, hwz⟩
    · simp [Value.cells] at hcs
      obtain ⟨rfl, rfl, rfl⟩ := hcs
      exact ⟨Nat.le_refl _, fun _ => 0, fun i hi => absurd hi (by omega)⟩
    · simp [Value.cells] at hcs
      obtain ⟨rfl, rfl, rfl⟩ := hcs
      have hz' : zs.length = cap0 := by simpa using hz
      refine ⟨hl, fun i => zs.getD i 0, fun i hi => ?_⟩
      have hz0 := hcell 0 (by omega)
      have hc := hcell i (by omega)
      obtain ⟨b, off, spot⟩ := x
      have hs : spot = none := by simpa [Addr.add] using spot_none hz0
      subst hs
      rw [Addr.add_lit] at hc
      exact ⟨b, off, rfl, World.block_lt_of_cell? _ _ hc, hc⟩
  obtain ⟨A1, rfl, s1, b1⟩ := open_array Yba.underlying44 ccells44 (hval 1 44 v1 rfl rfl) h1
  obtain ⟨A2, rfl, s2, b2⟩ := open_array Yba.underlying57 ccells57 (hval 2 57 v2 rfl rfl) h2
  obtain ⟨A3, rfl, s3, b3⟩ := open_array Yba.underlying57 ccells57 (hval 3 57 v3 rfl rfl) h3
  obtain ⟨a4, rfl, rfl, rfl⟩ := open_bool Yba.underlying4 (hval 4 4 v4 rfl rfl) h4
  have lt1 : ∀ x ∈ p1, x.block < W.heap.size := by obtain ⟨m, hm⟩ := h1; exact DataW.trod_lt m _ _ _ hm
  have lt2 : ∀ x ∈ p2, x.block < W.heap.size := by obtain ⟨m, hm⟩ := h2; exact DataW.trod_lt m _ _ _ hm
  have lt3 : ∀ x ∈ p3, x.block < W.heap.size := by obtain ⟨m, hm⟩ := h3; exact DataW.trod_lt m _ _ _ hm
  clear hA0 hval0
  refine (walk W a0 len0 cap0 A1 A2 A3 a4 s1 s2 s3 b1 b2 b3 w0).mono fun e W' ⟨he, bel⟩ => ?_
  subst he
  exact ⟨_, rfl, _, _, _, [], _, [], hW', trodAll_mk1 (shut_bool Yba.underlying4 _), (trodAll_cons_mk (Below.trod claidOut (by kernel_rfl) (of_decide_eq_true (by kernel_rfl)) k0 bel lt0) (trodAll_cons_mk (Below.trod claidOut (by kernel_rfl) (of_decide_eq_true (by kernel_rfl)) h1 bel lt1) (trodAll_cons_mk (Below.trod claidOut (by kernel_rfl) (of_decide_eq_true (by kernel_rfl)) h2 bel lt2) (trodAll_cons_mk (Below.trod claidOut (by kernel_rfl) (of_decide_eq_true (by kernel_rfl)) h3 bel lt3) (trodAll_cons_mk (shut_bool Yba.underlying4 _) trodAll_mk0))))), rfl, bel.frame _, fun h => by cases h⟩

theorem over : Rows.lawS1704CReadRow.holds Yba.pinned (OpenSpec.ofChange Rows.lawS1704CReadSpec) :=
  OpenClaim.holds_of_wide 6 Yba.f6 rfl rfl rfl rfl rfl rfl rfl ⟨rfl, rfl, rfl, rfl, rfl⟩ rfl rfl rfl rfl rfl (by kernel_rfl) Yba.func6 (by kernel_rfl)
    (of_decide_eq_true (by kernel_rfl)) (by unfold Func.isWrapper; first | (rw [if_pos (by decide +kernel)]; kernel_rfl) | (rw [if_neg (by decide +kernel)]; exact ⟨rfl, rfl⟩))
    (fun os started H enc _ => lifted os started H enc)

/-- THE STATEMENT -/
theorem proved : Rows.LawS1704CReadSaid := over
end Go.Proofs.Ybulkaigo.lawS1704CRead
