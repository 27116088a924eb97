/-
  THE PROOF OF 'Rows.LawS1704BFifoSaid': the frame after the guide's shells (two integers, a slice of structs of one bool).
-/
import Derived.Test.YbulkaigoRows
import Derived.Test.YbulkaigoBLaw
import Derived.ProofKit
import Derived.OpenShut
import Derived.ShutString
import Derived.ChangeOld
import Derived.Below
import Derived.Deep.Slices
namespace Go.Proofs.Ybulkaigo.lawS1704BFifo
open Go.ChangeShapes Go.WideShapes Go.ChangeAt Go.RowKit
open Go.Deep
set_option linter.unusedVariables false

theorem own : ownKnob Yba.prog.godebug = none := by kernel_rfl
theorem laidOut : laidOutB Yba.prog = true := by kernel_rfl

theorem spot_none {w : World} {a : Addr} {v : Value} (h : w.cell? a = some v) : a.spot = none := by
  unfold World.cell? at h
  split at h
  · cases hs : a.spot with
    | none => rfl
    | some s => simp [hs] at h
  · simp at h

set_option maxHeartbeats 400000 in
set_option maxRecDepth 100000 in
theorem walk_long (w : World) (a0 a1 : Int) (pa : Option Addr) (n cap : Nat) (hn : 1024 < (n : Int)) :
    Calls Yba.prog 4 #[.int .u8 a0, .int .u8 a1, .slice pa n cap] w fun e w' => e = .returned (.bool true) ∧ Below w.heap.size w w' := by
  go_enter Yba.func4, Yba.ntmps4
  go_wp2
  go_ret
  exact ⟨rfl, Below.refl _ _⟩

theorem walk (w : World) (a0 a1 : Int) (pa : Option Addr) (n cap : Nat) (w0 : (Lit.int .u8 a0).wf = true) (w1 : (Lit.int .u8 a1).wf = true)
    (hp : ∃ B : Nat → Bool, ∀ i, i < n → ∃ b off, pa = some ⟨b, off, none⟩ ∧ b < w.heap.size ∧ w.cell? ⟨b, off + i, none⟩ = some (.bool (B i))) :
    Calls Yba.prog 4 #[.int .u8 a0, .int .u8 a1, .slice pa n cap] w fun e w' => e = .returned (.bool true) ∧ Below w.heap.size w w' := by
  obtain ⟨B, hB⟩ := hp
  have b0 := bounds_u8 w0
  have b1 := bounds_u8 w1
  by_cases h : n ≤ 1024
  · exact law_b w a0 a1 pa n cap B h b0.1 (by omega) b1.1 (by omega) hB
  · exact walk_long w a0 a1 pa n cap (by omega)

/-! ### THE ROW's STEP -/
set_option maxRecDepth 100000 in
theorem lifted (os : Os) (started : os.Started) (H : Type) (enc : TypeId × Value → H) :
    ReturnsInHanded {} Yba.checked os 4 .any (Rows.lawS1704BFifoSpec.pre6 enc Yba.prog Yba.f4 Rows.lawS1704BFifoRow.domain false) (Rows.lawS1704BFifoSpec.post enc Yba.prog Yba.f4 false true false false) := by
  refine returnsInHanded_of_change (C := Yba.checked) own started (by kernel_rfl) Yba.func4
    (ChangeSpec.witness6 (enc := enc) (C := Yba.checked) false ⟨#[], #[.int .u8 0, .int .u8 0, .slice none 0 0], []⟩ 8 (by kernel_rfl) (by kernel_rfl) (by kernel_rfl) (by kernel_rfl)) ?_
  intro W base args ds gs before hval0 hW hcnd _
  have hval : ∀ (j : Nat) t v, Yba.f4.params[j]? = some t → args[j]? = some v → Value.okWide Yba.prog W .any base t v := hval0
  have hW' := hW
  obtain ⟨p, q, hA0, hV, rfl, hfz, hnd⟩ := hW
  have hA : DataW.TrodAll enc Yba.prog W 0 (fun _ => true) true Yba.f4.params.toList args.toList ds p := hA0
  rw [Yba.params4] at hA hval
  obtain ⟨v0, vs0, d0, ds0, p0, q0, hargs, rfl, rfl, h0, r0⟩ := trodAll_cons hA
  obtain ⟨v1, vs1, d1, ds1, p1, q1, rfl, rfl, rfl, h1, r1⟩ := trodAll_cons r0
  obtain ⟨v2, vs2, d2, ds2, p2, q2, rfl, rfl, rfl, h2, r2⟩ := trodAll_cons r1
  obtain ⟨rfl, rfl, rfl⟩ := trodAll_nil r2
  obtain rfl : args = #[v0, v1, v2] := by cases args; simp_all
  obtain ⟨rfl, rfl⟩ := trodVars_none hV
  obtain ⟨a0, rfl, rfl, rfl, w0⟩ := open_int Yba.underlying5 (hval 0 5 v0 rfl rfl) h0
  obtain ⟨a1, rfl, rfl, rfl, w1⟩ := open_int Yba.underlying5 (hval 1 5 v1 rfl rfl) h1
  obtain ⟨a2, len2, cap2, rfl⟩ := okWide_slice Yba.underlying34 (hval 2 34 v2 rfl rfl)
  have k2 := h2
  have lt2 : ∀ x ∈ p2, x.block < W.heap.size := by obtain ⟨m, hm⟩ := k2; exact DataW.trod_lt m _ _ _ hm
  have w2 : ∃ B : Nat → Bool, ∀ i, i < len2 → ∃ b off, a2 = some ⟨b, off, none⟩ ∧ b < W.heap.size ∧ W.cell? ⟨b, off + i, none⟩ = some (.bool (B i)) := by
    obtain ⟨fuel, hf⟩ := h2
    rcases open_slice1 Yba.underlying34 (by kernel_rfl) hf with ⟨hcs, _⟩ | ⟨x, l, c, m, nf, V, D, Pl, hcs, _, hl, hm, hmm, _, hx⟩
    · simp [Value.cells] at hcs
      obtain ⟨rfl, rfl, rfl⟩ := hcs
      exact ⟨fun _ => false, fun i hi => absurd hi (by omega)⟩
    · simp [Value.cells] at hcs
      obtain ⟨rfl, rfl, rfl⟩ := hcs
      simp only [if_true] at hmm
      subst hmm
      have hb : ∀ i, i < m → ∃ b : Bool, W.cell? (x.add i) = some (.bool b) := fun i hi => by
        obtain ⟨hc, ht⟩ := hx i hi
        obtain ⟨y0, nn, _, _, hy⟩ := trod_struct1 Yba.underlying40 ht
        rw [show Yba.prog.cellsOf 4 = 1 from by kernel_rfl] at hy
        obtain ⟨b, hb1, _⟩ := DataW.trod_bool Yba.underlying4 hy
        simp at hb1
        exact ⟨b, by rw [hc, hb1]⟩
      obtain ⟨B, hB⟩ := choose_lt (α := Bool) (p := fun i b => W.cell? (x.add i) = some (.bool b)) hb
      refine ⟨B, fun i hi => ?_⟩
      have hz := hB 0 (by omega)
      have hc := hB i (by omega)
      obtain ⟨b, off, spot⟩ := x
      have hs : spot = none := by simpa [Addr.add] using spot_none hz
      subst hs
      rw [Addr.add_lit] at hc
      exact ⟨b, off, rfl, World.block_lt_of_cell? _ _ hc, hc⟩
  clear hA0 hval0
  refine (walk W a0 a1 a2 len2 cap2 w0 w1 w2).mono fun e W' ⟨he, bel⟩ => ?_
  subst he
  exact ⟨_, rfl, _, _, _, [], _, [], hW', trodAll_mk1 (shut_bool Yba.underlying4 _), (trodAll_cons_mk (shut_int Yba.underlying5 w0) (trodAll_cons_mk (shut_int Yba.underlying5 w1) (trodAll_cons_mk (Below.trod laidOut (by kernel_rfl) (of_decide_eq_true (by kernel_rfl)) k2 bel lt2) trodAll_mk0))), rfl, bel.frame _, fun h => by cases h⟩

theorem over : Rows.lawS1704BFifoRow.holds Yba.pinned (OpenSpec.ofChange Rows.lawS1704BFifoSpec) :=
  OpenClaim.holds_of_wide 4 Yba.f4 rfl rfl rfl rfl rfl rfl rfl ⟨rfl, rfl, rfl, rfl, rfl⟩ rfl rfl rfl rfl rfl (by kernel_rfl) Yba.func4 (by kernel_rfl)
    (of_decide_eq_true (by kernel_rfl)) (by unfold Func.isWrapper; first | (rw [if_pos (by decide +kernel)]; kernel_rfl) | (rw [if_neg (by decide +kernel)]; exact ⟨rfl, rfl⟩))
    (fun os started H enc _ => lifted os started H enc)

/-- THE STATEMENT -/
theorem proved : Rows.LawS1704BFifoSaid := over
end Go.Proofs.Ybulkaigo.lawS1704BFifo
