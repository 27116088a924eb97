/-
  zzs1707agroups, group.
-/
import Derived.Test.YbulkaiieMem
namespace Go.Proofs.Ybulkaiie
open Go.RowKit
set_option linter.unusedSimpArgs false
set_option linter.unusedVariables false

def joinL (L : Nat → List Int) (n : Nat) : List Int := (List.range n).flatMap L
def startsL (L : Nat → List Int) (n : Nat) : List Int := (List.range (n + 1)).map (fun k => ((joinL L k).length : Int))

theorem joinL_succ (L : Nat → List Int) (n : Nat) : joinL L (n + 1) = joinL L n ++ L n := by simp [joinL, List.range_succ]
theorem startsL_succ (L : Nat → List Int) (n : Nat) : startsL L (n + 1) = startsL L n ++ [((joinL L (n + 1)).length : Int)] := by
  rw [startsL, List.range_succ (n := n + 1)]; simp [startsL]
theorem joinL_mono (L : Nat → List Int) {k n : Nat} (h : k ≤ n) : (joinL L k).length ≤ (joinL L n).length := by
  induction n with
  | zero => obtain rfl : k = 0 := by omega
            exact Nat.le_refl _
  | succ m ih =>
    rcases Nat.eq_or_lt_of_le h with rfl | h
    · exact Nat.le_refl _
    · rw [joinL_succ]; have := ih (by omega); simp; omega

def Grp (B : Nat) (w : World) (G : Value) (n : Nat) (L : Nat → List Int) : Prop :=
  ∃ vall vst, G = .agg #[vall, vst] ∧ Sl B w vall (joinL L n) ∧ Sl B w vst (startsL L n)

theorem make27 (n : Nat) (hn : n ≤ 256) : ∃ mk : Array Value, mk.size = n + 1 ∧ ∀ w : World, (Instr.makeSlice 27 (.int .i64 0) (.int .i64 ((n : Int) + 1))).run Yba.prog w = .ok (.slice (some ⟨w.heap.size, 0, none⟩) 0 (n + 1)) (w.alloc (.cells mk 3)) := by
  obtain ⟨i0, hi, hz0, hz1, hz2⟩ := info_parts info3
  refine ⟨madeCells #[.int .i64 0] (n + 1), by simp [madeCells], fun w => ?_⟩
  have hr := run_make (P := Yba.prog) w 27 3 i0 (.int .i64 0) Yba.underlying27 hi hz0 .i64 .i64 0 ((n : Int) + 1) (by omega) (by omega) (by rw [hz2]; omega) (by omega)
  simp only [hz1, Nat.mul_one] at hr
  exact hr

theorem grown_set {w : World} {a : Addr} {v : Value} : w.grownBy (w.setCell a v) (some a.block) :=
  ⟨rfl, rfl, rfl, by simp, fun k _ hne => Below.heap_setCell _ _ _ _ (by intro e; exact hne (by rw [e]))⟩

theorem set_block {w : World} {b o : Nat} {v : Value} {cs : Array Value} {t : TypeId} {fr : Nat × Nat} (h : w.heap[b]? = some (.cells cs t fr)) : (w.setCell ⟨b, o, none⟩ v).heap[b]? = some (.cells (cs.setIfInBounds o v) t fr) := by
  simp [World.setCell, Array.getElem?_modify, h]

/-- The memory of zzs1707agroups within its loop. -/
structure G0 (w wr : World) (vall vst : Value) (la ls : List Int) : Prop where
  bel : Below w.heap.size w wr
  size : w.heap.size + 4 ≤ wr.heap.size
  b0 : wr.heap[w.heap.size]? = some (.cells #[.slice none 0 0, .slice none 0 0] 32 (0, 0))
  b2 : wr.heap[w.heap.size + 1 + 1]? = some (.cells #[vall, vst] 32 (0, 0))
  oa : wr.ownsRow (w.heap.size + 1) 3 1 vall la.length (encI la)
  os : wr.ownsRow (w.heap.size + 1) 3 1 vst ls.length (encI ls)
  na : vall.ownBlock ≠ some (w.heap.size + 1 + 1)
  ns : vst.ownBlock ≠ some (w.heap.size + 1 + 1)
  nas : vall.ownBlock = none ∨ vall.ownBlock ≠ vst.ownBlock

theorem encI_append (l m : List Int) : encI (l ++ m) = encI l ++ encI m := by simp [encI]

theorem G0.all {w wr w1 : World} {vall vst v' : Value} {la ls l : List Int} (h : G0 w wr vall vst la ls) (ho : w1.ownsRow (w.heap.size + 1) 3 1 v' (la.length + l.length) (encI la ++ encI l)) (hg : wr.grownBy w1 vall.ownBlock) (hat : v'.ownBlock = vall.ownBlock ∨ v'.ownBlock = some wr.heap.size) :
    G0 w (w1.setCell ⟨w.heap.size + 1 + 1, 0, none⟩ v') v' vst (la ++ l) ls := by
  have hsz := h.size
  have hlt : ∀ k, vall.ownBlock = some k → w.heap.size + 1 ≤ k := fun k hk => (h.oa.lt k hk).1
  have hlts : ∀ k, vst.ownBlock = some k → k < wr.heap.size := fun k hk => (h.os.lt k hk).2
  have hna : v'.ownBlock ≠ some (w.heap.size + 1 + 1) := by
    rcases hat with e | e
    · rw [e]; exact h.na
    · rw [e]; intro e; simp at e; omega
  have hbel1 : Below w.heap.size w w1 := h.bel.grown hg (by omega) (fun k hk => by have := hlt k hk; omega)
  refine ⟨hbel1.setCell (by show w.heap.size ≤ w.heap.size + 1 + 1; omega) _, by have := hg.size; simp; omega, ?_, ?_, ?_, ?_, hna, h.ns, ?_⟩
  · rw [Below.heap_setCell _ _ _ _ (by show w.heap.size ≠ w.heap.size + 1 + 1; omega), hg.block _ (by omega) (fun e => by have := hlt _ e.symm; omega), h.b0]
  · have hb := h.b2
    rw [← hg.block (w.heap.size + 1 + 1) (by omega) (fun e => h.na e.symm)] at hb
    rw [set_block hb]; rfl
  · rw [List.length_append, encI_append]
    exact ho.kept grown_set (.inr hna)
  · refine (h.os.kept hg ?_).kept grown_set (.inr h.ns)
    rcases h.nas with e | e
    · rw [e]
      cases h1 : vst.ownBlock with
      | none => exact .inl rfl
      | some k => exact .inr (by simp)
    · exact .inr (fun e2 => e e2.symm)
  · rcases hat with e | e
    · rw [e]; exact h.nas
    · rw [e]; exact .inr (fun e2 => by have := hlts _ e2.symm; omega)

theorem G0.st {w wr w1 : World} {vall vst v' : Value} {la ls l : List Int} (h : G0 w wr vall vst la ls) (ho : w1.ownsRow (w.heap.size + 1) 3 1 v' (ls.length + l.length) (encI ls ++ encI l)) (hg : wr.grownBy w1 vst.ownBlock) (hat : v'.ownBlock = vst.ownBlock ∨ v'.ownBlock = some wr.heap.size) :
    G0 w (w1.setCell ⟨w.heap.size + 1 + 1, 1, none⟩ v') vall v' la (ls ++ l) := by
  have hsz := h.size
  have hlt : ∀ k, vst.ownBlock = some k → w.heap.size + 1 ≤ k := fun k hk => (h.os.lt k hk).1
  have hlta : ∀ k, vall.ownBlock = some k → k < wr.heap.size := fun k hk => (h.oa.lt k hk).2
  have hna : v'.ownBlock ≠ some (w.heap.size + 1 + 1) := by
    rcases hat with e | e
    · rw [e]; exact h.ns
    · rw [e]; intro e; simp at e; omega
  have hbel1 : Below w.heap.size w w1 := h.bel.grown hg (by omega) (fun k hk => by have := hlt k hk; omega)
  refine ⟨hbel1.setCell (by show w.heap.size ≤ w.heap.size + 1 + 1; omega) _, by have := hg.size; simp; omega, ?_, ?_, ?_, ?_, h.na, hna, ?_⟩
  · rw [Below.heap_setCell _ _ _ _ (by show w.heap.size ≠ w.heap.size + 1 + 1; omega), hg.block _ (by omega) (fun e => by have := hlt _ e.symm; omega), h.b0]
  · have hb := h.b2
    rw [← hg.block (w.heap.size + 1 + 1) (by omega) (fun e => h.ns e.symm)] at hb
    rw [set_block hb]; rfl
  · exact (h.oa.kept hg h.nas).kept grown_set (.inr h.na)
  · rw [List.length_append, encI_append]
    exact ho.kept grown_set (.inr hna)
  · rcases hat with e | e
    · rw [e]; exact h.nas
    · rw [e]
      cases h1 : vall.ownBlock with
      | none => exact .inl rfl
      | some k => exact .inr (fun e2 => by have := hlta k h1; simp at e2; omega)

theorem G0.alloc {w wr : World} {vall vst : Value} {la ls : List Int} (h : G0 w wr vall vst la ls) (o : Obj) : G0 w (wr.alloc o) vall vst la ls := by
  have hsz := h.size
  refine ⟨h.bel.alloc (by omega) o, by simp; omega, ?_, ?_, h.oa.alloc o, h.os.alloc o, h.na, h.ns, h.nas⟩
  · rw [Below.heap_alloc _ _ _ (by omega), h.b0]
  · rw [Below.heap_alloc _ _ _ (by omega), h.b2]

theorem G0.cells {w wr : World} {vall vst : Value} {la ls : List Int} (h : G0 w wr vall vst la ls) : wr.cell? ⟨w.heap.size + 1 + 1, 0, none⟩ = some vall ∧ wr.cell? ⟨w.heap.size + 1 + 1, 1, none⟩ = some vst ∧ (∀ k, wr.frozen? ⟨w.heap.size + 1 + 1, k, none⟩ = false) ∧ (∀ k, wr.frozen? ⟨w.heap.size, k, none⟩ = false) ∧ wr.cell? ⟨w.heap.size, 0, none⟩ = some (.slice none 0 0) ∧ wr.cell? ⟨w.heap.size, 1, none⟩ = some (.slice none 0 0) :=
  ⟨cell_of_row wr _ 0 _ 32 (0, 0) h.b2, cell_of_row wr _ 1 _ 32 (0, 0) h.b2, fun k => by simp [World.frozen?, h.b2], fun k => by simp [World.frozen?, h.b0], cell_of_row wr _ 0 _ 32 (0, 0) h.b0, cell_of_row wr _ 1 _ 32 (0, 0) h.b0⟩

theorem G0.after_all {w wr w1 : World} {vall vst : Value} {la ls : List Int} (h : G0 w wr vall vst la ls) (hg : wr.grownBy w1 vall.ownBlock) : w1.cell? ⟨w.heap.size + 1 + 1, 0, none⟩ = some vall ∧ w1.cell? ⟨w.heap.size + 1 + 1, 1, none⟩ = some vst ∧ (∀ k, w1.frozen? ⟨w.heap.size + 1 + 1, k, none⟩ = false) := by
  have hb := h.b2
  have hsz := h.size
  rw [← hg.block (w.heap.size + 1 + 1) (by omega) (fun e => h.na e.symm)] at hb
  exact ⟨cell_of_row w1 _ 0 _ 32 (0, 0) hb, cell_of_row w1 _ 1 _ 32 (0, 0) hb, fun k => by simp [World.frozen?, hb]⟩

theorem G0.after_st {w wr w1 : World} {vall vst : Value} {la ls : List Int} (h : G0 w wr vall vst la ls) (hg : wr.grownBy w1 vst.ownBlock) : w1.cell? ⟨w.heap.size + 1 + 1, 0, none⟩ = some vall ∧ w1.cell? ⟨w.heap.size + 1 + 1, 1, none⟩ = some vst ∧ (∀ k, w1.frozen? ⟨w.heap.size + 1 + 1, k, none⟩ = false) := by
  have hb := h.b2
  have hsz := h.size
  rw [← hg.block (w.heap.size + 1 + 1) (by omega) (fun e => h.ns e.symm)] at hb
  exact ⟨cell_of_row w1 _ 0 _ 32 (0, 0) hb, cell_of_row w1 _ 1 _ 32 (0, 0) hb, fun k => by simp [World.frozen?, hb]⟩

theorem g0_start (w : World) (n : Nat) (mk : Array Value) (hmks : mk.size = n + 1) (hn : n ≤ 256) (L : Nat → List Int) : G0 w ((((w.alloc (Obj.cells #[Value.slice none 0 0, Value.slice none 0 0] 32)).alloc
              (Obj.cells (mk.setIfInBounds 0 (Value.int IntKind.i64 0)) 3)).alloc
          (Obj.cells #[Value.slice none 0 0, Value.slice (some { block := w.heap.size + 1, off := 0 }) 1 (n + 1)]
            32)).alloc
      (Obj.cells #[Value.int IntKind.i64 0] 3)) (.slice none 0 0) (.slice (some ⟨w.heap.size + 1, 0, none⟩) 1 (n + 1)) (joinL L 0) (startsL L 0) := by
  refine ⟨?_, by simp, ?_, ?_, World.ownsRow_nil _ _ _ _, ?_, by simp [Value.ownBlock], by simp [Value.ownBlock], .inl rfl⟩
  · exact ((((Below.refl _ _).alloc (Nat.le_refl _) _).alloc (by simp) _).alloc (by simp; omega) _).alloc (by simp; omega) _
  · rw [Below.heap_alloc _ _ _ (by simp; omega), Below.heap_alloc _ _ _ (by simp; omega), Below.heap_alloc _ _ _ (by simp)]
    exact heap_alloc_new _ _
  · rw [Below.heap_alloc _ _ _ (by simp)]
    have h := heap_alloc2_new (w.alloc (Obj.cells #[Value.slice none 0 0, Value.slice none 0 0] 32)) (Obj.cells (mk.setIfInBounds 0 (Value.int IntKind.i64 0)) 3) (Obj.cells #[Value.slice none 0 0, Value.slice (some { block := w.heap.size + 1, off := 0 }) 1 (n + 1)] 32)
    rw [show (w.alloc (Obj.cells #[Value.slice none 0 0, Value.slice none 0 0] 32)).heap.size = w.heap.size + 1 by simp] at h
    exact h
  · have hb : ((((w.alloc (Obj.cells #[Value.slice none 0 0, Value.slice none 0 0] 32)).alloc
              (Obj.cells (mk.setIfInBounds 0 (Value.int IntKind.i64 0)) 3)).alloc
          (Obj.cells #[Value.slice none 0 0, Value.slice (some { block := w.heap.size + 1, off := 0 }) 1 (n + 1)]
            32)).alloc
      (Obj.cells #[Value.int IntKind.i64 0] 3)).heap[w.heap.size + 1]? = some (.cells (mk.setIfInBounds 0 (Value.int IntKind.i64 0)) 3) := by
      rw [Below.heap_alloc _ _ _ (by simp), Below.heap_alloc _ _ _ (by simp)]
      exact heap_alloc2_new _ _ _
    refine ⟨by simp [encI], .inr ⟨_, _, _, rfl, Nat.le_refl _, hb, by simp [startsL], by unfold maxLen; omega, by simp [hmks], ?_⟩⟩
    apply List.ext_getElem?
    intro i
    cases i with
    | zero => simp [startsL, encI, joinL, hmks]
    | succ i => simp [startsL, encI, joinL, hmks]

set_option maxHeartbeats 1000000 in
set_option maxRecDepth 100000 in
theorem groups4 (w : World) (gl n c : Nat) (V : Nat → Value) (L : Nat → List Int) (hn : n ≤ 256) (hgl : ∀ t, t < n → w.cell? ⟨gl, t, none⟩ = some (V t)) (hV : ∀ t, t < n → Sl w.heap.size w (V t) (L t)) (htot : (joinL L n).length ≤ 8192) :
    Calls Yba.prog 4 #[.slice (some ⟨gl, 0, none⟩) n c] w fun e w' => ∃ G, e = .returned G ∧ Below w.heap.size w w' ∧ Grp w'.heap.size w' G n L := by
  have q1 : IntKind.i64.wrap ((n : Int) + 1) = ((n + 1 : Nat) : Int) := by rw [IntKind.wrap_i64]; omega
  have q2 : n + 1 ≤ maxLen := by unfold maxLen; omega
  have HC : Hid (∀ t, t < n → w.cell? ⟨gl, t, none⟩ = some (V t)) := hgl
  have HV : Hid (∀ t, t < n → Sl w.heap.size w (V t) (L t)) := hV
  clear hgl hV
  obtain ⟨mk, hmks, hmk⟩ := make27 n hn
  go_enter Yba.func4, Yba.ntmps4
  go_wp2_with fail
  go_loopw [18] (fun x wr => ∃ k : Nat, k ≤ n ∧ x = .int .i64 k ∧ ∃ vall vst, G0 w wr vall vst (joinL L k) (startsL L k)) (fun x _ => n - (intOf x).toNat)
  case atStart =>
    refine ⟨0, by omega, rfl, .slice none 0 0, .slice (some ⟨w.heap.size + 1, 0, none⟩) 1 (n + 1), ?_⟩
    exact g0_start w n mk hmks hn L
  case round =>
    obtain ⟨k, hk, rfl, vall, vst, hG⟩ := hrel
    obtain ⟨aa, ca, rfl⟩ := own_form hG.oa
    obtain ⟨ast, cst, rfl⟩ := own_form hG.os
    by_cases hkn : k < n
    · have hcell : wr.cell? ⟨gl, k, none⟩ = some (V k) := by rw [hG.bel.cell (p := ⟨gl, k, none⟩) (World.block_lt_of_cell? _ _ (HC.out k hkn)), HC.out k hkn]
      obtain ⟨c0, c1, f0, f1, d0, d1⟩ := hG.cells
      have hlt : (k : Int) < (n : Int) := by omega
      have HSl : Hid (Sl w.heap.size wr (V k) (L k)) := (HV.out k hkn).keep hG.bel
      have HG := (show Hid _ from hG)
      have hsz := hG.size
      have hjm := joinL_mono L (show k + 1 ≤ n by omega)
      have hjs := joinL_succ L k
      have htl : (joinL L k).length + (L k).length ≤ 100000 := by rw [hjs, List.length_append] at hjm; omega
      have HJ : Hid ((joinL L (k+1)).length ≤ 8192) := by show _ ≤ _; omega
      clear hG hjm hjs
      go_wp2_with (at_builtin; refine wpList_append_sl _ rfl (.tmp 23) (.tmp 24) rfl (w.heap.size + 1) w.heap.size _ _ _ _ (L k) rfl rfl HG.out.oa HSl.out htl (by omega) ?_)
      intro va w1 ho hg hat
      obtain ⟨e0, e1, e2⟩ := HG.out.after_all hg
      obtain ⟨aa', ca', rfl⟩ := own_form ho
      have hsz1 : w.heap.size + 4 ≤ w1.heap.size := Nat.le_trans hsz hg.size
      have HG1 : Hid (G0 w (w1.setCell ⟨w.heap.size + 1 + 1, 0, none⟩ (.slice aa' ((joinL L k).length + (L k).length) ca')) _ _ _ _) := HG.out.all ho hg hat
      clear ho hg hat c0 c1 f0 f1 d0 d1 hcell
      have HS1 : Hid (Sl (w1.heap.size + 1) ((w1.setCell ⟨w.heap.size + 1 + 1, 0, none⟩ (.slice aa' ((joinL L k).length + (L k).length) ca')).alloc (.cells #[.int .i64 (((joinL L k).length : Int) + ((L k).length : Int))] 3)) (.slice (some ⟨w1.heap.size, 0, none⟩) 1 1) [((joinL L k).length : Int) + ((L k).length : Int)]) := by
        have := sl_one (w1.setCell ⟨w.heap.size + 1 + 1, 0, none⟩ (.slice aa' ((joinL L k).length + (L k).length) ca')) (((joinL L k).length : Int) + ((L k).length : Int))
        unfold Hid
        simpa using this
      have q5 : (startsL L k).length + [((joinL L k).length : Int) + ((L k).length : Int)].length ≤ 100000 := by simp [startsL]; omega
      go_wp2_with (at_builtin; refine wpList_append_sl _ rfl (.tmp 28) (.tmp 32) rfl (w.heap.size + 1) (w1.heap.size + 1) _ _ _ (.slice (some ⟨w1.heap.size, 0, none⟩) 1 1) _ rfl rfl (HG1.out.alloc _).os HS1.out q5 ?c3 ?_)
      case c3 => simp; omega
      intro vs w2 ho2 hg2 hat2
      obtain ⟨e3, e4, e5⟩ := (HG1.out.alloc _).after_st hg2
      have HG2 := (show Hid _ from (HG1.out.alloc _).st ho2 hg2 (by simpa using hat2))
      obtain ⟨as', cs', rfl⟩ := own_form ho2
      clear ho2 hg2 hat2 e0 e1 e2
      go_wp2_with fail
      go_roundw
      case rel =>
        refine ⟨k + 1, by omega, by go_num, ?_⟩
        have e2 : startsL L (k + 1) = startsL L k ++ [((joinL L k).length : Int) + ((L k).length : Int)] := by rw [startsL_succ, joinL_succ, List.length_append, Int.natCast_add]
        rw [joinL_succ, e2]
        exact ⟨_, _, HG2.out⟩
      case measure => simp [intOf]; omega
    · obtain rfl : k = n := by omega
      obtain ⟨c0, c1, f0, f1, d0, d1⟩ := hG.cells
      have HG := (show Hid _ from hG)
      clear hG
      go_wp2_with fail
      refine bodyPost_ret (results_cell_row rfl _ _ w.heap.size 32 #[.slice aa (joinL L k).length ca, .slice ast (startsL L k).length cst] (0, 0) _ rfl (set_block (set_block HG.out.b0)) Yba.underlying32 rfl (by kernel_rfl)) rfl ?_
      have g1 := (grown_set (w := wr) (a := ⟨w.heap.size, 0, none⟩) (v := .slice aa (joinL L k).length ca))
      have g2 := (grown_set (w := wr.setCell ⟨w.heap.size, 0, none⟩ (.slice aa (joinL L k).length ca)) (a := ⟨w.heap.size, 1, none⟩) (v := .slice ast (startsL L k).length cst))
      have na : ∀ v : Value, (∀ j, v.ownBlock = some j → w.heap.size + 1 ≤ j ∧ j < wr.heap.size) → v.ownBlock ≠ some w.heap.size := fun v h e => by have := h _ e; omega
      refine ⟨_, rfl, (HG.out.bel.setCell (Nat.le_refl _) _).setCell (Nat.le_refl _) _, _, _, rfl, ?_, ?_⟩
      · exact sl_of_own ((HG.out.oa.kept g1 (.inr (na _ HG.out.oa.lt))).kept g2 (.inr (na _ HG.out.oa.lt)))
      · exact sl_of_own ((HG.out.os.kept g1 (.inr (na _ HG.out.os.lt))).kept g2 (.inr (na _ HG.out.os.lt)))

theorem joinL_slice (L : Nat → List Int) {k n : Nat} (hk : k < n) (i : Nat) (hi : i < (L k).length) : (joinL L n).getD ((joinL L k).length + i) 0 = (L k).getD i 0 := by
  induction n with
  | zero => omega
  | succ m ih =>
    rw [joinL_succ]
    rcases Nat.eq_or_lt_of_le (Nat.le_of_lt_succ hk) with rfl | h
    · rw [List.getD_eq_getElem?_getD, List.getElem?_append_right (by omega), List.getD_eq_getElem?_getD]
      congr 2; omega
    · have h1 := joinL_mono L (show k + 1 ≤ m by omega)
      rw [joinL_succ, List.length_append] at h1
      rw [List.getD_eq_getElem?_getD, List.getElem?_append_left (by omega), ← List.getD_eq_getElem?_getD]
      exact ih h

theorem startsL_getD (L : Nat → List Int) {k n : Nat} (hk : k ≤ n) : (startsL L n).getD k 0 = ((joinL L k).length : Int) := by
  have : k < n + 1 := by omega
  simp [startsL, this]

theorem sl_sub0 {B g o c : Nat} {w : World} {l : List Int} (hg : g < B) (h : l.length = 0) : Sl B w (.slice (some ⟨g, o, none⟩) 0 c) l :=
  .inr ⟨g, o, c, by rw [h], by omega, hg, fun i hi => by omega⟩
theorem sl_subm {B g o m : Nat} {w : World} {l : List Int} (hg : g < B) (h : m = l.length) (hc : ∀ i, i < l.length → w.cell? ⟨g, o + i, none⟩ = some (.int .i64 (l.getD i 0))) : Sl B w (.slice (some ⟨g, o, none⟩) m m) l :=
  .inr ⟨g, o, m, by rw [h], by omega, hg, hc⟩
theorem below_drewN {B : Nat} {a w : World} (h : Below B a w) (n : Nat) : Below B a (w.drewN n) := ⟨h.os, h.tape, h.output, h.size, h.block⟩
theorem below_alloc_drewN (w : World) (o : Obj) (n : Nat) : Below w.heap.size w ((w.alloc o).drewN n) := below_drewN ((Below.refl _ _).alloc (Nat.le_refl _) o) n

set_option maxHeartbeats 1000000 in
set_option maxRecDepth 100000 in
theorem group12 (w : World) (B : Nat) (G : Value) (n k : Nat) (L : Nat → List Int) (hG : Grp B w G n L) (hn : n ≤ 256) (hk : k < n) (htot : (joinL L n).length ≤ 8192) (hB : B ≤ w.heap.size) :
    Calls Yba.prog 12 #[G, .int .i64 k] w fun e w' => ∃ v, e = .returned v ∧ Below w.heap.size w w' ∧ Sl B w' v (L k) := by
  obtain ⟨vall, vst, rfl, ha, hs⟩ := hG
  obtain ⟨ast, cst, rfl, hcs, hsv⟩ := hs.form
  have hsl : (startsL L n).length = n + 1 := by simp [startsL]
  obtain ⟨gs, os, rfl, hgs, hsc⟩ := hsv (by omega)
  have q1 : IntKind.i64.wrap ((k : Int) + 1) = (k : Int) + 1 := by rw [IntKind.wrap_i64]; omega
  have hm1 := joinL_mono L (show k + 1 ≤ n by omega)
  have hm0 : (joinL L (k + 1)).length = (joinL L k).length + (L k).length := by rw [joinL_succ, List.length_append]
  have c0 := hsc k (by omega)
  have c1 := hsc (k + 1) (by omega)
  rw [startsL_getD L (by omega)] at c0
  rw [startsL_getD L (by omega), hm0] at c1
  rw [hsl]
  have lt1 : (k : Int) < ((n + 1 : Nat) : Int) := by omega
  have lt2 : (k : Int) + 1 < ((n + 1 : Nat) : Int) := by omega
  have hgw : gs < w.heap.size := by omega
  rw [hm0] at hm1
  have HJ : Hid (∀ i, i < (L k).length → (joinL L n).getD ((joinL L k).length + i) 0 = (L k).getD i 0) := fun i hi => joinL_slice L hk i hi
  clear hsv hsc hs hsl hm0 hcs
  rcases ha with ⟨rfl, h0⟩ | ⟨g, o, ca, rfl, hca, hgB, hcell⟩
  · have h1 : (joinL L k).length = 0 := by simp [h0] at hm1; simp [hm1]
    have h2 : (L k).length = 0 := by simp [h0] at hm1; simp [hm1]
    rw [h1] at c0 c1
    rw [h2] at c1
    clear hm1 h0 htot h1
    have H2 : Hid (L k = []) := by unfold Hid; simpa using h2
    clear h2
    go_enter Yba.func12, Yba.ntmps12
    go_wp2_with fail
    go_quiet (fail)
    go_wp2_with fail
    go_ret
    refine ⟨_, rfl, below_alloc_drewN w _ nq, ?_⟩
    rw [H2.out]
    exact .inl ⟨rfl, rfl⟩
  · obtain ⟨s, hs⟩ : ∃ s, s = (joinL L k).length := ⟨_, rfl⟩
    obtain ⟨m, hm⟩ : ∃ m, m = (L k).length := ⟨_, rfl⟩
    obtain ⟨N, hN⟩ : ∃ N, N = (joinL L n).length := ⟨_, rfl⟩
    rw [← hs] at c0
    rw [← hs, ← hm] at c1
    rw [← hs, ← hm, ← hN] at hm1
    rw [← hN] at htot hca ⊢
    have HS : Hid (s = (joinL L k).length ∧ m = (L k).length ∧ N = (joinL L n).length ∧ ∀ i, i < (joinL L n).length → w.cell? ⟨g, o + i, none⟩ = some (.int .i64 ((joinL L n).getD i 0))) := ⟨hs, hm, hN, hcell⟩
    clear hs hm hN hcell
    go_enter Yba.func12, Yba.ntmps12
    go_wp2_with fail
    go_quiet (fail)
    go_wp2_with fail
    all_goals
      go_ret
      refine ⟨_, rfl, below_alloc_drewN w _ nq, ?_⟩
      obtain ⟨e1, e2, e3, e4⟩ := HS.out
      first
        | exact sl_sub0 hgB (by omega)
        | exact sl_subm hgB e2 (fun i hi => by
            rw [(below_alloc_drewN w _ nq).cell (p := ⟨g, _, none⟩) (show g < w.heap.size by omega)]
            have h4 := e4 (s + i) (by omega)
            rw [e1, HJ.out i hi, ← Nat.add_assoc, ← e1] at h4
            exact h4)
end Go.Proofs.Ybulkaiie
