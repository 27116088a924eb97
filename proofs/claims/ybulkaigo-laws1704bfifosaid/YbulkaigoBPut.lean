/-
  (helloQueues).put: its contract, where the chosen queue has room and where it is full.
-/
import Derived.Test.YbulkaigoBWp
namespace Go.Proofs.Ybulkaigo
open Go.Conc Go.RowKit

theorem zero52 : ∃ z : Value, ∀ w : World, Sem.run Yba.prog (zeroValue 52) w = .ok z w := by
  have h : Yba.t52.zero.isSome = true := by kernel_rfl
  obtain ⟨z, hz⟩ := Option.isSome_iff_exists.1 h
  refine ⟨z, fun w => ?_⟩
  have ht := Yba.typeInfo52 w
  simp only [zeroValue, Sem.run_bind, ht, Result.andThen_ok, hz, Sem.run_pure]
theorem size52 : (Yba.prog.info? 52).map (·.size) = some 113 := by kernel_rfl

/-- The world behind put's own two boxes. -/
def boxed (w : World) (cq co : Nat) (hv : Array Value) : World := (w.alloc (.cells #[.chan (some cq), .chan (some co)] 37)).alloc (.cells hv 52)

theorem boxed_heap (w : World) (cq co : Nat) (hv : Array Value) (c : Nat) (x : Obj) (h : w.heap[c]? = some x) : (boxed w cq co hv).heap[c]? = some x := by
  have hlt := (Array.getElem?_eq_some_iff.1 h).1
  unfold boxed
  rw [Below.heap_alloc _ _ _ (by simp; omega), Below.heap_alloc _ _ _ hlt, h]

set_option maxHeartbeats 400000 in
set_option maxRecDepth 100000 in
theorem put_room (w : World) (cq co c cap s r : Nat) (buf hv : Array Value) (tm quiet : Bool) (hq : (if quiet then cq else co) = c) (hc : w.heap[c]? = some (.chan cap buf false s r tm)) (hroom : buf.size < cap) (hs : hv.size = 113) :
    Calls Yba.prog 9 #[.agg #[.chan (some cq), .chan (some co)], .agg hv, .bool quiet] w fun e w' => e = .returned (.bool true) ∧ w' = (boxed w cq co hv).setChan c cap (buf.push (.agg hv)) false (s + 1) r tm := by
  refine calls_of_wpN (by rintro e w' ⟨rfl, _⟩; exact ⟨_, rfl⟩) Yba.func9 rfl ?_
  simp only [Yba.ntmps9, List.size_toArray, List.length_cons, List.length_nil, Nat.reduceAdd, Nat.reduceSub, Array.replicate_succ, Array.replicate_zero, List.push_toArray, List.append_toArray, List.nil_append, List.cons_append]
  obtain ⟨z, hz⟩ := zero52
  have hh : (boxed w cq co hv).heap[w.heap.size + 1]? = some (.cells hv 52 (0, 0)) := by
    have := heap_alloc_new (w.alloc (.cells #[.chan (some cq), .chan (some co)] 37)) (.cells hv 52)
    simpa [boxed] using this
  have hi : (Yba.prog.info? 52).map (·.size) = some hv.size := by rw [size52, hs]
  have hcb := boxed_heap w cq co hv c _ hc
  cases quiet
  all_goals
    simp at hq
    subst hq
    have HH := hh
    unfold boxed at HH
    clear hc hh
    refine WpN.seq_wp fun K hK => ?_
    go_wp2_with fail
    refine WpN.seq_wp fun K hK => ?_
    go_wp2_with fail
    refine WpN.seq_wp fun K hK => ?_
    go_wp2_with fail
    refine WpN.seq_wp fun K hK => ?_
    go_wp2_with (refine wpList_load_row rfl 52 (.tmp 4) rfl (w.heap.size + 1) rfl 52 hv (0, 0) _ HH Yba.underlying52 rfl hi ?_)
    refine WpN.seq (WpN.region ?_)
    simp only [List.size_toArray, List.length_cons, List.length_nil, Nat.reduceAdd, Nat.zero_add, List.range, List.range.loop]
    refine InR.select_room rfl rfl rfl rfl rfl (hz _) hcb hroom ?_
    refine InR.value rfl rfl (by simp [go_sem, execOp, Act.eval, Act.put]; exact ⟨rfl, rfl⟩) ?_
    refine InR.value rfl rfl (by simp [go_sem, execOp, Act.eval, Act.put]; exact ⟨rfl, rfl⟩) ?_
    refine InR.done ?_
    show WpN _ _ _ _ _
    refine WpN.of_wp ?_
    walk_nrm
    go_wp2_with fail
    go_ret
    exact ⟨rfl, rfl⟩
set_option maxHeartbeats 400000 in
set_option maxRecDepth 100000 in
theorem put_full (w : World) (cq co c cap s r : Nat) (buf hv : Array Value) (tm quiet : Bool) (hq : (if quiet then cq else co) = c) (hc : w.heap[c]? = some (.chan cap buf false s r tm)) (hfull : cap ≤ buf.size) (hs : hv.size = 113) :
    Calls Yba.prog 9 #[.agg #[.chan (some cq), .chan (some co)], .agg hv, .bool quiet] w fun e w' => e = .returned (.bool false) ∧ w' = boxed w cq co hv := by
  refine calls_of_wpN (by rintro e w' ⟨rfl, _⟩; exact ⟨_, rfl⟩) Yba.func9 rfl ?_
  simp only [Yba.ntmps9, List.size_toArray, List.length_cons, List.length_nil, Nat.reduceAdd, Nat.reduceSub, Array.replicate_succ, Array.replicate_zero, List.push_toArray, List.append_toArray, List.nil_append, List.cons_append]
  obtain ⟨z, hz⟩ := zero52
  have hh : (boxed w cq co hv).heap[w.heap.size + 1]? = some (.cells hv 52 (0, 0)) := by
    have := heap_alloc_new (w.alloc (.cells #[.chan (some cq), .chan (some co)] 37)) (.cells hv 52)
    simpa [boxed] using this
  have hi : (Yba.prog.info? 52).map (·.size) = some hv.size := by rw [size52, hs]
  have hcb := boxed_heap w cq co hv c _ hc
  cases quiet
  all_goals
    simp at hq
    subst hq
    have HH := hh
    unfold boxed at HH
    clear hc hh
    refine WpN.seq_wp fun K hK => ?_
    go_wp2_with fail
    refine WpN.seq_wp fun K hK => ?_
    go_wp2_with fail
    refine WpN.seq_wp fun K hK => ?_
    go_wp2_with fail
    refine WpN.seq_wp fun K hK => ?_
    go_wp2_with (refine wpList_load_row rfl 52 (.tmp 4) rfl (w.heap.size + 1) rfl 52 hv (0, 0) _ HH Yba.underlying52 rfl hi ?_)
    refine WpN.seq (WpN.region ?_)
    simp only [List.size_toArray, List.length_cons, List.length_nil, Nat.reduceAdd, Nat.zero_add, List.range, List.range.loop]
    refine InR.select_full rfl rfl rfl rfl rfl (hz _) hcb hfull ?_
    refine InR.value rfl rfl (by simp [go_sem, execOp, Act.eval, Act.put]; exact ⟨rfl, rfl⟩) ?_
    refine InR.value rfl rfl (by simp [go_sem, execOp, Act.eval, Act.put]; exact ⟨rfl, rfl⟩) ?_
    refine InR.done ?_
    show WpN _ _ _ _ _
    refine WpN.of_wp ?_
    walk_nrm
    go_wp2_with fail
    go_ret
    exact ⟨rfl, rfl⟩
end Go.Proofs.Ybulkaigo
