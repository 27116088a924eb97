/-
  LawS1704BFifo: A WALK THAT COMES TO A COMMUNICATION. 'Code.wp' speaks of every frame, the early ones too, in which no communication is let: so a region that holds a send, a receive or a select has no 'Code.wp'.
  'WpN' is 'Code.wp' for the frames that are not early (every ordinary call's is such a one): its rules for control, the step into 'Code.wp', the communications, and the way to 'Calls'.
-/
import Derived.Test.YbulkaigoProg
import Derived.WalkKit
import Derived.WalkSpells
import Derived.WalkLawsBesides
import Derived.Conc.LoneCalls
import Derived.Conc.LoneSelect
import Derived.Conc.LoneSelectN
namespace Go.Proofs.Ybulkaigo
open Go.Conc Go.RowKit

def WpN (P : Program) (c : Code) (Q : Exit → Act → World → Prop) (a : Act) (w : World) : Prop :=
  ∀ (b : Frame) (k : List Item) (cs : List Frame), b.kind ≠ .early →
    ∃ e a' w', Q e a' w' ∧ Arrives P (lone (b.at a (.code c :: k)) cs w) b k cs e a' w'

/-- The rest of a region that has been begun. -/
def InR (P : Program) (ops : Array Oper) (l : List Nat) (Q : Exit → Act → World → Prop) (a : Act) (w : World) : Prop :=
  ∀ (b : Frame) (k : List Item) (cs : List Frame), b.kind ≠ .early →
    ∃ e a' w', Q e a' w' ∧ Arrives P (lone (b.at a (.inRegion ops l :: k)) cs w) b k cs e a' w'

section
variable {P : Program} {Q : Exit → Act → World → Prop} {a : Act} {w : World}

theorem WpN.of_wp {c : Code} (h : c.wp P Q a w) : WpN P c Q a w := fun b k cs _ => h b k cs

theorem WpN.mono {c : Code} {Q' : Exit → Act → World → Prop} (h : WpN P c Q a w) (hq : ∀ e a w, Q e a w → Q' e a w) : WpN P c Q' a w :=
  fun b k cs hb => let ⟨e, a', w', q, r⟩ := h b k cs hb; ⟨e, a', w', hq _ _ _ q, r⟩

theorem WpN.seq {x y : Code} (h : WpN P x (Exit.then (WpN P y Q) Q) a w) : WpN P (Code.seq x y) Q a w := by
  intro b k cs hb
  obtain ⟨e, a₁, w₁, hq, harr⟩ := h b (.code y :: k) cs hb
  by_cases hn : e = .normal
  · subst hn
    obtain ⟨e₂, a₂, w₂, hq₂, harr₂⟩ := hq b k cs hb
    exact ⟨e₂, a₂, w₂, hq₂, .of_steps (.head step_seq harr) harr₂⟩
  · have hq' : Q e a₁ w₁ := by cases e <;> first | exact absurd rfl hn | exact hq
    refine ⟨e, a₁, w₁, hq', .of_steps (.one step_seq) ?_⟩
    cases e <;> first | exact absurd rfl hn | exact .pass (x := .code y) rfl (fun _ _ => .inl (by simp)) harr

theorem WpN.cond {c : Operand} {x y : Code} {t : Bool} (hc : a.eval c = .bool t) (h : WpN P (if t then x else y) Q a w) :
    WpN P (Code.cond c x y) Q a w :=
  fun b k cs hb => let ⟨e, a', w', q, r⟩ := h b k cs hb; ⟨e, a', w', q, .of_steps (.one (step_cond hc)) r⟩

theorem WpN.block {id : Nat} {c : Code} (h : WpN P c (Exit.inBlock id Q) a w) : WpN P (Code.block id c) Q a w := by
  intro b k cs hb
  obtain ⟨e, a₁, w₁, hq, harr⟩ := h b (.inBlock id :: k) cs hb
  by_cases hid : e = .exit id
  · subst hid
    have hq' : Q .normal a₁ w₁ := by simpa [Exit.inBlock] using hq
    exact ⟨.normal, a₁, w₁, hq', .head step_block (harr k (by simp [exitTo]))⟩
  · have hq' : Q e a₁ w₁ := by
      cases e with
      | exit id' => simpa [Exit.inBlock, show ¬ id' = id from fun h => hid (by rw [h])] using hq
      | _ => exact hq
    refine ⟨e, a₁, w₁, hq', ?_⟩
    cases e with
    | normal => exact .head step_block (Steps.trans harr (.one step_inBlock))
    | exit id' =>
      have hne : (id == id') = false := beq_eq_false_iff_ne.2 fun h => hid (by rw [h])
      exact fun k' hk => .head step_block (harr k' (by simp [exitTo, hne, hk]))
    | goto l => exact fun k' hk => .head step_block (harr k' (by simp [gotoIn, hk]))
    | _ => exact Arrives.of_steps (b := b) (k := k) (cs := cs) (.one step_block) harr

theorem WpN.loop {c : Code} (I : Nat → Act → World → Prop) (n₀ : Nat) (h₀ : I n₀ a w)
    (round : ∀ n a w, I n a w → WpN P c (Exit.then (fun a' w' => ∃ m, m < n ∧ I m a' w') Q) a w) : WpN P (Code.loop c) Q a w := by
  intro b k cs hb
  have key : ∀ N n a w, n ≤ N → I n a w →
      ∃ e a' w', Q e a' w' ∧ Arrives P (lone (b.at a (.code c :: .inLoop c :: k)) cs w) b k cs e a' w' := by
    intro N
    induction N with
    | zero =>
      intro n a w hn hI
      obtain ⟨e, a₁, w₁, hq, harr⟩ := round n a w hI b (.inLoop c :: k) cs hb
      cases e with
      | normal => obtain ⟨m, hlt, _⟩ := hq; omega
      | _ => exact ⟨_, a₁, w₁, hq, .pass (x := .inLoop c) rfl (fun _ _ => .inl (by simp)) harr⟩
    | succ N ih =>
      intro n a w hn hI
      obtain ⟨e, a₁, w₁, hq, harr⟩ := round n a w hI b (.inLoop c :: k) cs hb
      cases e with
      | normal =>
        obtain ⟨m, hlt, hI₁⟩ := hq
        obtain ⟨e₂, a₂, w₂, hq₂, harr₂⟩ := ih m a₁ w₁ (by omega) hI₁
        exact ⟨e₂, a₂, w₂, hq₂, .of_steps (Steps.trans harr (.one step_inLoop)) harr₂⟩
      | _ => exact ⟨_, a₁, w₁, hq, .pass (x := .inLoop c) rfl (fun _ _ => .inl (by simp)) harr⟩
  obtain ⟨e, a', w', hq, harr⟩ := key n₀ n₀ a w (Nat.le_refl _) h₀
  exact ⟨e, a', w', hq, .of_steps (.one step_loop) harr⟩

theorem WpN.region {id : Nat} {ops : Array Oper} (h : InR P ops (List.range ops.size) Q a w) : WpN P (Code.region id ops false) Q a w :=
  fun b k cs hb => let ⟨e, a', w', q, r⟩ := h b k cs hb; ⟨e, a', w', q, .of_steps (.one step_region) r⟩

theorem InR.of_ops {ops : Array Oper} {l : List Nat} (h : wpOps P ops Q l a w) : InR P ops l Q a w := fun b k cs _ => wp_ops l a w h b k cs

theorem InR.done {ops : Array Oper} (h : Q .normal a w) : InR P ops [] Q a w := InR.of_ops h

/-- An operation that yields a value. -/
theorem InR.value {ops : Array Oper} {i : Nat} {rest : List Nat} {o : Oper} {v : Value} {w' : World} (ho : ops[i]? = some o) (hw : Region.wanted o (yielded ops a.tmps) = true)
    (hr : (execOp a.eval o).run P w = .ok (.value v) w') (h : InR P ops rest Q (a.put o.dst v) w') : InR P ops (i :: rest) Q a w := by
  intro b k cs hb
  have hg := stepG_op (P := P) (b := b) (k := k) (cs := cs) (w := w) (rest := rest) ho hw
  have hfin : ∀ v, (b.at a (.inRegion ops (i :: rest) :: k)).finish v = b.at (a.put o.dst v) (.inRegion ops rest :: k) := by
    intro v; rw [Frame.finish_at, ho]; rfl
  obtain ⟨e, a', w'', hq, harr⟩ := h b k cs hb
  refine ⟨e, a', w'', hq, .of_steps (.one (step_lone_go ?_)) harr⟩
  rw [hg, ← hfin]; simp [stepG.apply, hr]

/-- An operation that yields nothing (a store). -/
theorem InR.skip {ops : Array Oper} {i : Nat} {rest : List Nat} {o : Oper} {w' : World} (ho : ops[i]? = some o) (hw : Region.wanted o (yielded ops a.tmps) = true)
    (hr : (execOp a.eval o).run P w = .ok .skip w') (h : InR P ops rest Q (a.put o.dst undef) w') : InR P ops (i :: rest) Q a w := by
  intro b k cs hb
  have hg := stepG_op (P := P) (b := b) (k := k) (cs := cs) (w := w) (rest := rest) ho hw
  have hfin : (b.at a (.inRegion ops (i :: rest) :: k)).finish undef = b.at (a.put o.dst undef) (.inRegion ops rest :: k) := by
    rw [Frame.finish_at, ho]; rfl
  obtain ⟨e, a', w'', hq, harr⟩ := h b k cs hb
  refine ⟨e, a', w'', hq, .of_steps (.one (step_lone_go ?_)) harr⟩
  rw [hg, ← hfin]; simp [stepG.apply, hr]

theorem InR.alloc_of {t : TypeId} {z : Array Value} (hz : ∀ w : World, Sem.run P (Instr.alloc t true (.tuple #[])) w = .ok (.pointer (some ⟨w.heap.size, 0, none⟩)) (w.alloc (.cells z t)))
    {ops : Array Oper} {i : Nat} {rest : List Nat} {o : Oper} (ho : ops[i]? = some o) (hw : Region.wanted o (yielded ops a.tmps) = true) (hop : o.op = .alloc t)
    (h : InR P ops rest Q (a.put o.dst (.pointer (some ⟨w.heap.size, 0, none⟩))) (w.alloc (.cells z t))) : InR P ops (i :: rest) Q a w :=
  InR.value ho hw (by simp only [execOp, hop, hz, Sem.run_bind, Result.andThen_ok, Sem.run_pure]) h

theorem InR.store_of {ty : TypeId} {x y : Operand} {w' : World} {ops : Array Oper} {i : Nat} {rest : List Nat} {o : Oper} (ho : ops[i]? = some o) (hw : Region.wanted o (yielded ops a.tmps) = true) (hop : o.op = .store ty x y)
    (hr : (Instr.storeAt ty (a.eval x) (a.eval y)).run P w = .ok () w') (h : InR P ops rest Q (a.put o.dst undef) w') : InR P ops (i :: rest) Q a w :=
  InR.skip ho hw (by simp only [execOp, hop, hr, Sem.run_bind, Result.andThen_ok, Sem.run_pure]) h

/-- A communication: whatever step the machine of one takes. -/
theorem InR.comm {ops : Array Oper} {i : Nat} {rest : List Nat} {o : Oper} {v : Value} {w' : World} (ho : ops[i]? = some o)
    (hstep : ∀ (b : Frame) (k : List Item) (cs : List Frame), b.kind ≠ .early →
      step P (solo (G (b.at a (.inRegion ops (i :: rest) :: k)) cs) w) = .next (solo (G ((b.at a (.inRegion ops (i :: rest) :: k)).finish v) cs) w'))
    (h : InR P ops rest Q (a.put o.dst v) w') : InR P ops (i :: rest) Q a w := by
  intro b k cs hb
  have hfin : (b.at a (.inRegion ops (i :: rest) :: k)).finish v = b.at (a.put o.dst v) (.inRegion ops rest :: k) := by
    rw [Frame.finish_at, ho]; rfl
  obtain ⟨e, a', w'', hq, harr⟩ := h b k cs hb
  refine ⟨e, a', w'', hq, .of_steps (.one ?_) harr⟩
  have := hstep b k cs hb
  rw [hfin] at this
  exact this

/-- 'select { case c <- v: default: }', there is room. -/
theorem InR.select_room {ops : Array Oper} {i : Nat} {rest : List Nat} {o : Oper} {x y : Operand} {t : TypeId} {c cap s r : Nat} {buf : Array Value} {v z : Value} {tm : Bool} (ho : ops[i]? = some o) (hw : Region.wanted o (yielded ops a.tmps) = true)
    (hop : o.op = .select #[{ chan := x, send := some y, elem := t }] false) (hx : a.eval x = .chan (some c)) (hy : a.eval y = v) (hz : (zeroValue t).run P w = .ok z w)
    (hc : w.heap[c]? = some (.chan cap buf false s r tm)) (hroom : buf.size < cap)
    (h : InR P ops rest Q (a.put o.dst (.tuple #[goInt 0, .bool false])) (w.setChan c cap (buf.push v) false (s + 1) r tm)) : InR P ops (i :: rest) Q a w := by
  refine InR.comm ho (fun b k cs hb => ?_) h
  refine step_lone_select_send_room (v := v) (z' := z) (stepG_comm ho hw hb ?_) hc hroom
  simp [execOp, hop, hx, hy, hz, scase]

/-- 'select { case c <- v: default: }', the buffer is full. -/
theorem InR.select_full {ops : Array Oper} {i : Nat} {rest : List Nat} {o : Oper} {x y : Operand} {t : TypeId} {c cap s r : Nat} {buf : Array Value} {v z : Value} {tm : Bool} (ho : ops[i]? = some o) (hw : Region.wanted o (yielded ops a.tmps) = true)
    (hop : o.op = .select #[{ chan := x, send := some y, elem := t }] false) (hx : a.eval x = .chan (some c)) (hy : a.eval y = v) (hz : (zeroValue t).run P w = .ok z w)
    (hc : w.heap[c]? = some (.chan cap buf false s r tm)) (hfull : cap ≤ buf.size)
    (h : InR P ops rest Q (a.put o.dst (.tuple #[goInt (-1), .bool false])) w) : InR P ops (i :: rest) Q a w := by
  refine InR.comm ho (fun b k cs hb => ?_) h
  refine step_lone_select_send_full (v := v) (z' := z) (stepG_comm ho hw hb ?_) hc hfull
  simp [execOp, hop, hx, hy, hz, scase]

/-- '<-c', the buffer holds something. -/
theorem InR.recv {ops : Array Oper} {i : Nat} {rest : List Nat} {o : Oper} {x : Operand} {ct t : TypeId} {dir : ChanDir} {c cap s r : Nat} {buf : Array Value} {z : Value} {tm : Bool} (ho : ops[i]? = some o) (hw : Region.wanted o (yielded ops a.tmps) = true)
    (hop : o.op = .recv ct x false) (hct : P.underlying ct = some (.chan dir t)) (hx : a.eval x = .chan (some c)) (hz : (zeroValue t).run P w = .ok z w)
    (hc : w.heap[c]? = some (.chan cap buf false s r tm)) (hsome : 0 < buf.size)
    (h : InR P ops rest Q (a.put o.dst (buf.getD 0 undef)) (w.setChan c cap (buf.extract 1 buf.size) false s (r + 1) tm)) : InR P ops (i :: rest) Q a w := by
  refine InR.comm ho (fun b k cs hb => ?_) h
  refine step_lone_recv_buf (z := z) false (stepG_comm ho hw hb ?_) hc hsome
  simp [execOp, hop, hx, hz, rcase, run_underlying hct]

/-- The walk's own step over a plain part, what follows being kept shut. -/
theorem WpN.seq_wp {x y : Code} (h : ∀ K : Act → World → Prop, (∀ a w, WpN P y Q a w → K a w) → x.wp P (Exit.then K Q) a w) : WpN P (Code.seq x y) Q a w :=
  WpN.seq (WpN.of_wp (h _ fun _ _ h => h))

/-- The same over a part that holds a communication. -/
theorem WpN.seq_k {x y : Code} (h : ∀ K : Act → World → Prop, (∀ a w, WpN P y Q a w → K a w) → WpN P x (Exit.then K Q) a w) : WpN P (Code.seq x y) Q a w :=
  WpN.seq (h _ fun _ _ h => h)

/-- A loop, its relation kept shut while the round is walked. -/
theorem WpN.loop_k {c : Code} (I : Nat → Act → World → Prop) (n₀ : Nat) (h₀ : I n₀ a w)
    (round : ∀ n a w, I n a w → ∀ J : Act → World → Prop, Hid (∀ m a' w', m < n → I m a' w' → J a' w') → WpN P c (Exit.then J Q) a w) : WpN P (Code.loop c) Q a w :=
  WpN.loop I n₀ h₀ fun n a w hI => round n a w hI _ fun m _ _ hm h => ⟨m, hm, h⟩

/-- From the walk of the body to the call. (Endings by a return alone.) -/
theorem calls_of_wpN {f : FuncId} {fn : Func} {c : Code} {args : Array Value} {R : Ending → World → Prop} (hret : ∀ e w', R e w' → ∃ v, e = .returned v)
    (hf : P.funcs[f]? = some fn) (hb : fn.body = some c)
    (h : WpN P c (bodyPost P fn R) { tmps := args ++ Array.replicate (fn.ntmps - args.size) undef, defers := [] } w) :
    Calls P f args w R := by
  intro cs
  have hb' : ({ (default : Frame) with fn := f, kind := .normal } : Frame).kind ≠ .early := by simp
  obtain ⟨e, a', w', hq, harr⟩ := h { (default : Frame) with fn := f, kind := .normal } [] cs hb'
  have henter : Frame.enter P f args .normal =
      ({ (default : Frame) with fn := f, kind := .normal } : Frame).at { tmps := args ++ Array.replicate (fn.ntmps - args.size) undef, defers := [] } [.code c] := by
    simp [Frame.enter, Frame.at, hf, hb]
  rw [← henter] at harr
  have key : (e = .normal ∨ e = .ret) ∧ a'.defers = [] ∧ ∃ v, (results fn a'.tmps).run P w' = .ok v w' ∧ R (.returned v) w' := by
    cases e with
    | normal => exact ⟨.inl rfl, hq⟩
    | ret => exact ⟨.inr rfl, hq⟩
    | panic ch => obtain ⟨v, hv⟩ := hret _ _ hq.2; cases hv
    | outgrown => obtain ⟨v, hv⟩ := hret _ _ hq; cases hv
    | _ => exact hq.elim
  obtain ⟨he, hd, v, hr, hR⟩ := key
  rcases he with rfl | rfl
  · exact ⟨.returned v, w', _, hR, Steps.trans harr (.one step_end), rfl, rfl, hd, rfl, fn, hf, hr⟩
  · obtain ⟨todo, hs⟩ := harr
    exact ⟨.returned v, w', _, hR, hs, rfl, rfl, hd, rfl, fn, hf, hr⟩
end
end Go.Proofs.Ybulkaigo
