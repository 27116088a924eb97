/-
  LawS1704BFifo: the plain law, and what holds of memory between two puts.
-/
import Derived.Test.YbulkaigoBDrain
namespace Go.Proofs.Ybulkaigo
open Go.Conc Go.RowKit

/-- THE PLAIN SCRIPT: what the two queues hold behind k puts. -/
def fifo (B : Nat → Bool) (cq co : Nat) : Nat → List Nat × List Nat
  | 0 => ([], [])
  | k + 1 =>
    let p := fifo B cq co k
    if B k then (if p.1.length < cq then p.1 ++ [k] else p.1, p.2) else (p.1, if p.2.length < co then p.2 ++ [k] else p.2)

theorem fifo_le (B : Nat → Bool) (cq co : Nat) : ∀ k, (fifo B cq co k).1.length ≤ cq ∧ (fifo B cq co k).2.length ≤ co ∧ (∀ i ∈ (fifo B cq co k).1, i < k) ∧ ∀ i ∈ (fifo B cq co k).2, i < k
  | 0 => by simp [fifo]
  | k + 1 => by
    obtain ⟨h1, h2, h3, h4⟩ := fifo_le B cq co k
    simp only [fifo]
    split
    · refine ⟨?_, h2, ?_, fun i hi => by have := h4 i hi; omega⟩
      · split
        · simp; omega
        · omega
      · split
        · intro i hi
          rcases List.mem_append.1 hi with hi | hi
          · have := h3 i hi; omega
          · simp at hi; omega
        · intro i hi; have := h3 i hi; omega
    · refine ⟨h1, ?_, fun i hi => by have := h3 i hi; omega, ?_⟩
      · split
        · simp; omega
        · omega
      · split
        · intro i hi
          rcases List.mem_append.1 hi with hi | hi
          · have := h4 i hi; omega
          · simp at hi; omega
        · intro i hi; have := h4 i hi; omega

theorem fifo_qy {B : Nat → Bool} {cq co k : Nat} {lq lo : List Nat} (h : fifo B cq co k = (lq, lo)) (hB : B k = true) (hr : lq.length < cq) : fifo B cq co (k + 1) = (lq ++ [k], lo) := by simp [fifo, h, hB, hr]
theorem fifo_qn {B : Nat → Bool} {cq co k : Nat} {lq lo : List Nat} (h : fifo B cq co k = (lq, lo)) (hB : B k = true) (hr : ¬ lq.length < cq) : fifo B cq co (k + 1) = (lq, lo) := by simp [fifo, h, hB, hr]
theorem fifo_oy {B : Nat → Bool} {cq co k : Nat} {lq lo : List Nat} (h : fifo B cq co k = (lq, lo)) (hB : B k = false) (hr : lo.length < co) : fifo B cq co (k + 1) = (lq, lo ++ [k]) := by simp [fifo, h, hB, hr]
theorem fifo_on {B : Nat → Bool} {cq co k : Nat} {lq lo : List Nat} (h : fifo B cq co k = (lq, lo)) (hB : B k = false) (hr : ¬ lo.length < co) : fifo B cq co (k + 1) = (lq, lo) := by simp [fifo, h, hB, hr]

theorem own_slice {w : World} {N e size n : Nat} {v : Value} {xs : List Value} (h : w.ownsRow N e size v n xs) : ∃ a c, v = .slice a n c := by
  obtain ⟨_, ⟨rfl, rfl⟩ | ⟨g, gc, cur, rfl, _⟩⟩ := h
  · exact ⟨_, _, rfl⟩
  · exact ⟨_, _, rfl⟩

/-- A buffer holds the tagged hellos of these numbers, in this order. -/
def Tags (buf : Array Value) (l : List Nat) : Prop := buf.size = l.length ∧ ∀ (j i : Nat), l[j]? = some i → ∃ hv : Array Value, buf[j]? = some (Value.agg hv) ∧ IsTag i hv

theorem Tags.nil : Tags #[] [] := ⟨rfl, fun j i h => by simp at h⟩
theorem Tags.push {buf : Array Value} {l : List Nat} {k : Nat} {hv : Array Value} (h : Tags buf l) (ht : IsTag k hv) : Tags (buf.push (.agg hv)) (l ++ [k]) := by
  refine ⟨by simp [h.1], fun j i hj => ?_⟩
  rw [List.getElem?_append] at hj
  split at hj
  · rename_i hlt
    obtain ⟨hv', h1, h2⟩ := h.2 j i hj
    refine ⟨hv', ?_, h2⟩
    rw [Array.getElem?_push, if_neg (by rw [h.1]; omega)]
    exact h1
  · rename_i hge
    have hj0 : j = l.length := by
      have := (List.getElem?_eq_some_iff.1 hj).1
      simp at this; omega
    subst hj0
    simp at hj
    subst hj
    exact ⟨hv, by rw [Array.getElem?_push, if_pos h.1.symm], ht⟩

/-- A channel of the law's own. -/
def ChanAt (w : World) (b cap : Nat) (l : List Nat) : Prop := ∃ buf s, w.heap[b]? = some (.chan cap buf false s 0 false) ∧ Tags buf l

theorem ChanAt.of_block {w w' : World} {b cap : Nat} {l : List Nat} (h : ChanAt w b cap l) (e : w'.heap[b]? = w.heap[b]?) : ChanAt w' b cap l := by
  obtain ⟨buf, s, h1, h2⟩ := h
  exact ⟨buf, s, e.trans h1, h2⟩

theorem ChanAt.lt {w : World} {b cap : Nat} {l : List Nat} (h : ChanAt w b cap l) : b < w.heap.size := by
  obtain ⟨buf, s, h1, _⟩ := h
  exact (Array.getElem?_eq_some_iff.1 h1).1

/-- THE NUMBERS OF A LIST AS THE CELLS OF AN []int. -/
def ints (l : List Nat) : List Value := l.map fun i : Nat => Value.int .i64 (i : Int)
theorem ints_length (l : List Nat) : (ints l).length = l.length := by simp [ints]
theorem ints_snoc (l : List Nat) (k : Nat) : ints (l ++ [k]) = ints l ++ [.int .i64 (k : Int)] := by simp [ints]

/-- WHAT HOLDS OF MEMORY: the two channels (below N), the two slices of what is wanted (from N on, in rows of their own), the cells of 'q'. -/
structure Fifo (w : World) (N bq bo bs cq co : Nat) (vq vo : Value) (lq lo mq mo : List Nat) : Prop where
  ne : bq ≠ bo
  nq : bq < N
  no : bo < N
  ns : bs < N
  sq : bs ≠ bq
  so : bs ≠ bo
  sz : N ≤ w.heap.size
  chq : ChanAt w bq cq mq
  cho : ChanAt w bo co mo
  c0 : w.cell? ⟨bs, 0, none⟩ = some (.chan (some bq))
  c1 : w.cell? ⟨bs, 1, none⟩ = some (.chan (some bo))
  ownq : w.ownsRow N 3 1 vq lq.length (ints lq)
  owno : w.ownsRow N 3 1 vo lo.length (ints lo)
  ap : vq.ownBlock = none ∨ vo.ownBlock = none ∨ vq.ownBlock ≠ vo.ownBlock

section
variable {w w' : World} {N bq bo bs cq co : Nat} {vq vo : Value} {lq lo mq mo : List Nat}

theorem owns_kept_below {w w' : World} {N e size n : Nat} {v : Value} {xs : List Value} (h : w.ownsRow N e size v n xs) (hb : ∀ k, N ≤ k → k < w.heap.size → w'.heap[k]? = w.heap[k]?) : w'.ownsRow N e size v n xs := by
  obtain ⟨h1, h2 | ⟨g, cap, cur, rfl, hN, hg, hc1, hc2, hc3, hx⟩⟩ := h
  · exact ⟨h1, .inl h2⟩
  · exact ⟨h1, .inr ⟨g, cap, cur, rfl, hN, (hb g hN (Array.getElem?_eq_some_iff.1 hg).1).trans hg, hc1, hc2, hc3, hx⟩⟩

/-- Nothing that was there has turned. -/
theorem Fifo.below (h : Fifo w N bq bo bs cq co vq vo lq lo mq mo) (hb : Below w.heap.size w w') : Fifo w' N bq bo bs cq co vq vo lq lo mq mo :=
  { h with
    sz := Nat.le_trans h.sz hb.size
    chq := h.chq.of_block (hb.block _ h.chq.lt)
    cho := h.cho.of_block (hb.block _ h.cho.lt)
    c0 := (hb.cell (World.block_lt_of_cell? _ _ h.c0)).trans h.c0
    c1 := (hb.cell (World.block_lt_of_cell? _ _ h.c1)).trans h.c1
    ownq := owns_kept_below h.ownq fun k _ hk => hb.block k hk
    owno := owns_kept_below h.owno fun k _ hk => hb.block k hk }

/-- The queue of the quiet ones has taken one. -/
theorem Fifo.putq {mq' : List Nat} (h : Fifo w N bq bo bs cq co vq vo lq lo mq mo) (hg : w.grownBy w' (some bq)) (hc : ChanAt w' bq cq mq') : Fifo w' N bq bo bs cq co vq vo lq lo mq' mo :=
  { h with
    sz := Nat.le_trans h.sz hg.size
    chq := hc
    cho := h.cho.of_block (hg.block _ h.cho.lt (by simp; exact fun e => h.ne e.symm))
    c0 := hg.cell h.c0 (by simp; exact h.sq)
    c1 := hg.cell h.c1 (by simp; exact h.sq)
    ownq := owns_kept_below h.ownq fun k hN hk => hg.block k hk (by have := h.nq; simp; omega)
    owno := owns_kept_below h.owno fun k hN hk => hg.block k hk (by have := h.nq; simp; omega) }

theorem Fifo.puto {mo' : List Nat} (h : Fifo w N bq bo bs cq co vq vo lq lo mq mo) (hg : w.grownBy w' (some bo)) (hc : ChanAt w' bo co mo') : Fifo w' N bq bo bs cq co vq vo lq lo mq mo' :=
  { h with
    sz := Nat.le_trans h.sz hg.size
    cho := hc
    chq := h.chq.of_block (hg.block _ h.chq.lt (by simp; exact h.ne))
    c0 := hg.cell h.c0 (by simp; exact h.so)
    c1 := hg.cell h.c1 (by simp; exact h.so)
    ownq := owns_kept_below h.ownq fun k hN hk => hg.block k hk (by have := h.no; simp; omega)
    owno := owns_kept_below h.owno fun k hN hk => hg.block k hk (by have := h.no; simp; omega) }

/-- Two slices of the call's own: no row is theirs together. -/
def Apart (a b : Option Nat) : Prop := a = none ∨ b = none ∨ a ≠ b
theorem Apart.symm {a b : Option Nat} (h : Apart a b) : Apart b a := by
  rcases h with h | h | h
  · exact .inr (.inl h)
  · exact .inl h
  · exact .inr (.inr (fun e => h e.symm))
theorem Apart.keeps {a b : Option Nat} (h : Apart a b) : b = none ∨ b ≠ a := by
  rcases h with h | h | h
  · cases hb : b with
    | none => exact .inl rfl
    | some x => exact .inr (by rw [h]; simp)
  · exact .inl h
  · exact .inr (fun e => h e.symm)
theorem Apart.step {a a' b : Option Nat} {n : Nat} (h : Apart a b) (hat : a' = a ∨ a' = some n) (hb : ∀ k, b = some k → k < n) : Apart a' b := by
  rcases hat with rfl | rfl
  · exact h
  · cases hb' : b with
    | none => exact .inr (.inl rfl)
    | some x => exact .inr (.inr (by have := hb x hb'; simp; omega))

/-- An append to what is wanted of the quiet queue. -/
theorem Fifo.appq {k : Nat} {v' : Value} (h : Fifo w N bq bo bs cq co vq vo lq lo mq mo) (hown : w'.ownsRow N 3 1 v' (lq.length + 1) (ints lq ++ [.int .i64 (k : Int)])) (hg : w.grownBy w' vq.ownBlock)
    (hat : v'.ownBlock = vq.ownBlock ∨ v'.ownBlock = some w.heap.size) : Fifo w' N bq bo bs cq co v' vo (lq ++ [k]) lo mq mo := by
  have hrow : ∀ b, some b = vq.ownBlock → N ≤ b := fun b hb => (h.ownq.lt b hb.symm).1
  refine { h with sz := Nat.le_trans h.sz hg.size, chq := ?_, cho := ?_, c0 := ?_, c1 := ?_, ownq := ?_, owno := ?_, ap := ?_ }
  · exact h.chq.of_block (hg.block _ h.chq.lt fun e => by have := hrow _ e; have := h.nq; omega)
  · exact h.cho.of_block (hg.block _ h.cho.lt fun e => by have := hrow _ e; have := h.no; omega)
  · exact hg.cell h.c0 fun e => by have h1 := hrow _ e; have h2 := h.ns; exact absurd h1 (Nat.not_le.2 h2)
  · exact hg.cell h.c1 fun e => by have h1 := hrow _ e; have h2 := h.ns; exact absurd h1 (Nat.not_le.2 h2)
  · rw [ints_snoc]; simpa using hown
  · exact h.owno.kept hg (Apart.keeps h.ap)
  · exact Apart.step h.ap hat fun k hk => (h.owno.lt k hk).2

theorem Fifo.appo {k : Nat} {v' : Value} (h : Fifo w N bq bo bs cq co vq vo lq lo mq mo) (hown : w'.ownsRow N 3 1 v' (lo.length + 1) (ints lo ++ [.int .i64 (k : Int)])) (hg : w.grownBy w' vo.ownBlock)
    (hat : v'.ownBlock = vo.ownBlock ∨ v'.ownBlock = some w.heap.size) : Fifo w' N bq bo bs cq co vq v' lq (lo ++ [k]) mq mo := by
  have hrow : ∀ b, some b = vo.ownBlock → N ≤ b := fun b hb => (h.owno.lt b hb.symm).1
  refine { h with sz := Nat.le_trans h.sz hg.size, chq := ?_, cho := ?_, c0 := ?_, c1 := ?_, ownq := ?_, owno := ?_, ap := ?_ }
  · exact h.chq.of_block (hg.block _ h.chq.lt fun e => by have := hrow _ e; have := h.nq; omega)
  · exact h.cho.of_block (hg.block _ h.cho.lt fun e => by have := hrow _ e; have := h.no; omega)
  · exact hg.cell h.c0 fun e => by have h1 := hrow _ e; have h2 := h.ns; exact absurd h1 (Nat.not_le.2 h2)
  · exact hg.cell h.c1 fun e => by have h1 := hrow _ e; have h2 := h.ns; exact absurd h1 (Nat.not_le.2 h2)
  · exact h.ownq.kept hg (Apart.keeps (Apart.symm h.ap))
  · rw [ints_snoc]; simpa using hown
  · exact Apart.symm (Apart.step (Apart.symm h.ap) hat fun k hk => (h.ownq.lt k hk).2)

/-- A round's own block and the element's block behind an append. -/
theorem app_q {w0 wr w1 : World} {k : Nat} {x v' : Value} {o : Obj} (hl : w0.heap.size ≤ N) (hbel : Below w0.heap.size w0 wr) (h : Fifo wr N bq bo bs cq co vq vo lq lo mq mo)
    (hown : w1.ownsRow N 3 1 v' (lq.length + 1) (ints lq ++ [.int .i64 (k : Int)])) (hg : ((wr.alloc (.cells #[x] 40)).alloc o).grownBy w1 vq.ownBlock)
    (hat : v'.ownBlock = vq.ownBlock ∨ v'.ownBlock = some (wr.heap.size + 1 + 1)) :
    Fifo w1 N bq bo bs cq co v' vo (lq ++ [k]) lo mq mo ∧ w1.cell? ⟨wr.heap.size, 0, none⟩ = some x ∧ Below w0.heap.size w0 w1 := by
  have hb2 : Below wr.heap.size wr ((wr.alloc (.cells #[x] 40)).alloc o) := ((Below.refl _ _).alloc (Nat.le_refl _) _).alloc (by simp) _
  have h2 := h.below hb2
  have hrow : ∀ b, vq.ownBlock = some b → N ≤ b ∧ b < wr.heap.size := fun b hb => h.ownq.lt b hb
  have hs := hbel.size
  refine ⟨h2.appq hown hg (by simpa using hat), hg.cell (a := ⟨wr.heap.size, 0, none⟩) ?_ ?_, ((hbel.alloc (by omega) _).alloc (by simp; omega) _).grown hg (by simp; omega) fun b hb => Nat.le_trans hl (hrow b hb).1⟩
  · simp
  · intro e
    have := (hrow _ e.symm).2
    simp at this

theorem app_o {w0 wr w1 : World} {k : Nat} {x v' : Value} {o : Obj} (hl : w0.heap.size ≤ N) (hbel : Below w0.heap.size w0 wr) (h : Fifo wr N bq bo bs cq co vq vo lq lo mq mo)
    (hown : w1.ownsRow N 3 1 v' (lo.length + 1) (ints lo ++ [.int .i64 (k : Int)])) (hg : ((wr.alloc (.cells #[x] 40)).alloc o).grownBy w1 vo.ownBlock)
    (hat : v'.ownBlock = vo.ownBlock ∨ v'.ownBlock = some (wr.heap.size + 1 + 1)) :
    Fifo w1 N bq bo bs cq co vq v' lq (lo ++ [k]) mq mo ∧ w1.cell? ⟨wr.heap.size, 0, none⟩ = some x ∧ Below w0.heap.size w0 w1 := by
  have hb2 : Below wr.heap.size wr ((wr.alloc (.cells #[x] 40)).alloc o) := ((Below.refl _ _).alloc (Nat.le_refl _) _).alloc (by simp) _
  have h2 := h.below hb2
  have hrow : ∀ b, vo.ownBlock = some b → N ≤ b ∧ b < wr.heap.size := fun b hb => h.owno.lt b hb
  have hs := hbel.size
  refine ⟨h2.appo hown hg (by simpa using hat), hg.cell (a := ⟨wr.heap.size, 0, none⟩) ?_ ?_, ((hbel.alloc (by omega) _).alloc (by simp; omega) _).grown hg (by simp; omega) fun b hb => Nat.le_trans hl (hrow b hb).1⟩
  · simp
  · intro e
    have := (hrow _ e.symm).2
    simp at this

theorem app_none {w0 wr : World} {x : Value} (hbel : Below w0.heap.size w0 wr) (h : Fifo wr N bq bo bs cq co vq vo lq lo mq mo) :
    Fifo (wr.alloc (.cells #[x] 40)) N bq bo bs cq co vq vo lq lo mq mo ∧ (wr.alloc (.cells #[x] 40)).cell? ⟨wr.heap.size, 0, none⟩ = some x ∧ Below w0.heap.size w0 (wr.alloc (.cells #[x] 40)) :=
  ⟨h.below ((Below.refl _ _).alloc (Nat.le_refl _) _), by simp, hbel.alloc hbel.size _⟩

theorem fin_below {w w1 wt wp : World} {c : Nat} (h1 : Below w.heap.size w w1) (hbt : Below w1.drew.heap.size w1.drew wt) (hgp : wt.grownBy wp (some c)) (hc : w.heap.size ≤ c) : Below w.heap.size w wp := by
  have hs : w.heap.size ≤ w1.drew.heap.size := h1.size
  have hs2 := hbt.size
  exact (h1.drew.trans (hbt.mono hs)).grown hgp (by omega) (by intro k hk; simp at hk; omega)

/-! ### the start: three new blocks, in whatever order -/
theorem heap3 (w : World) (A B C : Obj) : (((w.alloc A).alloc B).alloc C).drew.heap[w.heap.size]? = some A ∧ (((w.alloc A).alloc B).alloc C).drew.heap[w.heap.size + 1]? = some B ∧ (((w.alloc A).alloc B).alloc C).drew.heap[w.heap.size + 1 + 1]? = some C ∧
    (((w.alloc A).alloc B).alloc C).drew.heap.size = w.heap.size + 3 ∧ Below w.heap.size w (((w.alloc A).alloc B).alloc C).drew := by
  refine ⟨?_, ?_, ?_, by simp, ((((Below.refl _ _).alloc (Nat.le_refl _) _).alloc (by simp) _).alloc (by simp; omega) _).drew⟩
  · show (((w.alloc A).alloc B).alloc C).heap[w.heap.size]? = some A
    rw [Below.heap_alloc _ _ _ (by simp; omega)]
    exact heap_alloc2_old _ _ _
  · show (((w.alloc A).alloc B).alloc C).heap[w.heap.size + 1]? = some B
    rw [Below.heap_alloc _ _ _ (by simp)]
    exact heap_alloc2_new _ _ _
  · show (((w.alloc A).alloc B).alloc C).heap[w.heap.size + 1 + 1]? = some C
    have := heap_alloc_new ((w.alloc A).alloc B) C
    simpa using this

theorem fifo_start {W : World} {bq bo bs cq co : Nat} (hq : W.heap[bq]? = some (.chan cq #[] false 0 0 false)) (ho : W.heap[bo]? = some (.chan co #[] false 0 0 false)) (hs : W.heap[bs]? = some (.cells #[.chan (some bq), .chan (some bo)] 37 (0, 0)))
    (h1 : bq ≠ bo) (h2 : bs ≠ bq) (h3 : bs ≠ bo) : Fifo W W.heap.size bq bo bs cq co (.slice none 0 0) (.slice none 0 0) [] [] [] [] where
  ne := h1
  nq := (Array.getElem?_eq_some_iff.1 hq).1
  no := (Array.getElem?_eq_some_iff.1 ho).1
  ns := (Array.getElem?_eq_some_iff.1 hs).1
  sq := h2
  so := h3
  sz := Nat.le_refl _
  chq := ⟨#[], 0, hq, Tags.nil⟩
  cho := ⟨#[], 0, ho, Tags.nil⟩
  c0 := by simp [World.cell?, hs]
  c1 := by simp [World.cell?, hs]
  ownq := World.ownsRow_nil _ _ _ _
  owno := World.ownsRow_nil _ _ _ _
  ap := .inl rfl

/-! ### put and drain over a channel of the law's own -/
theorem grown_boxed (w : World) (cq co : Nat) (hv : Array Value) (c : Nat) : w.grownBy (boxed w cq co hv) (some c) := by
  refine ⟨rfl, rfl, rfl, by simp [boxed]; omega, fun k hk _ => ?_⟩
  unfold boxed
  rw [Below.heap_alloc _ _ _ (by simp; omega), Below.heap_alloc _ _ _ hk]

/-- THE CHOSEN QUEUE HAS ROOM. -/
theorem put_yes (w : World) (bq bo c cap k : Nat) (l : List Nat) (hv : Array Value) (quiet : Bool) (hq : (if quiet then bq else bo) = c) (hc : ChanAt w c cap l) (hroom : l.length < cap) (ht : IsTag k hv) :
    Calls Yba.prog 9 #[.agg #[.chan (some bq), .chan (some bo)], .agg hv, .bool quiet] w fun e w' => e = .returned (.bool true) ∧ w.grownBy w' (some c) ∧ ChanAt w' c cap (l ++ [k]) := by
  obtain ⟨buf, s, h1, h2⟩ := hc
  refine (put_room w bq bo c cap s 0 buf hv false quiet hq h1 (by rw [h2.1]; exact hroom) ht.size).mono ?_
  rintro e w' ⟨rfl, rfl⟩
  have hg := grown_boxed w bq bo hv c
  have hlt : c < (boxed w bq bo hv).heap.size := Nat.lt_of_lt_of_le (Array.getElem?_eq_some_iff.1 h1).1 hg.size
  refine ⟨rfl, ⟨hg.os, hg.tape, hg.output, by simpa [World.setChan] using hg.size, fun j hj hne => ?_⟩, _, _, heap_setChan _ _ _ _ _ _ _ _ hlt, h2.push ht⟩
  rw [← hg.block j hj hne]
  simp only [World.setChan]
  rw [Array.getElem?_setIfInBounds_ne (by intro e; exact hne (by rw [e]))]

/-- THE CHOSEN QUEUE IS FULL. -/
theorem put_no (w : World) (bq bo c cap : Nat) (l : List Nat) (hv : Array Value) (quiet : Bool) (hq : (if quiet then bq else bo) = c) (hc : ChanAt w c cap l) (hfull : ¬ l.length < cap) (hs : hv.size = 113) :
    Calls Yba.prog 9 #[.agg #[.chan (some bq), .chan (some bo)], .agg hv, .bool quiet] w fun e w' => e = .returned (.bool false) ∧ w.grownBy w' (some c) ∧ ChanAt w' c cap l := by
  obtain ⟨buf, s, h1, h2⟩ := hc
  refine (put_full w bq bo c cap s 0 buf hv false quiet hq h1 (by rw [h2.1]; omega) hs).mono ?_
  rintro e w' ⟨rfl, rfl⟩
  exact ⟨rfl, grown_boxed w bq bo hv c, buf, s, boxed_heap w bq bo hv c _ h1, h2⟩

/-- drain over a channel that holds just what is wanted. -/
theorem drain_all (w : World) (c cap N : Nat) (l : List Nat) (v : Value) (hc : ChanAt w c cap l) (hcN : c < N) (hl : l.length ≤ 8) (hi : ∀ i ∈ l, i ≤ 1024) (hown : w.ownsRow N 3 1 v l.length (ints l)) :
    Calls Yba.prog 11 #[.chan (some c), v] w fun e w' => e = .returned (.bool true) ∧ w.grownBy w' (some c) := by
  obtain ⟨buf, s, h1, h2⟩ := hc
  obtain ⟨wa, wc, rfl, hw⟩ : ∃ wa wc, v = .slice wa l.length wc ∧ ∀ j, j < l.length → ∃ g, wa = some ⟨g, 0, none⟩ ∧ g < w.heap.size ∧ g ≠ c ∧ w.cell? ⟨g, j, none⟩ = (ints l)[j]? := by
    obtain ⟨_, ⟨rfl, h0⟩ | ⟨g, gc, cur, rfl, hN, hb, _, _, _, hx⟩⟩ := hown
    · exact ⟨none, 0, by rw [h0], fun j hj => by omega⟩
    · refine ⟨some ⟨g, 0, none⟩, gc, rfl, fun j hj => ⟨g, rfl, (Array.getElem?_eq_some_iff.1 hb).1, by omega, ?_⟩⟩
      have hx' : (cur.toList.take (l.length * 1))[j]? = (ints l)[j]? := by rw [hx]
      rw [Nat.mul_one, List.getElem?_take, if_pos hj] at hx'
      simp [World.cell?, hb]
      simpa using hx'
  refine drain_any w c cap s 0 l.length wc buf wa (fun j => l.getD j 0) h1 h2.1 hl fun j hj => ?_
  obtain ⟨g, e1, e2, e3, e4⟩ := hw j hj
  have hlj : l[j]? = some (l.getD j 0) := by simp [List.getElem?_eq_getElem hj]
  refine ⟨g, e1, e2, e3, ?_, ?_, h2.2 j _ hlj⟩
  · rw [e4, ints, List.getElem?_map, hlj]; rfl
  · refine hi _ ?_
    have : l.getD j 0 = l[j] := by simp [List.getElem?_eq_getElem hj]
    rw [this]
    exact List.getElem_mem hj
end
end Go.Proofs.Ybulkaigo
