/-
  (*forcedPairs).Push, container/heap.Push.
-/
import Derived.Test.YbulkaiieHeap
import Derived.Deep.RegionLaw
namespace Go.Proofs.Ybulkaiie
open Go.RowKit
set_option linter.unusedSimpArgs false

theorem info59 : (Yba.prog.info? 59).map (fun i => (i.zero, i.size, i.bytes)) = some (some (.agg #[.int .i64 0, .int .i64 0, .int .i64 0]), 3, 24) := by kernel_rfl

set_option maxHeartbeats 1000000 in
set_option maxRecDepth 100000 in
theorem push64 (w : World) (pf : Addr) (base n : Nat) (v : Value) (xs : List Value) (x : Fp) (hp : w.cell? pf = some v) (hf : w.frozen? pf = false) (hb : pf.block < base) (hbase : base ≤ w.heap.size) (hn : n ≤ 4095) (hown : w.ownsRow base 59 3 v n xs) :
    Calls Yba.prog 64 #[.pointer (some pf), .iface 59 (.agg #[.int .i64 x.1, .int .i64 x.2.1, .int .i64 x.2.2])] w fun e w' => e = .returned (.tuple #[]) ∧ ∃ g cap w1, w1.ownsRow base 59 3 (.slice (some ⟨g, 0, none⟩) (n + 1) cap) (n + 1) (xs ++ encFp x) ∧ (w.alloc (.cells #[.int .i64 x.1, .int .i64 x.2.1, .int .i64 x.2.2] 59)).grownBy w1 v.ownBlock ∧ (v.ownBlock = some g ∨ g = w.heap.size + 1) ∧ w' = w1.setCell pf (.slice (some ⟨g, 0, none⟩) (n + 1) cap) := by
  obtain ⟨i0, hi, hz0, hz1, hz2⟩ := info_parts info59
  obtain ⟨a, c, rfl⟩ := own_form hown
  obtain ⟨x0, x1, x2⟩ := x
  dsimp only
  have H : Hid (w.ownsRow base 59 3 (.slice a n c) n xs ∧ pf.block < base) := ⟨hown, hb⟩
  clear hown hb
  have hta : ∀ w : World, (Instr.typeAssert (.iface 59 (.agg #[.int .i64 x0, .int .i64 x1, .int .i64 x2])) 20 59 false).run Yba.prog w = .ok (.agg #[.int .i64 x0, .int .i64 x1, .int .i64 x2]) w := fun _ => by kernel_rfl
  have hnb : Hid ((w.alloc (.cells #[.int .i64 x0, .int .i64 x1, .int .i64 x2] 59)).drew.heap[w.heap.size]? = some (.cells #[.int .i64 x0, .int .i64 x1, .int .i64 x2] 59 (0, 0))) := by
    show (w.heap.push _)[w.heap.size]? = _
    simp
  have h1c : Hid (∀ u ∈ encFp (x0, x1, x2), u.oneCell' = true) := fun u hu => by
    simp [encFp] at hu
    rcases hu with rfl | rfl | rfl <;> rfl
  have hpl : Hid (pf.block < w.heap.size ∧ ∀ k, (Value.slice a n c).ownBlock = some k → base ≤ k ∧ k < w.heap.size) := ⟨by have := H.out.2; omega, fun k hk => H.out.1.lt k hk⟩
  have hs1 : Hid ((w.alloc (.cells #[.int .i64 x0, .int .i64 x1, .int .i64 x2] 59)).drew.heap.size = w.heap.size + 1) := by
    show (w.heap.push _).size = _
    simp
  have hpc : Hid (∀ w1 : World, (w.alloc (.cells #[.int .i64 x0, .int .i64 x1, .int .i64 x2] 59)).drew.grownBy w1 (Value.slice a n c).ownBlock → w1.cell? pf = some (.slice a n c) ∧ w1.frozen? pf = false) := by
    intro w1 hg
    have hblk : w1.heap[pf.block]? = w.heap[pf.block]? := by
      rw [hg.block pf.block (by rw [hs1.out]; have := hpl.out.1; omega) (fun e => by have := hpl.out.2 _ e.symm; have := H.out.2; omega)]
      show (w.heap.push _)[pf.block]? = _
      have := hpl.out.1
      rw [Array.getElem?_push, if_neg (by omega)]
    constructor
    · rw [← hp]; unfold World.cell?; rw [hblk]
    · rw [← hf]; unfold World.frozen?; rw [hblk]
  have hp2 : (w.alloc (.cells #[.int .i64 x0, .int .i64 x1, .int .i64 x2] 59)).cell? pf = some (.slice a n c) := by rw [World.cell?_alloc_lt _ _ _ hpl.out.1]; exact hp
  go_enter Yba.func64, Yba.ntmps64
  go_wp2_with fail
  go_region_law (refine step_append_lies _ rfl (.tmp 7) (.tmp 10) 50 rfl base 59 i0 (.agg #[.int .i64 0, .int .i64 0, .int .i64 0]) 3 24 Yba.underlying50 hi hz0 hz1 hz2 rfl (by decide) _ _ _ rfl (show ((w.alloc (.cells #[.int .i64 x0, .int .i64 x1, .int .i64 x2] 59)).drew).ownsRow base 59 3 (.slice a n c) n xs from H.out.1.alloc _) ⟨w.heap.size, 0, none⟩ 1 1 (encFp (x0, x1, x2)) rfl rfl (World.news_of_block hnb.out) h1c.out (by omega) (by unfold maxLen; omega) (by omega) (by rw [hs1.out]; omega) (w.heap.size + 1) hs1.out ?_; intro g cap w1 hown1 hg1 hat1 hlt1; obtain ⟨hc1, hf1⟩ := hpc.out w1 hg1; have HE1 := (show Hid _ from And.intro hown1 (And.intro hg1 hat1)); clear hown1 hg1 hat1)
  all_goals
    go_end0
    exact ⟨rfl, g, cap, w1, HE1.out.1, ⟨HE1.out.2.1.os, HE1.out.2.1.tape, HE1.out.2.1.output, HE1.out.2.1.size, HE1.out.2.1.block⟩, HE1.out.2.2, rfl⟩

theorem flat_len (l : List Fp) : (l.flatMap encFp).length = l.length * 3 := by
  induction l with
  | nil => rfl
  | cons a l ih => simp [List.flatMap_cons, encFp] at ih ⊢; omega

theorem flat_get (l : List Fp) (e j : Nat) (he : e < l.length) (hj : j < 3) : (l.flatMap encFp)[e * 3 + j]? = (encFp (l.getD e (0, 0, 0)))[j]? := by
  induction l generalizing e with
  | nil => simp at he
  | cons a l ih =>
    rw [List.flatMap_cons]
    cases e with
    | zero => rw [List.getElem?_append_left (by simp [encFp]; omega)]; simp
    | succ e =>
      rw [List.getElem?_append_right (by simp [encFp]; omega)]
      have := ih e (by simpa using he)
      simp [encFp] at this ⊢
      rw [← this]
      congr 1
      omega

theorem own_row3 {w : World} {base g n cap : Nat} {l : List Fp} (h : w.ownsRow base 59 3 (.slice (some ⟨g, 0, none⟩) n cap) n (l.flatMap encFp)) (hl : l.length = n) :
    Row3 w g (cap * 3) n (fun e => l.getD e (0, 0, 0)) ∧ n ≤ cap ∧ cap ≤ maxLen ∧ base ≤ g := by
  obtain ⟨_, ⟨h1, _⟩ | ⟨g', cap', cur, h1, h2, h3, h4, h5, h6, h7⟩⟩ := h
  · cases h1
  · cases h1
    refine ⟨⟨fun i => cur.getD i (.int .i64 0), ⟨cur, h3, h6, fun i hi => ?_⟩, by omega, fun e he => ?_⟩, h4, h5, h2⟩
    · rw [← h6] at hi; simp [hi]
    · have key : ∀ j, j < 3 → cur[e * 3 + j]? = (encFp (l.getD e (0, 0, 0)))[j]? := fun j hj => by
        rw [← flat_get l e j (by omega) hj, ← h7, List.getElem?_take_of_lt (by omega)]
        simp
      have k0 := key 0 (by omega)
      have k1 := key 1 (by omega)
      have k2 := key 2 (by omega)
      simp only [encFp, Nat.add_zero] at k0 k1 k2
      refine ⟨?_, ?_, ?_⟩
      · simp at k0 ⊢; rw [k0]; rfl
      · simp at k1 ⊢; rw [k1]; rfl
      · simp at k2 ⊢; rw [k2]; rfl

theorem row3_own {w : World} {base g n cap : Nat} {D : Nat → Fp} (h : Row3 w g (cap * 3) n D) (h4 : n ≤ cap) (h5 : cap ≤ maxLen) (h2 : base ≤ g) :
    w.ownsRow base 59 3 (.slice (some ⟨g, 0, none⟩) n cap) n ((listD D n).flatMap encFp) := by
  obtain ⟨F, ⟨cur, c1, c2, c3⟩, hn, hF⟩ := h
  refine ⟨by rw [flat_len]; simp [listD], .inr ⟨g, cap, cur, rfl, h2, c1, h4, h5, c2, ?_⟩⟩
  apply List.ext_getElem?
  intro i
  rcases Nat.lt_or_ge i (n * 3) with hi | hi
  · rw [List.getElem?_take_of_lt hi]
    have he : i / 3 < n := by omega
    have hgi : i = i / 3 * 3 + i % 3 := by omega
    rw [hgi, flat_get _ _ _ (by simpa [listD] using he) (by omega)]
    have hd : (listD D n).getD (i / 3) (0, 0, 0) = D (i / 3) := by simp [listD, he]
    rw [hd]
    obtain ⟨f0, f1, f2⟩ := hF (i / 3) he
    rw [← hgi, Array.getElem?_toList, c3 i (by omega)]
    obtain ⟨q, hq⟩ : ∃ q, q = i / 3 := ⟨_, rfl⟩
    rw [← hq] at f0 f1 f2 hgi ⊢
    rcases (show i % 3 = 0 ∨ i % 3 = 1 ∨ i % 3 = 2 by omega) with e | e | e
    · rw [e] at hgi ⊢
      rw [hgi]; simp [encFp, f0]
    · rw [e] at hgi ⊢
      rw [hgi]; simp [encFp, f1]
    · rw [e] at hgi ⊢
      rw [hgi]; simp [encFp, f2]
  · rw [List.getElem?_eq_none (by simp; omega), List.getElem?_eq_none (by rw [flat_len]; simp [listD]; omega)]

theorem listD_getD (l : List Fp) : listD (fun e => l.getD e (0, 0, 0)) l.length = l := by
  apply List.ext_getElem
  · simp [listD]
  · intro i h1 h2
    simp [listD, h2]

structure BelowX (B x : Nat) (w w' : World) : Prop where
  os : w'.os = w.os
  tape : w'.tape = w.tape
  output : w'.output = w.output
  size : w.heap.size ≤ w'.heap.size
  block : ∀ k, k < B → k ≠ x → w'.heap[k]? = w.heap[k]?

theorem BelowX.refl (B x : Nat) (w : World) : BelowX B x w w := ⟨rfl, rfl, rfl, Nat.le_refl _, fun _ _ _ => rfl⟩
theorem BelowX.trans {B x : Nat} {a b c : World} (h : BelowX B x a b) (k : BelowX B x b c) : BelowX B x a c :=
  ⟨k.os.trans h.os, k.tape.trans h.tape, k.output.trans h.output, Nat.le_trans h.size k.size, fun i hi hx => (k.block i hi hx).trans (h.block i hi hx)⟩
theorem BelowX.of {B x : Nat} {a b : World} (h : Below B a b) : BelowX B x a b := ⟨h.os, h.tape, h.output, h.size, fun i hi _ => h.block i hi⟩
theorem BelowX.below {B B' x : Nat} {a b : World} (h : BelowX B x a b) (h1 : B' ≤ B) (h2 : B' ≤ x) : Below B' a b := ⟨h.os, h.tape, h.output, h.size, fun i hi => h.block i (by omega) (by omega)⟩
theorem BelowX.cell {B x : Nat} {w w' : World} (h : BelowX B x w w') {p : Addr} (hp : p.block < B) (hx : p.block ≠ x) : w'.cell? p = w.cell? p := World.cell?_of_block (w := w) (h.block p.block hp hx)
theorem BelowX.frozen {B x : Nat} {w w' : World} (h : BelowX B x w w') {p : Addr} (hp : p.block < B) (hx : p.block ≠ x) : w'.frozen? p = w.frozen? p := World.frozen?_of_block (w := w) (h.block p.block hp hx)

set_option maxHeartbeats 400000 in
set_option maxRecDepth 100000 in
theorem len61 (w : World) (a : Option Addr) (n c : Nat) : Calls Yba.prog 61 #[.slice a n c] w fun e w' => e = .returned (.int .i64 n) ∧ w' = w := by
  go_enter Yba.func61, Yba.ntmps61
  go_wp2_with fail
  go_ret
  exact ⟨rfl, rfl⟩

theorem set_block' {w : World} {b o : Nat} {v : Value} {cs : Array Value} {t : TypeId} {fr : Nat × Nat} (h : w.heap[b]? = some (.cells cs t fr)) : (w.setCell ⟨b, o, none⟩ v).heap[b]? = some (.cells (cs.setIfInBounds o v) t fr) := by
  simp [World.setCell, Array.getElem?_modify, h]

theorem cell_setCell_off {w : World} {b o o' : Nat} {v : Value} (h : o' ≠ o) : (w.setCell ⟨b, o, none⟩ v).cell? ⟨b, o', none⟩ = w.cell? ⟨b, o', none⟩ := by
  unfold World.cell?
  cases hb : w.heap[b]? with
  | none => simp [World.setCell, hb, Array.getElem?_modify]
  | some ob =>
    cases ob with
    | cells cs t fr =>
      rw [set_block' hb]
      simp [Array.getElem?_setIfInBounds, Ne.symm h]
    | _ => simp [World.setCell, hb, Array.getElem?_modify]

theorem frozen_setCell {w : World} {a p : Addr} {v : Value} : (w.setCell a v).frozen? p = w.frozen? p := by
  simp

theorem cell_setCell_self {w : World} {a : Addr} {u v : Value} (hs : a.spot = none) (h : w.cell? a = some u) : (w.setCell a v).cell? a = some v := by
  obtain ⟨b, o, s⟩ := a
  simp only at hs
  subst hs
  unfold World.cell? at h ⊢
  cases hb : w.heap[b]? with
  | none => simp [hb] at h
  | some ob =>
    cases ob with
    | cells cs t fr =>
      rw [set_block' hb]
      simp [hb] at h ⊢
      have : o < cs.size := by
        rcases Nat.lt_or_ge o cs.size with h1 | h1
        · exact h1
        · simp [Array.getElem?_eq_none h1] at h
      simp [this]
    | _ => simp [hb] at h

theorem push64' (w : World) (bv off base : Nat) (v : Value) (D : List Fp) (x : Fp) (hp : w.cell? ⟨bv, off, none⟩ = some v) (hf : w.frozen? ⟨bv, off, none⟩ = false) (hb : bv < base) (hbase : base ≤ w.heap.size) (hn : D.length ≤ 4095) (hown : w.ownsRow base 59 3 v D.length (D.flatMap encFp)) :
    Calls Yba.prog 64 #[.pointer (some ⟨bv, off, none⟩), .iface 59 (.agg #[.int .i64 x.1, .int .i64 x.2.1, .int .i64 x.2.2])] w fun e w' => e = .returned (.tuple #[]) ∧ ∃ g cap : Nat, w'.cell? ⟨bv, off, none⟩ = some (.slice (some ⟨g, 0, none⟩) (D.length + 1) cap) ∧ w'.frozen? ⟨bv, off, none⟩ = false ∧
      Row3 w' g (cap * 3) (D.length + 1) (fun e => (D ++ [x]).getD e (0, 0, 0)) ∧ D.length + 1 ≤ cap ∧ cap ≤ maxLen ∧ base ≤ g ∧ BelowX base bv w w' ∧ ∀ o, o ≠ off → w'.cell? ⟨bv, o, none⟩ = w.cell? ⟨bv, o, none⟩ := by
  refine (push64 w ⟨bv, off, none⟩ base D.length v (D.flatMap encFp) x hp hf hb hbase hn hown).mono ?_
  rintro e w' ⟨rfl, g, cap, w1, h1, h2, h3, rfl⟩
  have hlt := hown.lt
  have hsz : (w.alloc (.cells #[.int .i64 x.1, .int .i64 x.2.1, .int .i64 x.2.2] 59)).heap.size = w.heap.size + 1 := by simp
  have hblk : ∀ k, k < base → w1.heap[k]? = w.heap[k]? := fun k hk => by
    rw [h2.block k (by rw [hsz]; omega) (fun e => by have := hlt k e.symm; omega), Below.heap_alloc _ _ _ (by omega)]
  have hf1 : (D ++ [x]).flatMap encFp = D.flatMap encFp ++ encFp x := by simp
  rw [← hf1] at h1
  obtain ⟨r1, r2, r3, r4⟩ := own_row3 h1 (by simp)
  have hc1 : w1.cell? ⟨bv, off, none⟩ = some v := (World.cell?_of_block (w := w) (hblk bv hb)).trans hp
  refine ⟨rfl, g, cap, cell_setCell_self rfl hc1, ?_, ?_, r2, r3, r4, ⟨h2.os, h2.tape, h2.output, ?_, fun k hk hne => ?_⟩, fun o ho => ?_⟩
  · rw [← hf, frozen_setCell]
    exact World.frozen?_of_block (w := w) (hblk bv hb)
  · obtain ⟨F, q1, q2, q3⟩ := r1
    exact ⟨F, q1.setOther (by show g ≠ bv; omega) _, q2, q3⟩
  · have := h2.size
    rw [hsz] at this
    simp; omega
  · rw [Below.heap_setCell _ _ _ _ (by exact hne), hblk k hk]
  · rw [cell_setCell_off (by exact ho)]
    exact World.cell?_of_block (w := w) (hblk bv hb)

theorem wrap_pred (n : Nat) (h : n ≤ 4096) : IntKind.i64.wrap (((n + 1 : Nat) : Int) - 1) = (n : Int) := by
  rw [IntKind.wrap_i64]; omega

set_option maxHeartbeats 1000000 in
set_option maxRecDepth 100000 in
theorem push14 (w : World) (bv off base : Nat) (v : Value) (D : List Fp) (x : Fp) (hp : w.cell? ⟨bv, off, none⟩ = some v) (hf : w.frozen? ⟨bv, off, none⟩ = false) (hb : bv < base) (hbase : base ≤ w.heap.size) (hn : D.length ≤ 4095) (hown : w.ownsRow base 59 3 v D.length (D.flatMap encFp)) :
    Calls Yba.prog 14 #[.iface 68 (.pointer (some ⟨bv, off, none⟩)), .iface 59 (.agg #[.int .i64 x.1, .int .i64 x.2.1, .int .i64 x.2.2])] w fun e w' => e = .returned (.tuple #[]) ∧ ∃ (v' : Value) (D' : List Fp), w'.cell? ⟨bv, off, none⟩ = some v' ∧ w'.frozen? ⟨bv, off, none⟩ = false ∧
      w'.ownsRow base 59 3 v' D'.length (D'.flatMap encFp) ∧ D'.Perm (D ++ [x]) ∧ BelowX base bv w w' ∧ ∀ o, o ≠ off → w'.cell? ⟨bv, o, none⟩ = w.cell? ⟨bv, o, none⟩ := by
  have hmP := mPush w ⟨bv, off, none⟩
  have HO : Hid (w.ownsRow base 59 3 v D.length (D.flatMap encFp)) := hown
  clear hown
  go_enter Yba.func14, Yba.ntmps14
  go_wp2_with fail
  refine (push64' w bv off base v D x hp hf hb hbase hn HO.out).mono ?_
  rintro e w1 ⟨rfl, g, cap, c1, c2, c3, c4, c5, c6, c7, c8⟩
  obtain ⟨n, hnn⟩ : ∃ n, n = D.length := ⟨_, rfl⟩
  rw [← hnn] at c1 c3 c4 hn
  have hmL := mLen w1 ⟨bv, off, none⟩ _ (load50 w1 ⟨bv, off, none⟩ _ _ _ c1)
  have q1 := wrap_pred n (by omega)
  have HC : Hid (Row3 w1 g (cap * 3) (n + 1) (fun e => (D ++ [x]).getD e (0, 0, 0)) ∧ BelowX base bv w w1 ∧ (∀ o, o ≠ off → w1.cell? ⟨bv, o, none⟩ = w.cell? ⟨bv, o, none⟩) ∧ n = D.length) := ⟨c3, c7, c8, hnn⟩
  clear c3 c7 c8 hmP hp hf hnn
  go_wp2_with fail
  refine (len61 w1 _ _ _).mono ?_
  rintro e w2 ⟨rfl, hw2⟩
  subst w2
  clear hmL
  go_wp2_with fail
  refine (up19 w1 ⟨bv, off, none⟩ g (cap * 3) (n + 1) cap n _ c1 (by show bv ≠ g; omega) (by omega) HC.out.1 (by omega)).mono ?_
  rintro e w3 ⟨rfl, g3, z3, D', r3, p3⟩
  have hlb : bv < w1.heap.size := World.block_lt_of_cell? _ _ c1
  have HE : Hid (∃ (v' : Value) (D' : List Fp), w3.cell? ⟨bv, off, none⟩ = some v' ∧ w3.frozen? ⟨bv, off, none⟩ = false ∧
      w3.ownsRow base 59 3 v' D'.length (D'.flatMap encFp) ∧ D'.Perm (D ++ [x]) ∧ BelowX base bv w w3 ∧ ∀ o, o ≠ off → w3.cell? ⟨bv, o, none⟩ = w.cell? ⟨bv, o, none⟩) := by
    obtain ⟨k1, k2, k3, k4⟩ := HC.out
    have hbv : w3.heap[bv]? = w1.heap[bv]? := g3.block bv hlb (by intro e; simp at e; omega)
    refine ⟨_, listD D' (n + 1), (World.cell?_of_block (w := w1) hbv).trans c1, (World.frozen?_of_block (w := w1) hbv).trans c2, ?_, ?_, ?_, ?_⟩
    · have := row3_own (base := base) r3 c4 c5 c6
      rw [show (listD D' (n + 1)).length = n + 1 by simp [listD]]
      exact this
    · refine p3.trans ?_
      have := listD_getD (D ++ [x])
      rw [show (D ++ [x]).length = n + 1 by simp [k4]] at this
      rw [this]
    · refine k2.trans ⟨g3.os, g3.tape, g3.output, g3.size, fun k hk hne => g3.block k (by have := k2.size; omega) (by intro e; simp at e; omega)⟩
    · intro o ho
      rw [← k3 o ho]
      exact World.cell?_of_block (w := w1) hbv
  clear g3 z3 r3 p3
  go_wp2_with fail
  go_end0
  exact ⟨rfl, HE.out⟩
end Go.Proofs.Ybulkaiie
