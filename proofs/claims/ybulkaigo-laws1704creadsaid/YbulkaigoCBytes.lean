/-
  (*codec).take and (*codec).bytes: contracts, for writing and for reading.
-/
import Derived.Test.YbulkaigoProg
import Derived.WalkKit
import Derived.WalkSpells
import Derived.WalkLawsBesides
import Derived.BigQuiet
import Derived.Deep.QuietTactic
import Derived.Deep.OwnRows
import Derived.Laws.CopyOwn
import Derived.Deep.MidRow
namespace Go.Proofs.Ybulkaigo
open Go.RowKit

theorem cinfo5 : (Yba.prog.info? 5).map (fun i => (i.zero, i.size, i.bytes)) = some (some (.int .u8 0), 1, 1) := by kernel_rfl
theorem csize5 : (Yba.prog.info? 5).map (·.size) = some 1 := by kernel_rfl

/-- Bytes, as cells. -/
def BL (l : List Value) : Prop := ∀ v ∈ l, ∃ z : Int, v = .int .u8 z
theorem BL.one {l : List Value} (h : BL l) : ∀ v ∈ l, v.oneCell' = true := fun v hv => by obtain ⟨z, rfl⟩ := h v hv; rfl

theorem cown_slice {w : World} {N e size n : Nat} {v : Value} {xs : List Value} (h : w.ownsRow N e size v n xs) : ∃ a c, v = .slice a n c := by
  obtain ⟨_, ⟨rfl, rfl⟩ | ⟨g, gc, cur, rfl, _⟩⟩ := h
  · exact ⟨_, _, rfl⟩
  · exact ⟨_, _, rfl⟩

/-- WHAT A WRITING CALL LEAVES: of what was there all but block cb and the row of the slice that is appended to is as it was; of cb all but cell 2. -/
structure Wrote (row : Option Nat) (cb : Nat) (w w' : World) : Prop where
  os : w'.os = w.os
  tape : w'.tape = w.tape
  output : w'.output = w.output
  size : w.heap.size ≤ w'.heap.size
  block : ∀ k, k < w.heap.size → k ≠ cb → some k ≠ row → w'.heap[k]? = w.heap[k]?
  cells : ∀ i, i ≠ 2 → w'.cell? ⟨cb, i, none⟩ = w.cell? ⟨cb, i, none⟩
  frozen : ∀ i, w'.frozen? ⟨cb, i, none⟩ = w.frozen? ⟨cb, i, none⟩

/-- Where the new slice lies: in the old one's row, or in new memory. -/
def Lies (w : World) (old new : Option Nat) : Prop := new = old ∨ ∃ k, new = some k ∧ w.heap.size ≤ k

theorem Lies.ne {w : World} {old new : Option Nat} (h : Lies w old new) {k : Nat} (hk : k < w.heap.size) (hne : some k ≠ old) : some k ≠ new := by
  rcases h with rfl | ⟨x, rfl, hx⟩
  · exact hne
  · simp; omega
theorem Lies.trans {w w1 : World} {a b c : Option Nat} (h : Lies w a b) (k : Lies w1 b c) (hs : w.heap.size ≤ w1.heap.size) : Lies w a c := by
  rcases k with rfl | ⟨x, rfl, hx⟩
  · exact h
  · exact .inr ⟨x, rfl, by omega⟩

theorem Wrote.trans {row row1 : Option Nat} {cb : Nat} {a b c : World} (h : Wrote row cb a b) (hl : Lies a row row1) (k : Wrote row1 cb b c) : Wrote row cb a c :=
  ⟨k.os.trans h.os, k.tape.trans h.tape, k.output.trans h.output, Nat.le_trans h.size k.size, fun i h1 h2 h3 => (k.block i (Nat.lt_of_lt_of_le h1 h.size) h2 (hl.ne h1 h3)).trans (h.block i h1 h2 h3), fun i hi => (k.cells i hi).trans (h.cells i hi), fun i => (k.frozen i).trans (h.frozen i)⟩

theorem wrote_of {cb : Nat} {w w1 : World} {v' : Value} {row : Option Nat} (hcb : cb < w.heap.size) (hrc : some cb ≠ row) (hg : w.grownBy w1 row) : Wrote row cb w (w1.setCell ⟨cb, 2, none⟩ v') := by
  refine ⟨hg.os, hg.tape, hg.output, by simpa using hg.size, fun k hk hkc hkr => ?_, fun i hi => ?_, fun i => ?_⟩
  · rw [Below.heap_setCell _ _ _ _ (by simpa using hkc)]
    exact hg.block k hk hkr
  · rw [World.cell?_setCell_other _ _ _ _ (by intro e; injection e; omega)]
    exact World.cell?_of_block (hg.block cb hcb hrc)
  · rw [World.frozen?_setCell]
    exact World.frozen?_of_block (hg.block cb hcb hrc)

theorem owns_set {w : World} {N cb : Nat} {v v' : Value} {xs : List Value} {n : Nat} (hne : some cb ≠ v.ownBlock) (h : w.ownsRow N 5 1 v n xs) : (w.setCell ⟨cb, 2, none⟩ v').ownsRow N 5 1 v n xs := by
  obtain ⟨h1, h2 | ⟨g, cap, cur, rfl, hN, hg, hc1, hc2, hc3, hx⟩⟩ := h
  · exact ⟨h1, .inl h2⟩
  · refine ⟨h1, .inr ⟨g, cap, cur, rfl, hN, (Below.heap_setCell _ _ _ _ ?_).trans hg, hc1, hc2, hc3, hx⟩⟩
    intro e
    exact hne (by rw [e]; rfl)

set_option maxHeartbeats 400000 in
set_option maxRecDepth 100000 in
/-- Writing: p's bytes are appended to c.out. -/
theorem bytes_w (w : World) (N cb mb o n : Nat) (v : Value) (L news : List Value) (hn : news.length = n) (hb : ∀ u ∈ news, u.oneCell' = true) (hsm : L.length + n ≤ 4096) (hcb : cb < w.heap.size) (hrc : some cb ≠ v.ownBlock) (hN : N ≤ w.heap.size)
    (h0 : w.cell? ⟨cb, 0, none⟩ = some (.bool false)) (h2 : w.cell? ⟨cb, 2, none⟩ = some v) (f2 : w.frozen? ⟨cb, 2, none⟩ = false)
    (hown : w.ownsRow N 5 1 v L.length L) (hc : ∀ j u, news[j]? = some u → w.cell? ⟨mb, o + j, none⟩ = some u) :
    Calls Yba.prog 15 #[.pointer (some ⟨cb, 0, none⟩), .slice (some ⟨mb, o, none⟩) n n] w fun e w' => e = .returned (.tuple #[]) ∧ Wrote v.ownBlock cb w w' ∧ ∃ v', w'.cell? ⟨cb, 2, none⟩ = some v' ∧ w'.ownsRow N 5 1 v' (L ++ news).length (L ++ news) ∧ Lies w v.ownBlock v'.ownBlock := by
  obtain ⟨i0, hi, hz0, hz1, hz2⟩ := info_parts cinfo5
  obtain ⟨a, c, rfl⟩ := cown_slice hown
  go_enter Yba.func15, Yba.ntmps15
  go_wp2_with (at_builtin; refine wpList_append_own_at _ rfl (.tmp 13) (.tmp 14) 56 rfl N 5 i0 (.int .u8 0) 1 1 Yba.underlying56 hi hz0 hz1 hz2 rfl (by decide) _ _ _ rfl hown ⟨mb, o, none⟩ n n news rfl (by omega) ?c1 hb ?c3 ?c4 hN ?_)
  case c1 => intro j u hj; rw [Addr.add_lit]; exact hc j u hj
  case c3 => unfold maxLen; omega
  case c4 => omega
  intro v' w1 hown' hg1 _ hat
  obtain ⟨a', c', rfl⟩ := cown_slice hown'
  have hk : ∀ i, w1.cell? ⟨cb, i, none⟩ = w.cell? ⟨cb, i, none⟩ := fun i => World.cell?_of_block (hg1.block cb hcb hrc)
  have hk2 := (hk 2).trans h2
  have hf2 : w1.frozen? ⟨cb, 2, none⟩ = false := (World.frozen?_of_block (hg1.block cb hcb hrc)).trans f2
  have HLi : Hid (Lies w (Value.slice a L.length c).ownBlock (Value.slice a' (L.length + n) c').ownBlock) := by
    rcases hat with e | e
    · exact .inl e
    · exact .inr ⟨_, e, Nat.le_refl _⟩
  have HW : Hid (Wrote (Value.slice a L.length c).ownBlock cb w (w1.setCell ⟨cb, 2, none⟩ (.slice a' (L.length + n) c'))) := wrote_of hcb hrc hg1
  have HO : Hid (w1.ownsRow N 5 1 (.slice a' (L.length + n) c') (L.length + n) (L ++ news)) := hown'
  have hlen : (L ++ news).length = L.length + n := by simp [hn]
  have HL : Hid ((L ++ news).length = L.length + n) := hlen
  have HRC : Hid (some cb ≠ (Value.slice a L.length c).ownBlock) := hrc
  clear hown' hg1 hk hown hlen hat hrc
  go_wp2_with fail
  refine bodyPost_ret (results_none rfl _ _ _) rfl ?_
  refine ⟨rfl, HW.out, _, World.cell?_setCell_same _ _ _ hk2, ?_, HLi.out⟩
  rw [HL.out]
  exact owns_set (HLi.out.ne hcb HRC.out) HO.out

set_option maxHeartbeats 400000 in
set_option maxRecDepth 100000 in
theorem take_err (w : World) (cb : Nat) (n : Nat) (T : TypeId) (x : Value) (h3 : w.cell? ⟨cb, 3, none⟩ = some (.iface T x)) :
    Calls Yba.prog 16 #[.pointer (some ⟨cb, 0, none⟩), .int .i64 (n : Int)] w fun e w' => e = .returned (.slice none 0 0) ∧ w' = w := by
  go_enter Yba.func16, Yba.ntmps16
  go_wp2_with fail
  go_ret
  exact ⟨rfl, rfl⟩

set_option maxHeartbeats 400000 in
set_option maxRecDepth 100000 in
theorem take_short (w : World) (cb : Nat) (n l c : Nat) (a : Option Addr) (hl : l < n) (_hn : n ≤ 4096) (hcb : cb < w.heap.size) (h3 : w.cell? ⟨cb, 3, none⟩ = some .nilIface) (h1 : w.cell? ⟨cb, 1, none⟩ = some (.slice a l c)) (f3 : w.frozen? ⟨cb, 3, none⟩ = false) :
    Calls Yba.prog 16 #[.pointer (some ⟨cb, 0, none⟩), .int .i64 (n : Int)] w fun e w' => e = .returned (.slice none 0 0) ∧ ∃ S, w' = (w.setCell ⟨cb, 3, none⟩ (.iface 76 (.pointer (some ⟨w.heap.size, 0, none⟩)))).alloc (.cells #[.string S] 78) := by
  go_enter Yba.func16, Yba.ntmps16
  go_wp2
  go_ret
  exact ⟨rfl, _, rfl⟩

set_option maxHeartbeats 400000 in
set_option maxRecDepth 100000 in
theorem take_full (w : World) (cb : Nat) (n l c b off : Nat) (A : Option Addr) (hl : n ≤ l) (hlc : l ≤ c) (h3 : w.cell? ⟨cb, 3, none⟩ = some .nilIface) (h1 : w.cell? ⟨cb, 1, none⟩ = some (.slice (some ⟨b, off, none⟩) l c)) (f1 : w.frozen? ⟨cb, 1, none⟩ = false)
    (hA : (if c = n then some (⟨b, off, none⟩ : Addr) else some ⟨b, off + n, none⟩) = A) :
    Calls Yba.prog 16 #[.pointer (some ⟨cb, 0, none⟩), .int .i64 (n : Int)] w fun e w' => e = .returned (.slice (some ⟨b, off, none⟩) n c) ∧ w' = w.setCell ⟨cb, 1, none⟩ (.slice A (l - n) (c - n)) := by
  go_enter Yba.func16, Yba.ntmps16
  go_wp2_with fail
  go_ret
  exact ⟨rfl, rfl⟩

set_option maxHeartbeats 400000 in
set_option maxRecDepth 100000 in
/-- Reading behind an error: nothing turns. -/
theorem bytes_err (w : World) (cb mb o n : Nat) (_hn : n ≤ 4096) (T : TypeId) (x : Value) (h0 : w.cell? ⟨cb, 0, none⟩ = some (.bool true)) (h3 : w.cell? ⟨cb, 3, none⟩ = some (.iface T x)) :
    Calls Yba.prog 15 #[.pointer (some ⟨cb, 0, none⟩), .slice (some ⟨mb, o, none⟩) n n] w fun e w' => e = .returned (.tuple #[]) ∧ w' = w := by
  go_enter Yba.func15, Yba.ntmps15
  go_wp2_with fail
  refine (take_err w cb n T x h3).mono ?_
  rintro e w1 ⟨rfl, rfl⟩
  go_wp2_with (refine wpList_copy_nothing rfl (.tmp 18) (.tmp 22) 56 56 rfl 5 Yba.underlying56 csize5 _ none n n 0 0 rfl rfl (by simp) ?_)
  go_end0
  exact ⟨rfl, rfl⟩

set_option maxHeartbeats 400000 in
set_option maxRecDepth 100000 in
/-- Reading where fewer are left than are asked for: an error is laid. -/
theorem bytes_short (w : World) (cb mb o n l c : Nat) (a : Option Addr) (hl : l < n) (hn : n ≤ 4096) (hcb : cb < w.heap.size) (h0 : w.cell? ⟨cb, 0, none⟩ = some (.bool true)) (h3 : w.cell? ⟨cb, 3, none⟩ = some .nilIface) (h1 : w.cell? ⟨cb, 1, none⟩ = some (.slice a l c))
    (f3 : w.frozen? ⟨cb, 3, none⟩ = false) :
    Calls Yba.prog 15 #[.pointer (some ⟨cb, 0, none⟩), .slice (some ⟨mb, o, none⟩) n n] w fun e w' => e = .returned (.tuple #[]) ∧ ∃ S, w' = (w.setCell ⟨cb, 3, none⟩ (.iface 76 (.pointer (some ⟨w.heap.size, 0, none⟩)))).alloc (.cells #[.string S] 78) := by
  go_enter Yba.func15, Yba.ntmps15
  go_wp2_with fail
  refine (take_short w cb n l c a hl hn hcb h3 h1 f3).mono ?_
  rintro e w1 ⟨rfl, S, rfl⟩
  go_wp2_with (refine wpList_copy_nothing rfl (.tmp 18) (.tmp 22) 56 56 rfl 5 Yba.underlying56 csize5 _ none n n 0 0 rfl rfl (by simp) ?_)
  go_end0
  exact ⟨rfl, S, rfl⟩

set_option maxHeartbeats 400000 in
set_option maxRecDepth 100000 in
/-- Reading: the first n bytes go into the message, the rest is left. -/
theorem bytes_full (w : World) (cb mb o n l c b off : Nat) (A : Option Addr) (hl : n ≤ l) (hlc : l ≤ c) (_hn : n ≤ 4096) (h0 : w.cell? ⟨cb, 0, none⟩ = some (.bool true)) (h3 : w.cell? ⟨cb, 3, none⟩ = some .nilIface)
    (h1 : w.cell? ⟨cb, 1, none⟩ = some (.slice (some ⟨b, off, none⟩) l c)) (f1 : w.frozen? ⟨cb, 1, none⟩ = false) (hA : (if c = n then some (⟨b, off, none⟩ : Addr) else some ⟨b, off + n, none⟩) = A)
    (cur : Array Value) (hm : w.heap[mb]? = some (.cells cur 61 (0, 0))) (hmc : mb ≠ cb) (hbc : b ≠ cb) (cs : List Value) (hcs : cs.length = n) (h1c : ∀ v ∈ cs, v.oneCell' = true) (hsrc : ∀ j v, cs[j]? = some v → w.cell? ⟨b, off + j, none⟩ = some v) (hfit : o + n ≤ cur.size) :
    Calls Yba.prog 15 #[.pointer (some ⟨cb, 0, none⟩), .slice (some ⟨mb, o, none⟩) n n] w fun e w' => e = .returned (.tuple #[]) ∧
      w' = (w.setCell ⟨cb, 1, none⟩ (.slice A (l - n) (c - n))).setRow mb (cur.toList.take o ++ (cs ++ cur.toList.drop (o + cs.length))).toArray := by
  have HM : Hid ((w.setCell ⟨cb, 1, none⟩ (.slice A (l - n) (c - n))).heap[mb]? = some (.cells cur 61 (0, 0))) := (Below.heap_setCell _ _ _ _ hmc).trans hm
  have HS : Hid (∀ j v, cs[j]? = some v → (w.setCell ⟨cb, 1, none⟩ (.slice A (l - n) (c - n))).cell? ((⟨b, off, none⟩ : Addr).add j) = some v) := fun j v hj => by
    rw [Addr.add_lit, World.cell?_setCell_other _ _ _ _ (by intro e; injection e; exact hbc (by omega))]
    exact hsrc j v hj
  have HN : Hid (cs.length = Nat.min n n) := by show _ = _; rw [hcs]; simp
  have HF : Hid (o + cs.length ≤ cur.size) := by show _ ≤ _; omega
  have H1 : Hid (∀ v ∈ cs, v.oneCell' = true) := h1c
  clear hsrc h1c hm hcs hfit
  go_enter Yba.func15, Yba.ntmps15
  go_wp2_with fail
  refine (take_full w cb n l c b off A hl hlc h3 h1 f1 hA).mono ?_
  rintro e w1 ⟨rfl, rfl⟩
  clear hA h0 h1 h3 f1
  go_wp2_with (refine wpList_copy_own rfl (.tmp 18) (.tmp 22) 56 56 rfl 5 Yba.underlying56 csize5 mb o n n ⟨b, off, none⟩ n c rfl rfl cur 61 HM.out cs HN.out HS.out HF.out H1.out ?_)
  go_end0
  exact ⟨rfl, rfl⟩

end Go.Proofs.Ybulkaigo
