/-
  zzs1704bdrain: its contract.
-/
import Derived.Test.YbulkaigoBTag
namespace Go.Proofs.Ybulkaigo
open Go.Conc Go.RowKit

theorem or_bytes (i : Nat) (h : i ≤ 1024) : bits BinOp.or IntKind.i64 ((i : Int) % 256) ((i : Int) / 256 * 256) = (i : Int) := by
  have key : ∀ i : Fin 1025, bits BinOp.or IntKind.i64 ((i.1 : Int) % 256) ((i.1 : Int) / 256 * 256) = (i.1 : Int) := by decide +kernel
  exact key ⟨i, by omega⟩

set_option maxHeartbeats 400000 in
set_option maxRecDepth 100000 in
theorem drain_any (w : World) (c cap s r m wc : Nat) (buf : Array Value) (wa : Option Addr) (ix : Nat → Nat) (hc : w.heap[c]? = some (.chan cap buf false s r false)) (hm : buf.size = m) (hm8 : m ≤ 8)
    (hw : ∀ j, j < m → ∃ g, wa = some ⟨g, 0, none⟩ ∧ g < w.heap.size ∧ g ≠ c ∧ w.cell? ⟨g, j, none⟩ = some (.int .i64 (ix j)) ∧ ix j ≤ 1024 ∧ ∃ hv, buf[j]? = some (.agg hv) ∧ IsTag (ix j) hv) :
    Calls Yba.prog 11 #[.chan (some c), .slice wa m wc] w fun e w' => e = .returned (.bool true) ∧ w.grownBy w' (some c) := by
  refine calls_of_wpN (by rintro e w' ⟨rfl, _⟩; exact ⟨_, rfl⟩) Yba.func11 rfl ?_
  simp only [Yba.ntmps11, List.size_toArray, List.length_cons, List.length_nil, Nat.reduceAdd, Nat.reduceSub, Array.replicate_succ, Array.replicate_zero, List.push_toArray, List.append_toArray, List.nil_append, List.cons_append]
  have hlen := fun ty => run_len_chan (P := Yba.prog) 35 ty Yba.underlying35 hc
  rw [hm] at hlen
  refine WpN.seq_wp fun K hK => ?_
  go_wp2_with fail
  refine WpN.seq_wp fun K hK => ?_
  go_wp2_with fail
  refine WpN.seq_k fun K hK => ?_
  refine WpN.seq_wp fun K2 hK2 => ?_
  go_wp2_with fail
  refine WpN.block (WpN.loop_k (fun n a wr => ∃ (k : Nat) (u16 u6 u7 u8 u17 u18 u19 u20 u21 u22 u23 u24 u25 u26 u27 u28 u29 u30 u31 u32 u33 u34 u35 u36 u37 u38 u39 u40 u41 u42 : Value), n = m - k ∧ k ≤ m ∧ u16 = .int .i64 (k : Int) ∧ a = { tmps := #[.chan (some c), .slice wa m wc, undef, undef, .bool false, undef, u6, u7, u8, .chan (some c), .int .i64 (m : Int), .slice wa m wc, .int .i64 (m : Int), .bool false, .slice wa m wc, .int .i64 (m : Int), u16, u17, u18, u19, u20, u21, u22, u23, u24, u25, u26, u27, u28, u29, u30, u31, u32, u33, u34, u35, u36, u37, u38, u39, u40, u41, u42, undef, undef, undef], defers := [] } ∧
      wr.heap[c]? = some (.chan cap (buf.extract k m) false s (r + k) false) ∧ w.grownBy wr (some c)) m ?_ ?_)
  · exact ⟨0, _, _, _, _, _, _, _, _, _, _, _, _, _, _, _, _, _, _, _, _, _, _, _, _, _, _, _, _, _, _, by omega, Nat.zero_le _, rfl, rfl, by rw [← hm]; simpa using hc, ⟨rfl, rfl, rfl, Nat.le_refl _, fun _ _ _ => rfl⟩⟩
  · rintro n a wr ⟨k, u16, u6, u7, u8, u17, u18, u19, u20, u21, u22, u23, u24, u25, u26, u27, u28, u29, u30, u31, u32, u33, u34, u35, u36, u37, u38, u39, u40, u41, u42, rfl, hk, rfl, rfl, hch, hg⟩ J hJ
    by_cases hlt : k < m
    · obtain ⟨g, rfl, hg1, hg2, hcell, hix, hv, hbuf, htag⟩ := hw k hlt
      have hcr := hg.cell hcell (by simp; omega)
      clear hlen hcell
      refine WpN.seq_wp fun K3 hK3 => ?_
      go_wp2_with fail
      refine WpN.seq_wp fun K3 hK3 => ?_
      go_wp2_with fail
      refine WpN.seq_k fun K3 hK3 => ?_
      refine WpN.block ?_
      refine WpN.seq_wp fun K4 hK4 => ?_
      go_wp2_with fail
      obtain ⟨z, hz⟩ := zero52
      obtain ⟨z5, hz5, y1, y2, y3⟩ := alloc52
      obtain ⟨hsz, hget⟩ := extract_head hm hlt hbuf
      refine WpN.seq (WpN.region ?_)
      simp only [List.size_toArray, List.length_cons, List.length_nil, Nat.reduceAdd, Nat.zero_add, List.range, List.range.loop]
      refine InR.value rfl rfl (by simp [go_sem, execOp, Act.eval]; exact ⟨rfl, rfl⟩) ?_
      refine InR.recv rfl rfl rfl Yba.underlying35 rfl (hz _) hch hsz ?_
      rw [hget]
      have hcw : c < wr.heap.size := (Array.getElem?_eq_some_iff.1 hch).1
      have hchW := heap_setChan wr c cap ((buf.extract k m).extract 1 (buf.extract k m).size) false s (r + k + 1) false hcw
      have hgW : w.grownBy (wr.setChan c cap ((buf.extract k m).extract 1 (buf.extract k m).size) false s (r + k + 1) false) (some c) :=
        ⟨hg.os, hg.tape, hg.output, by simpa [World.setChan] using hg.size, fun j hj hne => by
          rw [← hg.block j hj hne]
          simp only [World.setChan]
          rw [Array.getElem?_setIfInBounds_ne (by intro e; exact hne (by rw [e]))]⟩
      rw [extract_tail hm] at hchW hgW ⊢
      generalize wr.setChan c cap (buf.extract (k + 1) m) false s (r + k + 1) false = W at hchW hgW ⊢
      refine InR.alloc_of hz5 rfl rfl rfl ?_
      have hst := run_storeAt_row (P := Yba.prog) (W.alloc (.cells z5 52)) W.heap.size 52 52 z5 hv (heap_alloc_new _ _) (by rw [size52, htag.size]) (by rw [y1, htag.size]) htag.one
      rw [World.setRow_alloc_new] at hst
      refine InR.store_of (w' := W.alloc (.cells hv 52)) rfl rfl rfl hst ?_
      refine InR.done ?_
      show WpN _ _ _ _ _
      walk_nrm
      have t1 := htag.lo
      have t2 := htag.hi
      have t3 := htag.route
      have hor := or_bytes (ix k) hix
      clear hst hget hsz hz hz5 y1 y2 y3 hch hg hbuf htag hw
      refine WpN.of_wp ?_
      go_wp2_with fail
      refine WpN.of_wp ?_
      go_wp2_with fail
      refine hJ.out (m - (k + 1)) _ _ (by omega) ⟨k + 1, _, _, _, _, _, _, _, _, _, _, _, _, _, _, _, _, _, _, _, _, _, _, _, _, _, _, _, _, _, _, rfl, by omega, ?_, rfl, ?_, ?_⟩
      · go_num
      · rw [Below.heap_alloc _ _ _ ((Array.getElem?_eq_some_iff.1 hchW).1), hchW, Nat.add_assoc]
      · exact ⟨hgW.os, hgW.tape, hgW.output, by have := hgW.size; simp; omega, fun j hj hne => by
          rw [Below.heap_alloc _ _ _ (Nat.lt_of_lt_of_le hj hgW.size)]
          exact hgW.block j hj hne⟩
    · have hkm : k = m := by omega
      subst hkm
      have hlen2 := fun ty => run_len_chan (P := Yba.prog) 35 ty Yba.underlying35 hch
      have hsz0 : (buf.extract k k).size = 0 := by simp; omega
      rw [hsz0] at hlen2
      clear hw hlen hJ
      refine WpN.seq_wp fun K3 hK3 => ?_
      go_wp2_with fail
      refine WpN.seq_wp fun K3 hK3 => ?_
      go_wp2_with fail
      refine WpN.of_wp ?_
      go_wp2_with fail
      go_ret
      exact ⟨rfl, hg⟩
end Go.Proofs.Ybulkaigo
