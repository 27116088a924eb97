/-
  (*Register).layout: contracts, for writing and for reading.
-/
import Derived.Test.YbulkaigoCBytes
namespace Go.Proofs.Ybulkaigo
open Go.RowKit

theorem row_news {w : World} {mb : Nat} {C : Array Value} (hm : w.heap[mb]? = some (.cells C 61 (0, 0))) (o n : Nat) : ∀ j u, ((C.toList.drop o).take n)[j]? = some u → w.cell? ⟨mb, o + j, none⟩ = some u := by
  intro j u hj
  rw [List.getElem?_take] at hj
  split at hj
  · rw [List.getElem?_drop] at hj
    simp [World.cell?, hm]
    simpa using hj
  · cases hj

set_option maxHeartbeats 400000 in
set_option maxRecDepth 100000 in
/-- Writing: the 64 bytes of the message are appended to c.out. -/
theorem layout_w (w : World) (N cb mb : Nat) (v : Value) (L : List Value) (C : Array Value) (hm : w.heap[mb]? = some (.cells C 61 (0, 0))) (hC : C.size = 64) (hone : ∀ u ∈ C.toList, u.oneCell' = true) (hsm : L.length ≤ 2048) (hcb : cb < w.heap.size) (hmc : mb ≠ cb)
    (hrc : some cb ≠ v.ownBlock) (hrm : some mb ≠ v.ownBlock) (hN : N ≤ w.heap.size)
    (h0 : w.cell? ⟨cb, 0, none⟩ = some (.bool false)) (h2 : w.cell? ⟨cb, 2, none⟩ = some v) (f2 : w.frozen? ⟨cb, 2, none⟩ = false) (hown : w.ownsRow N 5 1 v L.length L) :
    Calls Yba.prog 12 #[.pointer (some ⟨mb, 0, none⟩), .pointer (some ⟨cb, 0, none⟩)] w fun e w' => e = .returned (.tuple #[]) ∧ Wrote v.ownBlock cb w w' ∧ ∃ v', w'.cell? ⟨cb, 2, none⟩ = some v' ∧ w'.ownsRow N 5 1 v' (L ++ C.toList).length (L ++ C.toList) ∧ Lies w v.ownBlock v'.ownBlock := by
  have hmb : mb < w.heap.size := (Array.getElem?_eq_some_iff.1 hm).1
  have hlen : C.toList.length = 64 := by simpa using hC
  have hsub : ∀ o n, ∀ u ∈ (C.toList.drop o).take n, u.oneCell' = true := fun o n u hu => hone u (List.mem_of_mem_drop (List.mem_of_mem_take hu))
  have e1 : ((C.toList.drop 0).take 32).length = 32 := by simp; omega
  have e2 : ((C.toList.drop 32).take 16).length = 16 := by simp; omega
  have e3 : ((C.toList.drop 48).take 16).length = 16 := by simp; omega
  have hsplit : L ++ (C.toList.drop 0).take 32 ++ (C.toList.drop 32).take 16 ++ (C.toList.drop 48).take 16 = L ++ C.toList := by
    have a1 : (C.toList.drop 48).take 16 = C.toList.drop 48 := List.take_of_length_le (by simp; omega)
    have a2 : (C.toList.drop 32).take 16 ++ C.toList.drop 48 = C.toList.drop 32 := by
      have := List.take_append_drop 16 (C.toList.drop 32)
      rwa [List.drop_drop] at this
    have a3 : (C.toList.drop 0).take 32 ++ C.toList.drop 32 = C.toList := by
      rw [List.drop_zero]; exact List.take_append_drop 32 _
    rw [a1, List.append_assoc, a2, List.append_assoc, a3]
  have HSp : Hid (L ++ (C.toList.drop 0).take 32 ++ (C.toList.drop 32).take 16 ++ (C.toList.drop 48).take 16 = L ++ C.toList) := hsplit
  clear hsplit
  have HRC : Hid (some cb ≠ v.ownBlock ∧ some mb ≠ v.ownBlock) := ⟨hrc, hrm⟩
  clear hrc hrm
  go_enter Yba.func12, Yba.ntmps12
  go_wp2_with fail
  refine (bytes_w w N cb mb 0 32 v L ((C.toList.drop 0).take 32) e1 (hsub 0 32) (by omega) hcb HRC.out.1 hN h0 h2 f2 hown (row_news hm 0 32)).mono ?_
  rintro e w1 ⟨rfl, k1, v1, g1, o1, i1⟩
  have K1 : Hid (Wrote v.ownBlock cb w w1 ∧ Lies w v.ownBlock v1.ownBlock) := ⟨k1, i1⟩
  have s1 : w.heap.size ≤ w1.heap.size := k1.size
  have l1 : (L ++ (C.toList.drop 0).take 32).length = L.length + 32 := by rw [List.length_append, e1]
  have G1 : Hid (w1.cell? ⟨cb, 2, none⟩ = some v1 ∧ w1.ownsRow N 5 1 v1 (L ++ (C.toList.drop 0).take 32).length (L ++ (C.toList.drop 0).take 32)) := ⟨g1, o1⟩
  have L1 : Hid ((L ++ (C.toList.drop 0).take 32).length = L.length + 32) := l1
  clear k1 g1 o1 l1 i1
  go_wp2_with fail
  refine (bytes_w w1 N cb mb 32 16 v1 (L ++ (C.toList.drop 0).take 32) ((C.toList.drop 32).take 16) e2 (hsub 32 16) (by rw [L1.out]; omega) (by omega) (K1.out.2.ne hcb HRC.out.1) (by omega) ((K1.out.1.cells 0 (by omega)).trans h0) G1.out.1 ((K1.out.1.frozen 2).trans f2) G1.out.2 (row_news ((K1.out.1.block mb hmb hmc HRC.out.2).trans hm) 32 16)).mono ?_
  rintro e w2 ⟨rfl, k2, v2, g2, o2, i2⟩
  have K2 : Hid (Wrote v.ownBlock cb w w2 ∧ Lies w v.ownBlock v2.ownBlock) := ⟨K1.out.1.trans K1.out.2 k2, K1.out.2.trans i2 s1⟩
  have s2 : w1.heap.size ≤ w2.heap.size := k2.size
  have l2 : (L ++ (C.toList.drop 0).take 32 ++ (C.toList.drop 32).take 16).length = L.length + 48 := by rw [List.length_append, L1.out, e2]
  have G2 : Hid (w2.cell? ⟨cb, 2, none⟩ = some v2 ∧ w2.ownsRow N 5 1 v2 (L ++ (C.toList.drop 0).take 32 ++ (C.toList.drop 32).take 16).length (L ++ (C.toList.drop 0).take 32 ++ (C.toList.drop 32).take 16)) := ⟨g2, o2⟩
  have L2 : Hid ((L ++ (C.toList.drop 0).take 32 ++ (C.toList.drop 32).take 16).length = L.length + 48) := l2
  clear k2 g2 o2 l2 i2
  go_wp2_with fail
  refine (bytes_w w2 N cb mb 48 16 v2 (L ++ (C.toList.drop 0).take 32 ++ (C.toList.drop 32).take 16) ((C.toList.drop 48).take 16) e3 (hsub 48 16) (by rw [L2.out]; omega) (by omega) (K2.out.2.ne hcb HRC.out.1) (by omega) ((K2.out.1.cells 0 (by omega)).trans h0) G2.out.1 ((K2.out.1.frozen 2).trans f2) G2.out.2 (row_news ((K2.out.1.block mb hmb hmc HRC.out.2).trans hm) 48 16)).mono ?_
  rintro e w3 ⟨rfl, k3, v3, g3, o3, i3⟩
  rw [HSp.out] at o3
  have G3 : Hid (Wrote v.ownBlock cb w w3 ∧ w3.cell? ⟨cb, 2, none⟩ = some v3 ∧ w3.ownsRow N 5 1 v3 (L ++ C.toList).length (L ++ C.toList) ∧ Lies w v.ownBlock v3.ownBlock) := ⟨K2.out.1.trans K2.out.2 k3, g3, o3, K2.out.2.trans i3 (by omega)⟩
  clear k3 g3 o3 i3
  go_wp2_with fail
  go_end0
  exact ⟨rfl, G3.out.1, v3, G3.out.2⟩

end Go.Proofs.Ybulkaigo
