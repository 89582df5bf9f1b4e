/-
  One option applied: ZZapplyWhere.
-/
import Derived.Test.Qxb6606012aWhereA
import Derived.Deep.OwnRows
namespace Go.Proofs.Qxb6606012a.Whr
open Go.RowKit Go.Deep

theorem info20 : (Try.prog.info? 20).map (fun i => (i.zero, i.size, i.bytes)) = some (some .nilIface, 1, 16) := by kernel_rfl

theorem made1 : madeCells #[Value.nilIface] 1 = #[Value.nilIface] := by
  apply Array.ext (by simp [size_madeCells])
  intro i h1 h2
  simp [madeCells, Nat.mod_one]

@[local go_sem] theorem eqlF (a b : Array Value) (w : World) : Sem.run Try.prog (binOp BinOp.eql 44 (Value.func (Fn.func 19) a b) Value.nilFunc) w = .ok (.bool false) w := by kernel_rfl

set_option maxHeartbeats 1000000 in
theorem whereF (c : ByteArray) (A : Nat) (w : World) : Calls Try.prog 18 #[.string c, .slice (some ⟨A, 0, none⟩) 1 1] w fun e w' =>
    e = .returned (.func (.func 19) #[] #[.pointer (some ⟨w.heap.size, 0, none⟩), .pointer (some ⟨w.heap.size + 1, 0, none⟩)]) ∧
      w' = (w.alloc (.cells #[.string c] 9)).alloc (.cells #[.slice (some ⟨A, 0, none⟩) 1 1] 42) := by
  go_enter Try.func18, Try.ntmps18
  go_wp2
  go_ret
  exact ⟨rfl, rfl⟩

theorem sz (w : World) (o : Obj) : (w.alloc o).heap.size = w.heap.size + 1 := by simp
theorem three_old (w : World) (b0 b1 b2 : Obj) (i : Nat) (h : i < w.heap.size) : (((w.alloc b0).alloc b1).alloc b2).heap[i]? = w.heap[i]? := by
  rw [Below.heap_alloc _ _ _ (by rw [sz, sz]; omega), Below.heap_alloc _ _ _ (by rw [sz]; omega), Below.heap_alloc _ _ _ h]
theorem three_0 (w : World) (b0 b1 b2 : Obj) : (((w.alloc b0).alloc b1).alloc b2).heap[w.heap.size]? = some b0 := by
  rw [Below.heap_alloc _ _ _ (by rw [sz, sz]; omega), Below.heap_alloc _ _ _ (by rw [sz]; omega), heap_alloc_new]
theorem three_1 (w : World) (b0 b1 b2 : Obj) : (((w.alloc b0).alloc b1).alloc b2).heap[w.heap.size + 1]? = some b1 := by
  rw [Below.heap_alloc _ _ _ (by rw [sz, sz]; omega), ← sz w b0, heap_alloc_new]
theorem three_2 (w : World) (b0 b1 b2 : Obj) : (((w.alloc b0).alloc b1).alloc b2).heap[w.heap.size + 1 + 1]? = some b2 := by
  rw [← sz w b0, ← sz (w.alloc b0) b1, heap_alloc_new]

set_option maxRecDepth 100000 in
set_option maxHeartbeats 3200000 in
theorem apply1 (Q ib B k : Nat) (c : ByteArray) (ov : Value) (n : Nat) (xs : List Value) (w : World)
    (hQ : w.heap[Q]? = some (.cells (qcells ov) 41 (0, 0))) (hib : w.cell? ⟨ib, 0, none⟩ = some (.int .i64 k))
    (hown : w.ownsRow B 47 2 ov n xs) (hB : B ≤ w.heap.size) (hn : n ≤ 65536) (aQ : ov.ownBlock ≠ some Q) :
    Calls Try.prog 12 #[.pointer (some ⟨Q, 0, none⟩), .string c, .slice (some ⟨ib, 0, none⟩) 1 1] w fun e w' =>
      e = .returned (.bool true) ∧ ∃ v w1, w' = w1.setCell ⟨Q, 0, none⟩ v ∧ w1.ownsRow B 47 2 v (n + 1) (xs ++ [.string c, .slice (some ⟨w.heap.size, 0, none⟩) 1 1]) ∧
        w.grownBy w1 ov.ownBlock ∧ w1.heap[Q]? = some (.cells (qcells ov) 41 (0, 0)) ∧ w1.heap[w.heap.size]? = some (.cells #[.iface 3 (.int .i64 k)] 20 (0, 0)) := by
  have hmk := run_make_row' (P := Try.prog) 42 20 .nilIface 16 Try.underlying42 info20 rfl .i64 .i64 1 (by omega) (by omega) w
  simp only [Int.natCast_one, made1] at hmk
  have lib := World.block_lt_of_cell? w _ hib
  have lQ : Q < w.heap.size := by
    rcases Nat.lt_or_ge Q w.heap.size with h | h
    · exact h
    · rw [Array.getElem?_eq_none h] at hQ; cases hQ
  have aH : some w.heap.size ≠ ov.ownBlock := fun h => by
    have := (hown.lt _ h.symm).2
    omega
  go_enter Try.func12, Try.ntmps12
  go_wp2
  refine wp_loop_rounds 2 ?_
  rw [rounds_succ]
  go_wp2
  rw [rounds_succ]
  go_wp2_with fail
  refine (whereF c w.heap.size _).mono ?_
  rintro e w' ⟨rfl, rfl⟩
  clear hmk hib
  go_wp2_with fail
  refine (where1 Q (w.heap.size + 1) (w.heap.size + 1 + 1) w.heap.size B c ov n xs _ ((three_old w _ _ _ Q lQ).trans hQ)
    ((cell_of_row _ _ 0 _ 9 _ (three_1 w _ _ _)).trans rfl) ((cell_of_row _ _ 0 _ 42 _ (three_2 w _ _ _)).trans rfl) (((hown.alloc _).alloc _).alloc _) (by rw [sz, sz, sz]; omega) hn aQ).mono ?_
  rintro e w' ⟨rfl, v, w1, rfl, ho, hg, hq⟩
  go_wp2
  go_ret
  refine ⟨rfl, v, w1, rfl, ho, ⟨hg.os, hg.tape, hg.output, Nat.le_trans (by rw [sz, sz, sz]; omega) hg.size, fun i hi hne => ?_⟩, hq, ?_⟩
  · exact (hg.block i (by rw [sz, sz, sz]; omega) hne).trans (three_old w _ _ _ i hi)
  · exact (hg.block w.heap.size (by rw [sz, sz, sz]; omega) aH).trans (three_0 w _ _ _)
end Go.Proofs.Qxb6606012a.Whr
