/-
  Where's option: it appends one condition to the query's own row.
-/
import Derived.Test.Qxb6606012aProg
import Derived.Tactics
import Derived.Tactics2
import Derived.WalkKit
import Derived.WalkSpells
import Derived.StillTactics
import Derived.OwnWalk
import Derived.Below
import Derived.Laws.Pointers
import Derived.Deep.RegionLaw
import Derived.Deep.AppendLies
import Derived.KernelRfl
namespace Go.Proofs.Qxb6606012a.Whr
open Go.RowKit

theorem info47 : (Try.prog.info? 47).map (fun i => (i.zero, i.size, i.bytes)) = some (some (.agg #[.string ⟨#[]⟩, .slice none 0 0]), 2, 40) := by kernel_rfl

/-- The query's block: its conditions lie in the slice v. -/
def qcells (v : Value) : Array Value := #[v, .slice none 0 0, .int .i64 (-1), .slice none 0 0, .nilIface]

theorem cell_da (w : World) (o : Obj) (a : Addr) (h : a.block < w.heap.size) : (w.alloc o).drew.cell? a = w.cell? a := World.cell?_of_block (w := w) (Below.heap_alloc w o _ h)
theorem frozen_da (w : World) (o : Obj) (a : Addr) (h : a.block < w.heap.size) : (w.alloc o).drew.frozen? a = w.frozen? a := World.frozen?_of_block (w := w) (Below.heap_alloc w o _ h)

set_option maxRecDepth 100000 in
set_option maxHeartbeats 3200000 in
theorem where1 (Q cb ab A B : Nat) (c : ByteArray) (ov : Value) (n : Nat) (xs : List Value) (w : World)
    (hQ : w.heap[Q]? = some (.cells (qcells ov) 41 (0, 0))) (hc : w.cell? ⟨cb, 0, none⟩ = some (.string c))
    (ha : w.cell? ⟨ab, 0, none⟩ = some (.slice (some ⟨A, 0, none⟩) 1 1))
    (hown : w.ownsRow B 47 2 ov n xs) (hB : B ≤ w.heap.size) (hn : n ≤ 65536)
    (aQ : ov.ownBlock ≠ some Q) :
    Calls Try.prog 19 #[.pointer (some ⟨Q, 0, none⟩), .pointer (some ⟨cb, 0, none⟩), .pointer (some ⟨ab, 0, none⟩)] w fun e w' =>
      e = .returned (.tuple #[]) ∧ ∃ v w1, w' = w1.setCell ⟨Q, 0, none⟩ v ∧ w1.ownsRow B 47 2 v (n + 1) (xs ++ [.string c, .slice (some ⟨A, 0, none⟩) 1 1]) ∧
        w.grownBy w1 ov.ownBlock ∧ w1.heap[Q]? = some (.cells (qcells ov) 41 (0, 0)) := by
  obtain ⟨i0, hi0, hz0, hz1, hz2⟩ := info_parts info47
  have hQc : w.cell? ⟨Q, 0, none⟩ = some ov := by rw [cell_of_row w Q 0 _ 41 _ hQ]; rfl
  have hQf : w.frozen? ⟨Q, 0, none⟩ = false := by simp [World.frozen?, hQ]
  have lQ := World.block_lt_of_cell? w _ hQc
  have lc := World.block_lt_of_cell? w _ hc
  have la := World.block_lt_of_cell? w _ ha
  have hm : n + 1 ≤ maxLen := by unfold maxLen; omega
  have dQ : (w.alloc (.cells #[.string c, .slice (some ⟨A, 0, none⟩) 1 1] 47)).drew.cell? ⟨Q, 0, none⟩ = some ov := (cell_da _ _ _ lQ).trans hQc
  have dQ' : (w.alloc (.cells #[.string c, .slice (some ⟨A, 0, none⟩) 1 1] 47)).cell? ⟨Q, 0, none⟩ = some ov := (cell_da _ _ _ lQ).trans hQc
  go_enter Try.func19, Try.ntmps19
  go_wp2_with fail
  go_region_law
    ((refine step_append_lies _ (by rfl) _ _ _ (by rfl) B 47 i0 _ 2 40 Try.underlying37 hi0 hz0 hz1 hz2 rfl (by omega) ov n xs (by rfl) ((hown.alloc _).drew)
        ⟨w.heap.size, 0, none⟩ 1 1 [.string c, .slice (some ⟨A, 0, none⟩) 1 1] (by rfl) (by rfl) (World.news_of_block (cs := #[.string c, .slice (some ⟨A, 0, none⟩) 1 1]) (t := 47) (fr := (0, 0)) (heap_alloc_new w _)) (by simp [Value.oneCell'])
        (by omega) hm (by omega) (by simp; omega) (w.heap.size + 1) (by simp) ?_
      intro gg cap w1 hown1 hgrow hat hlt
      have eQ : w1.cell? ⟨Q, 0, none⟩ = some ov := (hgrow.cell_far ⟨Q, 0, none⟩ (by simp; omega) (Ne.symm aQ)).trans dQ
      have eF : w1.frozen? ⟨Q, 0, none⟩ = false := (hgrow.frozen_far ⟨Q, 0, none⟩ (by simp; omega) (Ne.symm aQ)).trans ((frozen_da _ _ _ lQ).trans hQf)))
  all_goals
    go_end0
    refine ⟨rfl, _, w1, rfl, hown1, ⟨hgrow.os, hgrow.tape, hgrow.output, Nat.le_trans (by simp) hgrow.size, fun k hk hne => ?_⟩, ?_⟩
    · exact (hgrow.block k (by simp; omega) hne).trans (Below.heap_alloc w _ k hk)
    · exact (hgrow.block Q (by simp; omega) (Ne.symm aQ)).trans ((Below.heap_alloc w _ Q lQ).trans hQ)
end Go.Proofs.Qxb6606012a.Whr
