/-
  Contracts of the callees of Succeeded, the leaves: Uint32, Uint64: some number; nothing that was there has turned.
-/
import Derived.Test.Qxb6605953aProg
import Derived.WalkKit
import Derived.Below
import Derived.RegionTactic
import Derived.Deep.QuietTactic
import Derived.BigQuiet
import Derived.WalkLawsBesides
namespace Go.Proofs.Qxb6605953a.Sens
open Go.RowKit

theorem setCell_drewN {w : World} (n : Nat) (a : Addr) (v : Value) : (w.drewN n).setCell a v = (w.setCell a v).drewN n := rfl
theorem alloc_drewN {w : World} (n : Nat) (o : Obj) : (w.drewN n).alloc o = (w.alloc o).drewN n := rfl

set_option maxHeartbeats 1000000 in
set_option maxRecDepth 100000 in
theorem uint32_any (g o n c : Nat) (x0 x1 x2 x3 : Int) (w : World) (hn : (4 : Int) ≤ (n : Int)) (hg : g < w.heap.size)
    (c0 : w.cell? ⟨g, o, none⟩ = some (.int .u8 x0)) (c1 : w.cell? ⟨g, o + 1, none⟩ = some (.int .u8 x1))
    (c2 : w.cell? ⟨g, o + 2, none⟩ = some (.int .u8 x2)) (c3 : w.cell? ⟨g, o + 3, none⟩ = some (.int .u8 x3)) :
    Calls Try.prog 28 #[.agg #[], .slice (some ⟨g, o, none⟩) n c] w fun e w' => ∃ v nq, e = .returned (.int .u32 v) ∧ w' = (w.alloc (.cells #[] 88)).drewN nq := by
  have l0 : (0 : Int) < (n : Int) := by omega
  have l1 : (1 : Int) < (n : Int) := by omega
  have l2 : (2 : Int) < (n : Int) := by omega
  have l3 : (3 : Int) < (n : Int) := by omega
  go_enter Try.func28, Try.ntmps28
  go_wp2
  go_quiet (fail)
  go_wp2
  go_ret
  exact ⟨_, _, rfl, rfl⟩

set_option maxHeartbeats 1000000 in
set_option maxRecDepth 100000 in
theorem uint64_any (g o n c : Nat) (x0 x1 x2 x3 x4 x5 x6 x7 : Int) (w : World) (hn : (8 : Int) ≤ (n : Int)) (hg : g < w.heap.size)
    (c0 : w.cell? ⟨g, o, none⟩ = some (.int .u8 x0)) (c1 : w.cell? ⟨g, o + 1, none⟩ = some (.int .u8 x1))
    (c2 : w.cell? ⟨g, o + 2, none⟩ = some (.int .u8 x2)) (c3 : w.cell? ⟨g, o + 3, none⟩ = some (.int .u8 x3))
    (c4 : w.cell? ⟨g, o + 4, none⟩ = some (.int .u8 x4)) (c5 : w.cell? ⟨g, o + 5, none⟩ = some (.int .u8 x5))
    (c6 : w.cell? ⟨g, o + 6, none⟩ = some (.int .u8 x6)) (c7 : w.cell? ⟨g, o + 7, none⟩ = some (.int .u8 x7)) :
    Calls Try.prog 29 #[.agg #[], .slice (some ⟨g, o, none⟩) n c] w fun e w' => ∃ v nq, e = .returned (.int .u64 v) ∧ w' = (w.alloc (.cells #[] 88)).drewN nq := by
  have l0 : (0 : Int) < (n : Int) := by omega
  have l1 : (1 : Int) < (n : Int) := by omega
  have l2 : (2 : Int) < (n : Int) := by omega
  have l3 : (3 : Int) < (n : Int) := by omega
  have l4 : (4 : Int) < (n : Int) := by omega
  have l5 : (5 : Int) < (n : Int) := by omega
  have l6 : (6 : Int) < (n : Int) := by omega
  have l7 : (7 : Int) < (n : Int) := by omega
  go_enter Try.func29, Try.ntmps29
  go_wp2
  go_quiet (fail)
  go_wp2
  go_ret
  exact ⟨_, _, rfl, rfl⟩
end Go.Proofs.Qxb6605953a.Sens
