/-
  The small readers of a query, and the maker of one.
-/
import Derived.Test.Qxb6606012aWhereA
namespace Go.Proofs.Qxb6606012a.Whr
open Go.RowKit

@[local go_sem] theorem assert3 (v : Value) (w : World) : (Instr.typeAssert (.iface 3 v) 20 3 true).run Try.prog w = .ok (.tuple #[v, .bool true]) w := by kernel_rfl

set_option maxHeartbeats 1000000 in
theorem newQ (w : World) : Calls Try.prog 11 #[] w fun e w' => e = .returned (.pointer (some ⟨w.heap.size, 0, none⟩)) ∧ w' = w.alloc (.cells (qcells (.slice none 0 0)) 41) := by
  go_enter Try.func11, Try.ntmps11
  go_wp2
  go_ret
  exact ⟨rfl, rfl⟩

set_option maxHeartbeats 1000000 in
theorem count (Q k cap : Nat) (R : Option Addr) (w : World) (hQ : w.cell? ⟨Q, 0, none⟩ = some (.slice R k cap)) :
    Calls Try.prog 13 #[.pointer (some ⟨Q, 0, none⟩)] w fun e w' => e = .returned (.int .i64 k) ∧ w' = w := by
  go_enter Try.func13, Try.ntmps13
  go_wp2
  go_ret
  exact ⟨rfl, rfl⟩

set_option maxHeartbeats 1000000 in
theorem sqlAt (Q g k cap i : Nat) (c : ByteArray) (w : World) (hi : i < k) (hQ : w.cell? ⟨Q, 0, none⟩ = some (.slice (some ⟨g, 0, none⟩) k cap))
    (h0 : w.cell? ⟨g, i * 2, none⟩ = some (.string c)) :
    Calls Try.prog 14 #[.pointer (some ⟨Q, 0, none⟩), .int .i64 i] w fun e w' => e = .returned (.string c) ∧ w' = w := by
  go_enter Try.func14, Try.ntmps14
  go_wp2
  go_ret
  exact ⟨rfl, rfl⟩

set_option maxHeartbeats 1000000 in
theorem argCount (Q g k cap i : Nat) (R : Option Addr) (w : World) (hi : i < k) (hQ : w.cell? ⟨Q, 0, none⟩ = some (.slice (some ⟨g, 0, none⟩) k cap))
    (h0 : w.cell? ⟨g, i * 2 + 1, none⟩ = some (.slice R 1 1)) :
    Calls Try.prog 15 #[.pointer (some ⟨Q, 0, none⟩), .int .i64 i] w fun e w' => e = .returned (.int .i64 1) ∧ w' = w := by
  go_enter Try.func15, Try.ntmps15
  go_wp2
  go_ret
  exact ⟨rfl, rfl⟩

set_option maxHeartbeats 1000000 in
theorem argInt (Q g A k cap i : Nat) (w : World) (hi : i < k) (hQ : w.cell? ⟨Q, 0, none⟩ = some (.slice (some ⟨g, 0, none⟩) k cap))
    (h0 : w.cell? ⟨g, i * 2 + 1, none⟩ = some (.slice (some ⟨A, 0, none⟩) 1 1)) (h1 : w.cell? ⟨A, 0, none⟩ = some (.iface 3 (.int .i64 i))) :
    Calls Try.prog 16 #[.pointer (some ⟨Q, 0, none⟩), .int .i64 i, .int .i64 0] w fun e w' => e = .returned (.tuple #[.int .i64 i, .bool true]) ∧ w' = w := by
  go_enter Try.func16, Try.ntmps16
  go_wp2
  go_ret2
  exact ⟨rfl, rfl⟩
end Go.Proofs.Qxb6606012a.Whr
