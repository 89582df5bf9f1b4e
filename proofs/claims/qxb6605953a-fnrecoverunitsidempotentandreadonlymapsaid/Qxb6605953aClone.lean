/-
  zzBytes (the length's bound) and cloneBytes: the clone lies in one new block.
-/
import Derived.Test.Qxb6605953aProg
import Derived.WalkKit
import Derived.Below
import Derived.WalkLawsBesides
import Derived.Deep.OwnRows
import Derived.Lib.SliceRun
namespace Go.Proofs.Qxb6605953a.Clone
open Go.RowKit Go.Deep

/-- The clone's cells behind k rounds: the first k bytes are there, the others are nought. -/
def cl (x : Nat → Int) (n k : Nat) : Array Value := Array.ofFn (fun i : Fin n => Value.int .u8 (if i.val < k then x i.val else 0))
theorem cl_at (x : Nat → Int) (n k i : Nat) (h : i < n) : (cl x n k)[i]? = some (.int .u8 (if i < k then x i else 0)) := by
  simp [cl, h]
theorem cl_size (x : Nat → Int) (n k : Nat) : (cl x n k).size = n := by simp [cl]
theorem cl_zero (x : Nat → Int) (n : Nat) : madeCells #[Value.int .u8 0] n = cl x n 0 := by
  apply Array.ext (by simp [cl, size_madeCells])
  intro i h1 h2
  simp [cl, madeCells, Nat.mod_one]
theorem cl_set (x : Nat → Int) (n k : Nat) : (cl x n k).setIfInBounds k (.int .u8 (x k)) = cl x n (k + 1) := by
  apply Array.ext (by simp [cl])
  intro i h1 h2
  rw [Array.getElem_setIfInBounds (by simpa [cl] using h2)]
  simp only [cl, Array.getElem_ofFn]
  by_cases h : k = i
  · subst h; simp
  · by_cases h' : i < k
    · simp [h, h', show i < k + 1 by omega]
    · simp [h, h', show ¬ i < k + 1 by omega]

theorem info5 : (Try.prog.info? 5).map (fun i => (i.zero, i.size, i.bytes)) = some (some (.int .u8 0), 1, 1) := by kernel_rfl

set_option maxHeartbeats 1000000 in
theorem clone_nil (w : World) : Calls Try.prog 10 #[.slice none 0 0] w fun e w' => e = .returned (.slice none 0 0) ∧ w' = w := by
  have hn := fun w' => Lib.run_eql_slice_nil (P := Try.prog) w' 22 5 none 0 0 0 0 Try.underlying22
  go_enter Try.func10, Try.ntmps10
  go_wp2
  go_ret
  exact ⟨rfl, rfl⟩

set_option maxHeartbeats 1000000 in
theorem clone_empty (a : Addr) (c : Nat) (x : Nat → Int) (w : World) : Calls Try.prog 10 #[.slice (some a) 0 c] w fun e w' =>
    e = .returned (.slice (some ⟨w.heap.size, 0, none⟩) 0 0) ∧ w' = w.alloc (.cells (cl x 0 0) 5) := by
  have hn := fun w' => Lib.run_eql_slice_nil (P := Try.prog) w' 22 5 (some a) 0 c 0 0 Try.underlying22
  have hmk := run_make_row' (P := Try.prog) 22 5 (.int .u8 0) 1 Try.underlying22 info5 rfl .i64 .i64 0 (by omega) (by omega) w
  rw [cl_zero x] at hmk
  simp only [Int.natCast_zero] at hmk
  go_enter Try.func10, Try.ntmps10
  go_wp2
  refine wp_loop_rounds 1 ?_
  rw [rounds_succ]
  go_wp2
  go_ret
  exact ⟨rfl, rfl⟩

set_option maxHeartbeats 1000000 in
theorem clone_full (b off n c : Nat) (x : Nat → Int) (w : World) (h0 : 0 < n) (hm : (n : Int) ≤ 1048576) (hb : b < w.heap.size)
    (hc : ∀ i, i < n → w.cell? ⟨b, off + i, none⟩ = some (.int .u8 (x i))) :
    Calls Try.prog 10 #[.slice (some ⟨b, off, none⟩) n c] w fun e w' =>
    e = .returned (.slice (some ⟨w.heap.size, 0, none⟩) n n) ∧ w' = w.alloc (.cells (cl x n n) 5) := by
  have hn := fun w' => Lib.run_eql_slice_nil (P := Try.prog) w' 22 5 (some ⟨b, off, none⟩) n c 0 0 Try.underlying22
  have hmk := run_make_row' (P := Try.prog) 22 5 (.int .u8 0) 1 Try.underlying22 info5 rfl .i64 .i64 n (by omega) (by omega) w
  rw [cl_zero x] at hmk
  go_enter Try.func10, Try.ntmps10
  go_wp2
  go_loopw [4] (fun i wr => ∃ k : Nat, k ≤ n ∧ i = .int .i64 k ∧ wr = w.alloc (.cells (cl x n k) 5)) (fun i _ => n - (intOf i).toNat)
  case atStart => exact ⟨0, by omega, rfl, rfl⟩
  case round =>
    obtain ⟨k, hk, rfl, rfl⟩ := hrel
    clear hmk hn
    by_cases hlt : k < n
    · have ck := hc k hlt
      have cw := cl_at x n k k hlt
      rw [if_neg (by omega)] at cw
      have cs := cl_set x n k
      go_wp2
      go_roundw
      case rel => exact ⟨k + 1, by omega, by go_num, rfl⟩
      case measure => simp [intOf]; omega
    · obtain rfl : k = n := by omega
      go_wp2
      go_ret
      exact ⟨rfl, rfl⟩
end Go.Proofs.Qxb6605953a.Clone
