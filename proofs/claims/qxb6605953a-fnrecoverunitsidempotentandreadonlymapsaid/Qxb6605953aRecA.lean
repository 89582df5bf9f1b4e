/-
  Contracts of the small callees: the lengths' bound, cloneFailures, unitOf, ZZcmd, ZZrecovered, ZZnewFailure, recoveredModel.
-/
import Derived.Test.Qxb6605953aProg
import Derived.WalkKit
import Derived.Below
import Derived.WalkLawsBesides
import Derived.Deep.OwnRows
import Derived.Lib.SliceRun
namespace Go.Proofs.Qxb6605953a.Rec
open Go.RowKit Go.Deep

/-- The clone's cells behind k rounds. -/
def clf (d : Nat → Int) (r : Nat → Bool) (n k : Nat) : Array Value :=
  Array.ofFn (fun i : Fin (n * 2) => if i.val % 2 = 0 then Value.int .i64 (if i.val / 2 < k then d (i.val / 2) else 0) else .bool (if i.val / 2 < k then r (i.val / 2) else false))
theorem clf_at0 (d : Nat → Int) (r : Nat → Bool) (n k i : Nat) (h : i < n) : (clf d r n k)[i * 2]? = some (.int .i64 (if i < k then d i else 0)) := by
  simp [clf, show i * 2 < n * 2 by omega]
theorem clf_at1 (d : Nat → Int) (r : Nat → Bool) (n k i : Nat) (h : i < n) : (clf d r n k)[i * 2 + 1]? = some (.bool (if i < k then r i else false)) := by
  have h1 : i * 2 + 1 < n * 2 := by omega
  have h2 : (i * 2 + 1) % 2 = 1 := by omega
  have h3 : (i * 2 + 1) / 2 = i := by omega
  simp [clf, h1, h2, h3]
theorem clf_zero (d : Nat → Int) (r : Nat → Bool) (n : Nat) : madeCells #[Value.int .i64 0, .bool false] (n * 2) = clf d r n 0 := by
  apply Array.ext (by simp [clf, size_madeCells])
  intro i h1 h2
  have : i % 2 = 0 ∨ i % 2 = 1 := by omega
  rcases this with h | h <;> simp [clf, madeCells, h]
theorem clf_set (d : Nat → Int) (r : Nat → Bool) (n k : Nat) : ((clf d r n k).setIfInBounds (k * 2) (.int .i64 (d k))).setIfInBounds (k * 2 + 1) (.bool (r k)) = clf d r n (k + 1) := by
  apply Array.ext (by simp [clf])
  intro i h1 h2
  have hi : i < n * 2 := by simpa [clf] using h2
  rw [Array.getElem_setIfInBounds (by simpa [clf] using hi), Array.getElem_setIfInBounds (by simpa [clf] using hi)]
  simp only [clf, Array.getElem_ofFn]
  by_cases e1 : k * 2 + 1 = i
  · subst e1
    have h2 : (k * 2 + 1) % 2 = 1 := by omega
    have h3 : (k * 2 + 1) / 2 = k := by omega
    simp [h2, h3]
  · by_cases e0 : k * 2 = i
    · subst e0
      have h2 : (k * 2) % 2 = 0 := by omega
      have h3 : (k * 2) / 2 = k := by omega
      simp [h2, h3]
    · have hne : i / 2 ≠ k := by omega
      have hlt : (i / 2 < k + 1) = (i / 2 < k) := by rw [eq_iff_iff]; omega
      simp only [if_neg e1, if_neg e0, hlt]

theorem info67 : (Try.prog.info? 67).map (fun i => (i.zero, i.size, i.bytes)) = some (some (.agg #[.int .i64 0, .bool false]), 2, 16) := by kernel_rfl
theorem make67 (n : Nat) (h : n ≤ 1048576) (w : World) : (Instr.makeSlice 31 (.int .i64 (n : Int)) (.int .i64 (n : Int))).run Try.prog w =
    .ok (.slice (some ⟨w.heap.size, 0, none⟩) n n) (w.alloc (.cells (madeCells #[.int .i64 0, .bool false] (n * 2)) 67)) := by
  obtain ⟨i, hi, hz⟩ := Option.map_eq_some_iff.1 info67
  simp only [Prod.mk.injEq] at hz
  obtain ⟨hz, hs, hb⟩ := hz
  have hr := run_make (P := Try.prog) w 31 67 i _ Try.underlying31 hi hz .i64 .i64 n n (by omega) (Int.le_refl _) (by rw [hb]; omega) (by omega)
  simpa [hs, Value.cells] using hr

set_option maxHeartbeats 1000000 in
theorem clonef_nil (w : World) : Calls Try.prog 14 #[.slice none 0 0] w fun e w' => e = .returned (.slice none 0 0) ∧ w' = w := by
  have hn := fun w' => Lib.run_eql_slice_nil (P := Try.prog) w' 31 67 none 0 0 0 0 Try.underlying31
  go_enter Try.func14, Try.ntmps14
  go_wp2
  go_ret
  exact ⟨rfl, rfl⟩

set_option maxHeartbeats 1000000 in
theorem clonef_empty (a : Addr) (c : Nat) (d : Nat → Int) (r : Nat → Bool) (w : World) : Calls Try.prog 14 #[.slice (some a) 0 c] w fun e w' =>
    e = .returned (.slice (some ⟨w.heap.size, 0, none⟩) 0 0) ∧ w' = w.alloc (.cells (clf d r 0 0) 67) := by
  have hn := fun w' => Lib.run_eql_slice_nil (P := Try.prog) w' 31 67 (some a) 0 c 0 0 Try.underlying31
  have hmk := make67 0 (by omega) w
  rw [clf_zero d r] at hmk
  simp only [Int.natCast_zero] at hmk
  go_enter Try.func14, Try.ntmps14
  go_wp2
  refine wp_loop_rounds 1 ?_
  rw [rounds_succ]
  go_wp2
  go_ret
  exact ⟨rfl, rfl⟩

set_option maxHeartbeats 1000000 in
theorem clonef_full (b off n c : Nat) (d : Nat → Int) (r : Nat → Bool) (w : World) (h0 : 0 < n) (hm : (n : Int) ≤ 1048576) (hb : b < w.heap.size)
    (hc0 : ∀ i, i < n → w.cell? ⟨b, off + i * 2, none⟩ = some (.int .i64 (d i))) (hc1 : ∀ i, i < n → w.cell? ⟨b, off + i * 2 + 1, none⟩ = some (.bool (r i))) :
    Calls Try.prog 14 #[.slice (some ⟨b, off, none⟩) n c] w fun e w' =>
    e = .returned (.slice (some ⟨w.heap.size, 0, none⟩) n n) ∧ w' = w.alloc (.cells (clf d r n n) 67) := by
  have hn := fun w' => Lib.run_eql_slice_nil (P := Try.prog) w' 31 67 (some ⟨b, off, none⟩) n c 0 0 Try.underlying31
  have hmk := make67 n (by omega) w
  rw [clf_zero d r] at hmk
  go_enter Try.func14, Try.ntmps14
  go_wp2
  go_loopw [4] (fun i wr => ∃ k : Nat, k ≤ n ∧ i = .int .i64 k ∧ wr = w.alloc (.cells (clf d r n k) 67)) (fun i _ => n - (intOf i).toNat)
  case atStart => exact ⟨0, by omega, rfl, rfl⟩
  case round =>
    obtain ⟨k, hk, rfl, rfl⟩ := hrel
    clear hmk hn
    by_cases hlt : k < n
    · have ck0 := hc0 k hlt
      have ck1 := hc1 k hlt
      have cw0 := clf_at0 d r n k k hlt
      rw [if_neg (by omega)] at cw0
      have cw1 := clf_at1 d r n k k hlt
      rw [if_neg (by omega)] at cw1
      have cs := clf_set d r n k
      go_wp2
      go_roundw
      case rel => exact ⟨k + 1, by omega, by go_num, rfl⟩
      case measure => simp [intOf]; omega
    · obtain rfl : k = n := by omega
      go_wp2
      go_ret
      exact ⟨rfl, rfl⟩

theorem bytesR_yes (a b : Option Addr) (m n c c' : Nat) (w : World) (h : (m : Int) + (n : Int) ≤ 1048576) :
    Calls Try.prog 13 #[.slice a m c, .slice b n c'] w fun e w' => e = .returned (.bool true) ∧ w' = w := by
  go_enter Try.func13, Try.ntmps13
  go_wp2
  go_ret
  exact ⟨rfl, rfl⟩

theorem bytesR_no (a b : Option Addr) (m n c c' : Nat) (w : World) (h : ¬ (m : Int) + (n : Int) ≤ 1048576) :
    Calls Try.prog 13 #[.slice a m c, .slice b n c'] w fun e w' => e = .returned (.bool false) ∧ w' = w := by
  by_cases h1 : (m : Int) ≤ 1048576
  · by_cases h2 : (n : Int) ≤ 1048576
    all_goals
      go_enter Try.func13, Try.ntmps13
      go_wp2
      go_ret
      exact ⟨rfl, rfl⟩
  · go_enter Try.func13, Try.ntmps13
    go_wp2
    go_ret
    exact ⟨rfl, rfl⟩

/-- unitOf: a pointer out of the row, or nil. -/
def unitP (B n : Nat) (d : Int) : Option Addr := if 0 ≤ d ∧ d < (n : Int) then some ⟨B + d.toNat, 0, none⟩ else none
theorem unitP_in {B n : Nat} {d : Int} (h : 0 ≤ d ∧ d < (n : Int)) : unitP B n d = some ⟨B + d.toNat, 0, none⟩ := if_pos h
theorem unitP_out {B n : Nat} {d : Int} (h : ¬ (0 ≤ d ∧ d < (n : Int))) : unitP B n d = none := if_neg h

set_option maxHeartbeats 1000000 in
theorem unitOf_calls (g n B : Nat) (d : Int) (w : World) (hc : ∀ i, i < n → w.cell? ⟨g, i, none⟩ = some (.pointer (some ⟨B + i, 0, none⟩))) :
    Calls Try.prog 18 #[.slice (some ⟨g, 0, none⟩) n n, .int .i64 d] w fun e w' => e = .returned (.pointer (unitP B n d)) ∧ w' = w := by
  by_cases h0 : 0 ≤ d
  · by_cases h1 : d < (n : Int)
    · have HU : Hid (unitP B n d = some ⟨B + d.toNat, 0, none⟩) := unitP_in ⟨h0, h1⟩
      obtain ⟨k, rfl⟩ := Int.eq_ofNat_of_zero_le h0
      have ck := hc k (by omega)
      clear hc
      go_enter Try.func18, Try.ntmps18
      go_wp2
      go_ret
      rw [HU.out]
      exact ⟨rfl, rfl⟩
    · have HU : Hid (unitP B n d = none) := unitP_out (by omega)
      clear hc
      go_enter Try.func18, Try.ntmps18
      go_wp2
      go_ret
      rw [HU.out]
      exact ⟨rfl, rfl⟩
  · have HU : Hid (unitP B n d = none) := unitP_out (by omega)
    clear hc
    go_enter Try.func18, Try.ntmps18
    go_wp2
    go_ret
    rw [HU.out]
    exact ⟨rfl, rfl⟩

theorem cmd_calls (f : Nat) (p : Option Addr) (w : World) (hc : w.cell? ⟨f, 0, none⟩ = some (.pointer p)) :
    Calls Try.prog 17 #[.pointer (some ⟨f, 0, none⟩)] w fun e w' => e = .returned (.pointer p) ∧ w' = w := by
  go_enter Try.func17, Try.ntmps17
  go_wp2
  go_ret
  exact ⟨rfl, rfl⟩

theorem recd_calls (f : Nat) (b : Bool) (w : World) (hc : w.cell? ⟨f, 3, none⟩ = some (.bool b)) :
    Calls Try.prog 19 #[.pointer (some ⟨f, 0, none⟩)] w fun e w' => e = .returned (.bool b) ∧ w' = w := by
  go_enter Try.func19, Try.ntmps19
  go_wp2
  go_ret
  exact ⟨rfl, rfl⟩

theorem newf_calls (p : Option Addr) (b : Bool) (w : World) :
    Calls Try.prog 24 #[.pointer p, .bool b] w fun e w' => e = .returned (.pointer (some ⟨w.heap.size, 0, none⟩)) ∧ w' = w.alloc (.cells #[.pointer p, .bool false, .bool false, .bool b, .pointer none, .bool false, .nilIface] 87) := by
  go_enter Try.func24, Try.ntmps24
  go_wp2
  go_ret
  exact ⟨rfl, rfl⟩
end Go.Proofs.Qxb6605953a.Rec
