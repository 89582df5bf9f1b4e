/-
  recoverUnits: each failure's flag is raised where the map says so of its unit; nothing else turns.
-/
import Derived.Test.Qxb6605953aRecC
namespace Go.Proofs.Qxb6605953a.Rec
open Go.RowKit Go.Deep

/-- What the map says of failure i's unit. -/
def lookU (n : Nat) (x d : Nat → Int) (i : Nat) : Bool := decide (0 ≤ d i ∧ d i < (n : Int)) && lookB x n (d i).toNat

theorem look_unit {B n m : Nat} {x d : Nat → Int} {q : Nat → Bool} {w : World} (h : St B n m x d q w) (i : Nat) :
    (Instr.lookup 37 (.map (some (B + 1 + n))) (.pointer (unitP (B + 1) n (d i))) false).run Try.prog w = .ok (.bool (lookU n x d i)) w := by
  by_cases hr : 0 ≤ d i ∧ d i < (n : Int)
  · rw [unitP_in hr, look_dp h.devb (j := (d i).toNat) (by omega) n (Nat.le_refl _) h.map false]
    simp [lookU, hr]
  · rw [unitP_out hr, look_nil n h.map]
    simp [lookU, hr]

theorem St.congr {B n m : Nat} {x d : Nat → Int} {q q' : Nat → Bool} {w : World} (h : St B n m x d q w) (hq : ∀ i, i < m → q i = q' i) : St B n m x d q' w :=
  ⟨h.devs, h.devb, h.map, h.cmds, h.fails, h.dev, h.cmd, fun i hi => by rw [← hq i hi]; exact h.recd i hi, h.free⟩

theorem St.store {B n m : Nat} {x d : Nat → Int} {q q' : Nat → Bool} {w : World} (h : St B n m x d q w) {k : Nat} (hk : k < m) (b : Bool) (hb : q' k = b) (hq : ∀ i, i < m → i ≠ k → q i = q' i) :
    St B n m x d q' (w.setCell ⟨B + n + 5 + 2 * k, 3, none⟩ (.bool b)) where
  devs := fun i hi => by rw [set_block (by omega)]; exact h.devs i hi
  devb := fun i hi => by
    obtain ⟨cs, hcs⟩ := h.devb i hi
    exact ⟨cs, by rw [Below.heap_setCell _ _ _ _ (by simp; omega)]; exact hcs⟩
  map := by rw [Below.heap_setCell _ _ _ _ (by simp; omega)]; exact h.map
  cmds := fun i hi => by rw [set_block (by omega)]; exact h.cmds i hi
  fails := fun i hi => by rw [set_block (by omega)]; exact h.fails i hi
  dev := fun i hi => by rw [set_block (by omega)]; exact h.dev i hi
  cmd := fun i hi => by
    by_cases e : i = k
    · subst e; rw [set_off (by omega)]; exact h.cmd i hi
    · rw [set_block (by omega)]; exact h.cmd i hi
  recd := fun i hi => by
    by_cases e : i = k
    · subst e; rw [set_same (h.recd i hi), hb]
    · rw [set_block (by omega), h.recd i hi, hq i hi e]
  free := fun i hi => by rw [World.frozen?_setCell]; exact h.free i hi

set_option maxHeartbeats 2000000 in
set_option maxRecDepth 100000 in
theorem recover_calls (B n m : Nat) (x d : Nat → Int) (q : Nat → Bool) (w : World) (hm : (m : Int) ≤ 65536) (h : St B n m x d q w) :
    Calls Try.prog 25 #[.slice (some ⟨B + n + 3, 0, none⟩) m m, .map (some (B + 1 + n))] w fun e w' => e = .returned (.tuple #[]) ∧ Below B w w' ∧ St B n m x d (fun i => q i || lookU n x d i) w' := by
  have H : Hid (St B n m x d q w) := h
  clear h
  go_enter Try.func25, Try.ntmps25
  go_wp2
  go_loopw [8] (fun i wr => ∃ k : Nat, k ≤ m ∧ i = .int .i64 k ∧ Below B w wr ∧ St B n m x d (fun i => if i < k then q i || lookU n x d i else q i) wr) (fun i _ => m - (intOf i).toNat)
  case atStart => exact ⟨0, by omega, rfl, Below.refl _ _, H.out.congr (fun i _ => by simp)⟩
  case round =>
    obtain ⟨k, hk, rfl, hb, h⟩ := hrel
    by_cases hlt : k < m
    · have cf := h.fails k hlt
      have cc := h.cmd k hlt
      have cd := h.dev k hlt
      have cr := h.recd k hlt
      simp only [Nat.lt_irrefl, if_false] at cr
      have fr := h.free k hlt
      have hl := look_unit h k
      have hst := fun b hb => h.store (q' := fun i => if i < k + 1 then q i || lookU n x d i else q i) hlt b hb (fun i hi hne => by
        by_cases e : i < k
        · simp [e, show i < k + 1 by omega]
        · simp [e, show ¬ i < k + 1 by omega])
      have HST : Hid (∀ b, (if k < k + 1 then q k || lookU n x d k else q k) = b → St B n m x d (fun i => if i < k + 1 then q i || lookU n x d i else q i) (wr.setCell ⟨B + n + 5 + 2 * k, 3, none⟩ (.bool b))) := hst
      have HB : Hid (Below B w wr) := hb
      obtain ⟨u, hu⟩ : ∃ u, unitP (B + 1) n (d k) = u := ⟨_, rfl⟩
      rw [hu] at hl cd
      obtain ⟨l, hl0⟩ : ∃ l, lookU n x d k = l := ⟨_, rfl⟩
      rw [hl0] at hl
      have HL : Hid (lookU n x d k = l) := hl0
      clear hu hl0 hst h hb H
      cases hq : q k
      · have HQ : Hid (q k = false) := hq
        rw [hq] at cr
        clear hq
        go_wp2
        go_roundw
        case rel =>
          refine ⟨k + 1, by omega, by go_num, HB.out.setCell (by simp; omega) _, HST.out _ ?_⟩
          rw [if_pos (by omega), HQ.out, HL.out]; rfl
        case measure => simp [intOf]; omega
      · have HQ : Hid (q k = true) := hq
        rw [hq] at cr
        clear hq
        go_wp2
        go_roundw
        case rel =>
          refine ⟨k + 1, by omega, by go_num, HB.out.setCell (by simp; omega) _, HST.out _ ?_⟩
          rw [if_pos (by omega), HQ.out, HL.out]; rfl
        case measure => simp [intOf]; omega
    · obtain rfl : m = k := by omega
      go_wp2
      go_end0
      exact ⟨rfl, hb, h.congr (fun i hi => by simp [hi])⟩

theorem zzrecover_calls (B n m : Nat) (x d : Nat → Int) (q : Nat → Bool) (w : World) (hm : (m : Int) ≤ 65536) (h : St B n m x d q w) :
    Calls Try.prog 16 #[.slice (some ⟨B + n + 3, 0, none⟩) m m, .map (some (B + 1 + n))] w fun e w' => e = .returned (.tuple #[]) ∧ Below B w w' ∧ St B n m x d (fun i => q i || lookU n x d i) w' := by
  have H : Hid (St B n m x d q w) := h
  clear h
  go_enter Try.func16, Try.ntmps16
  go_wp2_with fail
  refine (recover_calls B n m x d q _ hm H.out).mono ?_
  rintro e w' ⟨rfl, hb, h⟩
  go_wp2
  go_end0
  exact ⟨rfl, hb, h⟩
end Go.Proofs.Qxb6605953a.Rec
