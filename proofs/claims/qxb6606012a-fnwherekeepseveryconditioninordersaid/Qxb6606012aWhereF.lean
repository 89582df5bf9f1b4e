/-
  The law's walk.
-/
import Derived.Test.Qxb6606012aWhereE
import Derived.BigQuiet
namespace Go.Proofs.Qxb6606012a.Whr
open Go.RowKit Go.Deep

theorem cell_heap {w W : World} (h : W.heap = w.heap) (a : Addr) : W.cell? a = w.cell? a := by unfold World.cell?; rw [h]
theorem Inv.drewN {B : Nat} {w : World} {Q k : Nat} {c : Nat → ByteArray} {wr : World} (h : Inv B w Q k c wr) (m : Nat) : Inv B w Q k c (wr.drewN m) := h.heap rfl rfl rfl rfl

/-- The clone's cells behind k rounds. -/
def cls (c : Nat → ByteArray) (n k : Nat) : Array Value := Array.ofFn (fun i : Fin n => Value.string (if i.val < k then c i.val else ⟨#[]⟩))
theorem cls_at (c : Nat → ByteArray) (n k i : Nat) (h : i < n) : (cls c n k)[i]? = some (.string (if i < k then c i else ⟨#[]⟩)) := by
  simp [cls, h]
theorem cls_zero (c : Nat → ByteArray) (n : Nat) : madeCells #[Value.string ⟨#[]⟩] n = cls c n 0 := by
  apply Array.ext (by simp [cls, size_madeCells])
  intro i h1 h2
  simp [cls, madeCells, Nat.mod_one]
theorem cls_set (c : Nat → ByteArray) (n k : Nat) : (cls c n k).setIfInBounds k (.string (c k)) = cls c n (k + 1) := by
  apply Array.ext (by simp [cls])
  intro i h1 h2
  rw [Array.getElem_setIfInBounds (by simpa [cls] using h2)]
  simp only [cls, Array.getElem_ofFn]
  by_cases h : k = i
  · subst h; simp
  · by_cases h' : i < k
    · simp [h, h', show i < k + 1 by omega]
    · simp [h, h', show ¬ i < k + 1 by omega]

theorem info9 : (Try.prog.info? 9).map (fun i => (i.zero, i.size, i.bytes)) = some (some (.string ⟨#[]⟩), 1, 16) := by kernel_rfl

def RetT (w : World) (e : Ending) (w' : World) : Prop := e = .returned (.bool true) ∧ Below w.heap.size w w'

theorem bytes (R : Option Addr) (n cap b off : Nat) (c : Nat → ByteArray) (w : World) (hin : InS w R n b off c) :
    Calls Try.prog 10 #[.slice R n cap] w fun e w' => (e = .returned (.bool true) ∨ e = .returned (.bool false)) ∧ w' = w := by
  by_cases h : (n : Int) ≤ 1048576
  · exact bytes_near R n cap b off c w h hin
  · exact bytes_far R n cap w h

set_option maxRecDepth 100000 in
set_option maxHeartbeats 2000000 in
theorem law_long (R : Option Addr) (n cap b off : Nat) (c : Nat → ByteArray) (w : World) (hn : ¬ (n : Int) ≤ 65536) (hin : InS w R n b off c) :
    Calls Try.prog 5 #[.slice R n cap] w (RetT w) := by
  go_enter Try.func5, Try.ntmps5
  go_wp2_with fail
  refine (bytes R n cap b off c _ hin).mono ?_
  rintro e w' ⟨rfl | rfl, rfl⟩
  · go_wp2
    go_ret
    exact ⟨rfl, Below.refl _ _⟩
  · go_wp2
    go_ret
    exact ⟨rfl, Below.refl _ _⟩

set_option maxRecDepth 100000 in
set_option maxHeartbeats 8000000 in
theorem law_some (a : Addr) (n cap b off : Nat) (c : Nat → ByteArray) (w : World) (hn : (n : Int) ≤ 65536) (hin : InS w (some a) n b off c) :
    Calls Try.prog 5 #[.slice (some a) n cap] w (RetT w) := by
  have Hin : Hid (InS w (some a) n b off c) := hin
  clear hin
  go_enter Try.func5, Try.ntmps5
  go_wp2_with fail
  refine (bytes (some a) n cap b off c _ Hin.out).mono ?_
  rintro e w' ⟨rfl | rfl, rfl⟩
  rotate_left
  · go_wp2
    go_ret
    exact ⟨rfl, Below.refl _ _⟩
  go_wp2
  go_loopw [3, 4] (fun z i wr => ∃ (k : Nat) (s : Int), k ≤ n ∧ i = .int .i64 k ∧ z = .int .i64 s ∧ 0 ≤ s ∧ s ≤ 1048576 ∧ wr = w') (fun _ i _ => n - (intOf i).toNat)
  case atStart => exact ⟨0, 0, by omega, rfl, rfl, by omega, by omega, rfl⟩
  case round =>
    obtain ⟨k, s, hk, rfl, rfl, h0, h1, rfl⟩ := hrel
    by_cases hlt : k < n
    · obtain ⟨ha, hc⟩ := Hin.out k hlt
      obtain rfl : a = ⟨b, off, none⟩ := by injection ha
      by_cases hb : ((c k).size : Int) ≤ 1048576
      · by_cases ht : s + (((c k).size : Int) + 16) ≤ 1048576
        · go_wp2
          go_roundw
          case rel => exact ⟨k + 1, _, by omega, by go_num, rfl, by omega, by omega, trivial⟩
          case measure => simp [intOf]; omega
        · go_wp2
          go_ret
          exact ⟨rfl, Below.refl _ _⟩
      · go_wp2
        go_ret
        exact ⟨rfl, Below.refl _ _⟩
    · obtain rfl : n = k := by omega
      clear h0 h1 hk hlt
      have hneq := fun W => run_neq_slice_nil_any (P := Try.prog) W 26 9 (some a) n cap 0 0 Try.underlying26
      have hmk := run_make_row' (P := Try.prog) 26 9 (.string ⟨#[]⟩) 16 Try.underlying26 info9 rfl .i64 .i64 n (by omega) (by omega) wr
      rw [cls_zero c] at hmk
      go_wp2
      clear hmk hneq
      go_loopw [6] (fun i w2 => ∃ k : Nat, k ≤ n ∧ i = .int .i64 k ∧ w2 = wr.alloc (.cells (cls c n k) 9)) (fun i _ => n - (intOf i).toNat)
      case atStart => exact ⟨0, by omega, rfl, rfl⟩
      case round =>
        obtain ⟨k, hk, rfl, rfl⟩ := hrel
        by_cases hlt : k < n
        · obtain ⟨ha, ck⟩ := Hin.out k hlt
          obtain rfl : a = ⟨b, off, none⟩ := by injection ha
          have hb := World.block_lt_of_cell? _ _ ck
          have cw := cls_at c n k k hlt
          rw [if_neg (by omega)] at cw
          have cs := cls_set c n k
          go_wp2
          go_roundw
          case rel => exact ⟨k + 1, by omega, by go_num, rfl⟩
          case measure => simp [intOf]; omega
        · obtain rfl : n = k := by omega
          clear hk hlt
          go_wp2_with fail
          obtain ⟨wc, hwc⟩ : ∃ wc : World, wc = wr.alloc (.cells (cls c n n) 9) := ⟨_, rfl⟩
          rw [← hwc]
          obtain ⟨H, hH⟩ : ∃ H, H = wr.heap.size := ⟨_, rfl⟩
          rw [← hH]
          have HC : Hid (∀ i, i < n → wc.cell? ⟨H, i, none⟩ = some (.string (c i))) := by
            intro i hi
            rw [hwc, hH, cell_of_row _ _ i _ 9 _ (heap_alloc_new wr _), cls_at c n n i hi, if_pos hi]
          have HB : Hid (Below wr.heap.size wr wc) := by rw [hwc]; exact (Below.refl _ _).alloc (Nat.le_refl _) _
          have HZ : Hid (wc.heap.size = H + 1) := by rw [hwc, hH]; simp [Hid]
          have HH : Hid (H = wr.heap.size) := hH
          clear hwc hH
          refine (newQ wc).mono ?_
          rintro e w1 ⟨rfl, rfl⟩
          have HI0 := Inv.start wc c
          obtain ⟨Q, hQ⟩ : ∃ Q, Q = wc.heap.size := ⟨_, rfl⟩
          rw [← hQ] at HI0 ⊢
          obtain ⟨wq, hwq⟩ : ∃ wq, wq = wc.alloc (.cells (qcells (.slice none 0 0)) 41) := ⟨_, rfl⟩
          rw [← hwq] at HI0 ⊢
          have HQ : Hid (Q = wc.heap.size) := hQ
          clear hQ hwq
          have HI0 : Hid (Inv Q wc Q 0 c wq) := HI0
          go_wp2
          go_loopw [8] (fun i wx => ∃ k : Nat, k ≤ n ∧ i = .int .i64 k ∧ Inv Q wc Q k c wx) (fun i _ => n - (intOf i).toNat)
          case atStart => exact ⟨0, by omega, rfl, HI0.out⟩
          case round =>
            obtain ⟨k, hk, rfl, hI⟩ := hrel
            have HI : Hid (Inv Q wc Q k c wr) := hI
            clear hI
            by_cases hlt : k < n
            · have ck := (HI.out.below.cell (p := ⟨H, k, none⟩) (by have := HQ.out; have := HZ.out; show H < Q; omega)).trans (HC.out k hlt)
              go_wp2_with fail
              refine ((HI.out.alloc _).apply (ib := wr.heap.size) (by omega) ((cell_of_row _ _ 0 _ 3 _ (heap_alloc_new wr _)).trans rfl)).mono ?_
              rintro e w1 ⟨rfl, hI'⟩
              clear ck HI
              go_wp2
              go_roundw
              case rel => exact ⟨k + 1, by omega, by go_num, hI'⟩
              case measure => simp [intOf]; omega
            · obtain rfl : n = k := by omega
              clear hk hlt HI0
              go_wp2_with fail
              obtain ⟨R', cap', hc⟩ := HI.out.count
              refine (count Q n cap' R' _ hc).mono ?_
              rintro e w1 ⟨rfl, rfl⟩
              clear hc
              go_wp2
              go_loopw [9] (fun i wy => ∃ k : Nat, k ≤ n ∧ i = .int .i64 k ∧ Inv Q wc Q n c wy) (fun i _ => n - (intOf i).toNat)
              case atStart => exact ⟨0, by omega, rfl, HI.out⟩
              case round =>
                obtain ⟨k, hk, rfl, hI⟩ := hrel
                have HY : Hid (Inv Q wc Q n c wr) := hI
                clear hI
                by_cases hlt : k < n
                · have ck := (HY.out.below.cell (p := ⟨H, k, none⟩) (by have := HQ.out; have := HZ.out; show H < Q; omega)).trans (HC.out k hlt)
                  obtain ⟨g, cap', A, r1, r2, r3, r4⟩ := HY.out.read hlt
                  have C14 : Hid (∀ W : World, W.heap = wr.heap → Calls Try.prog 14 #[.pointer (some ⟨Q, 0, none⟩), .int .i64 k] W fun e w' => e = .returned (.string (c k)) ∧ w' = W) :=
                    fun W hW => sqlAt Q g n cap' k (c k) W hlt (by rw [cell_heap hW]; exact r1) (by rw [cell_heap hW]; exact r2)
                  have C15 : Hid (∀ W : World, W.heap = wr.heap → Calls Try.prog 15 #[.pointer (some ⟨Q, 0, none⟩), .int .i64 k] W fun e w' => e = .returned (.int .i64 1) ∧ w' = W) :=
                    fun W hW => argCount Q g n cap' k _ W hlt (by rw [cell_heap hW]; exact r1) (by rw [cell_heap hW]; exact r3)
                  have C16 : Hid (∀ W : World, W.heap = wr.heap → Calls Try.prog 16 #[.pointer (some ⟨Q, 0, none⟩), .int .i64 k, .int .i64 0] W fun e w' => e = .returned (.tuple #[.int .i64 k, .bool true]) ∧ w' = W) :=
                    fun W hW => argInt Q g A n cap' k W hlt (by rw [cell_heap hW]; exact r1) (by rw [cell_heap hW]; exact r3) (by rw [cell_heap hW]; exact r4)
                  clear r1 r2 r3 r4
                  go_wp2_with fail
                  go_quiet ((first | (go_at_call 14; exact Calls.quiet_of_same (C14.out _ rfl)) | (go_at_call 15; exact Calls.quiet_of_same (C15.out _ rfl))))
                  go_wp2_with fail
                  refine (C16.out (wr.drewN nq) rfl).mono ?_
                  rintro e w1 ⟨rfl, rfl⟩
                  have HY' : Hid (Inv Q wc Q n c (wr.drewN nq)) := HY.out.drewN nq
                  clear C14 C15 C16 ck
                  go_wp2
                  go_roundw
                  case rel => exact ⟨k + 1, by omega, by go_num, HY'.out⟩
                  case measure => simp [intOf]; omega
                · obtain rfl : n = k := by omega
                  go_wp2
                  go_ret
                  exact ⟨rfl, HB.out.trans (HY.out.below.mono (by have := HQ.out; have := HZ.out; have := HH.out; omega))⟩

set_option maxRecDepth 100000 in
set_option maxHeartbeats 8000000 in
theorem law_nil (w : World) : Calls Try.prog 5 #[.slice none 0 0] w (RetT w) := by
  have hneq := fun W => run_neq_slice_nil_any (P := Try.prog) W 26 9 none 0 0 0 0 Try.underlying26
  go_enter Try.func5, Try.ntmps5
  go_wp2_with fail
  refine (bytes none 0 0 0 0 (fun _ => ⟨#[]⟩) _ (fun i hi => by omega)).mono ?_
  rintro e w' ⟨rfl | rfl, rfl⟩
  rotate_left
  · go_wp2
    go_ret
    exact ⟨rfl, Below.refl _ _⟩
  go_wp2
  refine wp_loop_rounds 1 ?_
  rw [rounds_succ]
  go_wp2_with fail
  refine (newQ _).mono ?_
  rintro e w1 ⟨rfl, rfl⟩
  have HB : Below w'.heap.size w' (w'.alloc (.cells (qcells (.slice none 0 0)) 41)) := (Below.refl _ _).alloc (Nat.le_refl _) _
  have hc : (w'.alloc (.cells (qcells (.slice none 0 0)) 41)).cell? ⟨w'.heap.size, 0, none⟩ = some (.slice none 0 0) := (cell_of_row _ _ 0 _ 41 _ (heap_alloc_new w' _)).trans rfl
  obtain ⟨wq, hwq⟩ : ∃ wq, wq = w'.alloc (.cells (qcells (.slice none 0 0)) 41) := ⟨_, rfl⟩
  rw [← hwq] at HB hc ⊢
  clear hwq
  go_wp2
  refine wp_loop_rounds 1 ?_
  rw [rounds_succ]
  go_wp2_with fail
  refine (count w'.heap.size 0 0 none _ hc).mono ?_
  rintro e w1 ⟨rfl, rfl⟩
  go_wp2
  refine wp_loop_rounds 1 ?_
  rw [rounds_succ]
  go_wp2
  go_ret
  exact ⟨rfl, HB⟩

theorem law (R : Option Addr) (n cap b off : Nat) (c : Nat → ByteArray) (w : World) (hin : InS w R n b off c) (h0 : R = none → n = 0 ∧ cap = 0) :
    Calls Try.prog 5 #[.slice R n cap] w (RetT w) := by
  by_cases hn : (n : Int) ≤ 65536
  · cases R with
    | none =>
      obtain ⟨rfl, rfl⟩ := h0 rfl
      exact law_nil w
    | some a => exact law_some a n cap b off c w hn hin
  · exact law_long R n cap b off c w hn hin
end Go.Proofs.Qxb6606012a.Whr
