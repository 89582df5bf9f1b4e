/-
  The law's own walk.
-/
import Derived.Test.Qxb6605953aRecE
import Derived.Deep.QuietTactic
import Derived.BigQuiet
namespace Go.Proofs.Qxb6605953a.Rec
open Go.RowKit Go.Deep
attribute [local go_sem ↓] Go.wp_at_zero Go.wp_at_succ

theorem cell_heap {w W : World} (h : W.heap = w.heap) (a : Addr) : W.cell? a = w.cell? a := by unfold World.cell?; rw [h]
theorem RowB.heap {w W : World} {R : Option Addr} {n : Nat} {x : Nat → Int} (h : RowB w R n x) (hh : W.heap = w.heap) : RowB W R n x := by
  rcases h with h | ⟨g, h1, h2, h3⟩
  · exact .inl h
  · exact .inr ⟨g, h1, by rw [hh]; exact h2, fun i hi => by rw [cell_heap hh]; exact h3 i hi⟩

def RetT (w : World) (e : Ending) (w' : World) : Prop := e = .returned (.bool true) ∧ Below w.heap.size w w'

set_option maxHeartbeats 1000000 in
theorem law_far (F R : Option Addr) (m n c c' : Nat) (w : World) (h : ¬ (m : Int) + (n : Int) ≤ 1048576) :
    Calls Try.prog 6 #[.slice F m c, .slice R n c'] w (RetT w) := by
  go_enter Try.func6, Try.ntmps6
  go_wp2_with (go_at_call 13; refine (bytesR_no _ _ _ _ _ _ _ h).mono ?_; rintro e w' ⟨rfl, rfl⟩)
  go_ret
  exact ⟨rfl, Below.refl _ _⟩

set_option maxHeartbeats 1000000 in
theorem law_long (F R : Option Addr) (m n c c' : Nat) (w : World) (h : (m : Int) + (n : Int) ≤ 1048576) (h1 : ¬ ((m : Int) ≤ 65536 ∧ (n : Int) ≤ 65536)) :
    Calls Try.prog 6 #[.slice F m c, .slice R n c'] w (RetT w) := by
  by_cases hm : (m : Int) ≤ 65536
  · have hn : (65536 : Int) < (n : Int) := by omega
    clear h1
    go_enter Try.func6, Try.ntmps6
    go_wp2_with (go_at_call 13; refine (bytesR_yes _ _ _ _ _ _ _ h).mono ?_; rintro e w' ⟨rfl, rfl⟩)
    go_ret
    exact ⟨rfl, Below.refl _ _⟩
  · clear h1
    go_enter Try.func6, Try.ntmps6
    go_wp2_with (go_at_call 13; refine (bytesR_yes _ _ _ _ _ _ _ h).mono ?_; rintro e w' ⟨rfl, rfl⟩)
    go_ret
    exact ⟨rfl, Below.refl _ _⟩

set_option maxHeartbeats 1000000 in
theorem law_wide (F R : Option Addr) (m n c c' : Nat) (w : World) (h : (m : Int) + (n : Int) ≤ 1048576) (hm : (m : Int) ≤ 65536) (hn : (n : Int) ≤ 65536) (h16 : ¬ (m : Int) * 16 + (n : Int) ≤ 1048576) :
    Calls Try.prog 6 #[.slice F m c, .slice R n c'] w (RetT w) := by
  go_enter Try.func6, Try.ntmps6
  go_wp2_with (go_at_call 13; refine (bytesR_yes _ _ _ _ _ _ _ h).mono ?_; rintro e w' ⟨rfl, rfl⟩)
  go_ret
  exact ⟨rfl, Below.refl _ _⟩

set_option maxHeartbeats 4000000 in
set_option maxRecDepth 100000 in
theorem law_core (F R : Option Addr) (m n c c' : Nat) (x d : Nat → Int) (r : Nat → Bool) (w : World) (hm : (m : Int) ≤ 65536) (hn : (n : Int) ≤ 65536) (h16 : (m : Int) * 16 + (n : Int) ≤ 1048576)
    (hF : InF w F m c d r) (hR : InB w R n c' x) :
    Calls Try.prog 6 #[.slice F m c, .slice R n c'] w (RetT w) := by
  have hd1 : decide ((65536 : Int) < (m : Int)) = false := decide_eq_false (by omega)
  have hd2 : decide ((65536 : Int) < (n : Int)) = false := decide_eq_false (by omega)
  have hd3 : decide ((1048576 : Int) < (m : Int) * 16 + (n : Int)) = false := decide_eq_false (by omega)
  have HF : Hid (InF w F m c d r) := hF
  have HR : Hid (InB w R n c' x) := hR
  clear hF hR
  go_enter Try.func6, Try.ntmps6
  go_wp2_with fail
  refine (bytesR_yes _ _ _ _ _ _ _ (by omega)).mono ?_
  rintro e w' ⟨rfl, rfl⟩
  go_wp2_with fail
  refine (clonef_any F m c d r _ hm HF.out).mono ?_
  rintro e w1 ⟨F', rfl, hb1, hF'⟩
  go_wp2_with fail
  refine (clone_any R n c' x _ hn (HR.out.later hb1)).mono ?_
  rintro e w2 ⟨R', rfl, hb2, hR'⟩
  have hF2 := hF'.later hb2 (Nat.le_refl _)
  have hbw := hb1.trans (hb2.mono hb1.size)
  clear hF' hb1 hb2 HF HR
  go_wp2_with fail
  refine (build_calls F' R' n m x d r _ hn hm hR' hF2).mono ?_
  rintro e w3 ⟨rfl, hb3, hS3⟩
  have hsz := hbw.size
  obtain ⟨B, hB⟩ : ∃ B, B = w2.heap.size := ⟨_, rfl⟩
  rw [← hB] at hS3 hb3 hsz ⊢
  have HB : Hid (B = w2.heap.size) := hB
  clear hB
  go_wp2_with fail
  refine (zzrecover_calls B n m x d r _ hm hS3).mono ?_
  rintro e w4 ⟨rfl, hb4, hS4⟩
  go_wp2_with fail
  refine (zzrecover_calls B n m x d _ _ hm hS4).mono ?_
  rintro e w5 ⟨rfl, hb5, hS5⟩
  have hb25 := hb3.trans (hb4.trans hb5)
  have hR5 := hR'.later hb25 (by have := HB.out; omega)
  have hF5 := hF2.later hb25 (by have := HB.out; omega)
  have hbw5 := hbw.trans (hb25.mono hsz)
  have hS := hS5.congr (fun i _ => model_is n x d r i)
  have HR5 : Hid (RowB w5 R' n x) := hR5
  have HF5 : Hid (RowF w5 F' m d r) := hF5
  have HBW : Hid (Below w'.heap.size w' w5) := hbw5
  have HS : Hid (St B n m x d (fun i => modelB n x (d i) (r i)) w5) := hS
  have hlen := len_map hS
  have hel := ents_le (B + 1) x n
  clear hR' hF2 hbw hb3 hb4 hb5 hS3 hS4 hS5 hb25 hR5 hF5 hbw5 hS HB hsz
  go_wp2
  go_loop [9, 10] (fun p j => ∃ k : Nat, k ≤ n ∧ j = .int .i64 k ∧ p = .int .i64 ((ents (B + 1) x k).length : Int)) (fun _ j => n - (intOf j).toNat)
  case atStart => exact ⟨0, by omega, rfl, rfl⟩
  case round =>
    obtain ⟨k, hk, rfl, rfl⟩ := hrel
    by_cases hlt : k < n
    · obtain ⟨g, hRg, hg, hcR⟩ := HR5.out.resolve_left (by omega)
      have ix := idx22 hRg hlt
      have cx := hcR k hlt
      have cd := HS.out.devs k hlt
      have hl := look_dp HS.out.devb hlt n (Nat.le_refl _) HS.out.map true
      have ik0 : (0 : Int) ≤ (k : Int) := by omega
      have ikn : (k : Int) < (n : Int) := by omega
      have hle := ents_le (B + 1) x k
      clear hRg hcR
      by_cases hx : x k = 0
      · have hl' : (Instr.lookup 37 (.map (some (B + 1 + n))) (.pointer (some ⟨B + 1 + k, 0, none⟩)) true).run Try.prog w5 = .ok (.tuple #[.bool false, .bool false]) w5 := by
          rw [hl]; simp [lookB, hx]
        have hx' : (x k == 0) = true := by simp [hx]
        have HEL : Hid ((ents (B + 1) x (k + 1)).length = (ents (B + 1) x k).length) := by simp [Hid, ents_len, hx]
        clear hl hx
        go_wp2
        go_round
        case rel => exact ⟨k + 1, by omega, by go_num, by rw [HEL.out]⟩
        case measure => simp [intOf]; omega
      · have hl' : (Instr.lookup 37 (.map (some (B + 1 + n))) (.pointer (some ⟨B + 1 + k, 0, none⟩)) true).run Try.prog w5 = .ok (.tuple #[.bool (decide (2 ≤ x k)), .bool true]) w5 := by
          rw [hl]; simp [lookB, hx, hlt]
        have hx' : (x k == 0) = false := by simp [hx]
        have HEL : Hid ((ents (B + 1) x (k + 1)).length = (ents (B + 1) x k).length + 1) := by simp [Hid, ents_len, hx]
        clear hl hx
        by_cases h2 : 2 ≤ x k
        · have hd2 : decide (2 ≤ x k) = true := decide_eq_true h2
          go_wp2
          go_round
          case rel => exact ⟨k + 1, by omega, by go_num, by rw [HEL.out]; go_num⟩
          case measure => simp [intOf]; omega
        · have hd2 : decide (2 ≤ x k) = false := decide_eq_false h2
          go_wp2
          go_round
          case rel => exact ⟨k + 1, by omega, by go_num, by rw [HEL.out]; go_num⟩
          case measure => simp [intOf]; omega
    · obtain rfl : n = k := by omega
      go_wp2
      clear hlen hel
      go_loopw [13] (fun i wr => ∃ k : Nat, k ≤ m ∧ i = .int .i64 k ∧ Below w5.heap.size w5 wr) (fun i _ => m - (intOf i).toNat)
      case atStart => exact ⟨0, by omega, rfl, Below.refl _ _⟩
      case round =>
        obtain ⟨k, hk2, rfl, hbr⟩ := hrel
        by_cases hlt2 : k < m
        · have hSr := HS.out.later hbr
          obtain ⟨g, hFg, hg, hcF⟩ := (HF5.out.later hbr (Nat.le_refl _)).resolve_left (by omega)
          have ix := idx31 hFg hlt2
          have cF0 := (hcF k hlt2).1
          have cF1 := (hcF k hlt2).2
          have cf := hSr.fails k hlt2
          have cc := hSr.cmds k hlt2
          have cd := hSr.dev k hlt2
          have n43 := neq43 (some ⟨B + n + 4 + 2 * k, 0, none⟩)
          obtain ⟨u, hu⟩ : ∃ u, unitP (B + 1) n (d k) = u := ⟨_, rfl⟩
          have n42 := neq42 u
          obtain ⟨b, hbb⟩ : ∃ b, modelB n x (d k) (r k) = b := ⟨_, rfl⟩
          have C17 : Hid (∀ W : World, W.heap = wr.heap → Calls Try.prog 17 #[.pointer (some ⟨B + n + 5 + 2 * k, 0, none⟩)] W fun e w' => e = .returned (.pointer (some ⟨B + n + 4 + 2 * k, 0, none⟩)) ∧ w' = W) :=
            fun W hW => cmd_calls _ _ _ (by rw [cell_heap hW]; exact hSr.cmd k hlt2)
          have C18 : Hid (∀ W : World, W.heap = wr.heap → Calls Try.prog 18 #[.slice (some ⟨B, 0, none⟩) n n, .int .i64 (d k)] W fun e w' => e = .returned (.pointer u) ∧ w' = W) := by
            intro W hW
            rw [← hu]
            exact unitOf_calls B n (B + 1) (d k) _ (fun i hi => by rw [cell_heap hW]; exact hSr.devs i hi)
          have C19 : Hid (∀ W : World, W.heap = wr.heap → Calls Try.prog 19 #[.pointer (some ⟨B + n + 5 + 2 * k, 0, none⟩)] W fun e w' => e = .returned (.bool b) ∧ w' = W) := by
            intro W hW
            rw [← hbb]
            exact recd_calls _ _ _ (by rw [cell_heap hW]; exact hSr.recd k hlt2)
          have C19' : Hid (∀ (W : World) (o : Obj), W.heap = wr.heap → Calls Try.prog 19 #[.pointer (some ⟨B + n + 5 + 2 * k, 0, none⟩)] (W.alloc o) fun e w' => e = .returned (.bool b) ∧ w' = W.alloc o) := by
            intro W o hW
            rw [← hbb]
            have hc := hSr.recd k hlt2
            exact recd_calls _ _ _ (by rw [old_cell (by rw [hW]; exact World.block_lt_of_cell? _ _ hc), cell_heap hW]; exact hc)
          have C20 : Hid (∀ W : World, W.heap = wr.heap → Calls Try.prog 20 #[.agg #[.int .i64 (d k), .bool (r k)], .slice R' n n] W fun e w' => e = .returned (.bool b) ∧ w' = W.alloc (.cells #[.int .i64 (d k), .bool (r k)] 67)) := by
            intro W hW
            rw [← hbb]
            exact recm_calls R' n x (d k) (r k) _ hn ((HR5.out.later hbr (Nat.le_refl _)).heap hW)
          have ik0 : (0 : Int) ≤ (k : Int) := by omega
          have ikm : (k : Int) < (m : Int) := by omega
          have HBR : Hid (Below w5.heap.size w5 wr) := hbr
          rw [hu] at cd
          clear hFg hcF hSr hu hbb hbr
          cases b
          all_goals
            go_wp2_with fail
            go_quiet ((go_at_call 17; exact Calls.quiet_of_same (C17.out _ rfl)))
            go_wp2_with fail
            obtain ⟨wa, hwa⟩ : ∃ wa : World, wa = wr.drewN nq := ⟨_, rfl⟩
            rw [← hwa]
            have HA : Hid (wa.heap = wr.heap) := by rw [hwa]; rfl
            have BA : Hid (Below w5.heap.size w5 wa) := by rw [hwa]; exact below_drewN HBR.out _
            have cc1 : wa.cell? ⟨B + n + 2, k, none⟩ = _ := (cell_heap HA.out _).trans cc
            have cd1 : wa.cell? ⟨B + n + 4 + 2 * k, 0, none⟩ = _ := (cell_heap HA.out _).trans cd
            have cf1 : wa.cell? ⟨B + n + 3, k, none⟩ = _ := (cell_heap HA.out _).trans cf
            have cG0 : wa.cell? ⟨g, k * 2, none⟩ = _ := (cell_heap HA.out _).trans cF0
            have cG1 : wa.cell? ⟨g, k * 2 + 1, none⟩ = _ := (cell_heap HA.out _).trans cF1
            clear cc cd cf cF0 cF1 hwa C17
            go_quiet ((go_at_call 18; exact Calls.quiet_of_same (C18.out _ HA.out)))
            go_wp2_with fail
            go_region_with (first | (go_at_call 20; refine (C20.out _ ?_).mono ?_; exact HA.out; rintro e w' ⟨rfl, rfl⟩) | (go_at_call 19; refine (C19.out _ ?_).mono ?_; exact HA.out; rintro e w' ⟨rfl, rfl⟩) | (go_at_call 19; refine (C19'.out _ _ ?_).mono ?_; exact HA.out; rintro e w' ⟨rfl, rfl⟩))
            all_goals
              go_wp2
              go_roundw
              case rel =>
                refine ⟨k + 1, by omega, by go_num, ?_⟩
                repeat (first | exact BA.out | apply below_drewN | apply Below.drew | refine Below.alloc ?_ (by have := BA.out.size; simp; try omega) _)
              case measure => simp [intOf]; omega
        · obtain rfl : m = k := by omega
          go_wp2
          go_ret
          exact ⟨rfl, HBW.out.trans (hbr.mono HBW.out.size)⟩
end Go.Proofs.Qxb6605953a.Rec
