/-
  The law's walk, part by part: no bytes at all, an empty row, one byte, two, three or more.
-/
import Derived.Test.Qxb6605953aSensF
namespace Go.Proofs.Qxb6605953a.Sens
open Go.RowKit Clone

def RetTrue (w : World) (e : Ending) (w' : World) : Prop := e = .returned (.bool true) ∧ Below w.heap.size w w'

set_option maxHeartbeats 1000000 in
theorem law_great (a0 : Int) (a1 : Option Addr) (n c : Nat) (a2 a3 a4 : Int) (w : World) (hm : ¬ (n : Int) ≤ 1048576) :
    Calls Try.prog 5 #[.int .u8 a0, .slice a1 n c, .int .u8 a2, .int .u8 a3, .int .u8 a4] w (RetTrue w) := by
  go_enter Try.func5, Try.ntmps5
  go_wp2_with (go_at_call 9; refine (bytes_no _ _ _ _ _ _ _ _ hm).mono ?_; rintro e w' ⟨rfl, rfl⟩)
  go_ret
  exact ⟨rfl, Below.refl _ _⟩

set_option maxHeartbeats 1000000 in
theorem law_nil (a0 : Int) (a2 a3 a4 : Int) (w : World) :
    Calls Try.prog 5 #[.int .u8 a0, .slice none 0 0, .int .u8 a2, .int .u8 a3, .int .u8 a4] w (RetTrue w) := by
  have u := fun W => succ_calls a0 none 0 (fun _ => 0) W (by decide) (fun _ => by decide) (.inl rfl)
  have m := fun W => model_calls a0 none 0 (fun _ => 0) W (by decide) (.inl rfl)
  generalize succ a0 0 (fun _ => 0) = s at u m
  have U : Hid _ := u
  have M : Hid _ := m
  clear u m
  go_enter Try.func5, Try.ntmps5
  go_wp2_with fail
  refine (bytes_calls _ _ _ _ _ _ _ _ (by decide)).mono ?_
  rintro e w' ⟨rfl, rfl⟩
  go_wp2_with fail
  refine (clone_nil _).mono ?_
  rintro e w' ⟨rfl, rfl⟩
  go_wp2_with fail
  refine (clone_nil _).mono ?_
  rintro e w' ⟨rfl, rfl⟩
  go_wp2_with fail
  refine (U.out _).mono ?_
  rintro e w1 ⟨rfl, hb1⟩
  go_wp2_with fail
  refine (M.out _).mono ?_
  rintro e w2 ⟨rfl, rfl⟩
  cases s
  all_goals
    go_wp2_with fail
    refine (U.out _).mono ?_
    rintro e w3 ⟨rfl, hb3⟩
    go_wp2
    go_ret
    exact ⟨rfl, hb1.trans (hb3.mono hb1.size)⟩

set_option maxHeartbeats 1000000 in
theorem law_empty (a0 : Int) (a : Addr) (c : Nat) (a2 a3 a4 : Int) (w : World) :
    Calls Try.prog 5 #[.int .u8 a0, .slice (some a) 0 c, .int .u8 a2, .int .u8 a3, .int .u8 a4] w (RetTrue w) := by
  have u := fun g W => succ_calls a0 (some ⟨g, 0, none⟩) 0 (fun _ => 0) W (by decide) (fun _ => by decide) (.inl rfl)
  have m := fun g W => model_calls a0 (some ⟨g, 0, none⟩) 0 (fun _ => 0) W (by decide) (.inl rfl)
  generalize succ a0 0 (fun _ => 0) = s at u m
  have U : Hid _ := u
  have M : Hid _ := m
  clear u m
  go_enter Try.func5, Try.ntmps5
  go_wp2_with fail
  refine (bytes_calls _ _ _ _ _ _ _ _ (by decide)).mono ?_
  rintro e w' ⟨rfl, rfl⟩
  go_wp2_with fail
  refine (clone_empty _ _ (fun _ => 0) _).mono ?_
  rintro e w' ⟨rfl, rfl⟩
  go_wp2_with fail
  refine (clone_empty _ _ (fun _ => 0) _).mono ?_
  rintro e w' ⟨rfl, rfl⟩
  go_wp2_with fail
  refine (U.out _ _).mono ?_
  rintro e w1 ⟨rfl, hb1⟩
  go_wp2_with fail
  refine (M.out _ _).mono ?_
  rintro e w2 ⟨rfl, rfl⟩
  cases s
  all_goals
    go_wp2_with fail
    refine (U.out _ _).mono ?_
    rintro e w3 ⟨rfl, hb3⟩
    go_wp2
    go_ret
    refine ⟨rfl, ?_⟩
    refine Below.trans (Below.trans ?_ (hb1.mono (by simp; omega))) (hb3.mono (by have := hb1.size; simp at this; omega))
    exact (((Below.refl _ _).alloc (Nat.le_refl _) _).alloc (by simp) _)

set_option maxHeartbeats 2000000 in
set_option maxRecDepth 100000 in
theorem law_one (a0 : Int) (b off n c : Nat) (a2 a3 a4 : Int) (x : Nat → Int) (w : World) (hn : 1 ≤ n ∧ n < 2) (hm : (n : Int) ≤ 1048576) (hb : b < w.heap.size)
    (hc : ∀ i, i < n → w.cell? ⟨b, off + i, none⟩ = some (.int .u8 (x i))) (hx : ∀ i, 0 ≤ x i ∧ x i < 256) :
    Calls Try.prog 5 #[.int .u8 a0, .slice (some ⟨b, off, none⟩) n c, .int .u8 a2, .int .u8 a3, .int .u8 a4] w (RetTrue w) := by
  have l1 : (1 : Int) ≤ (n : Int) := by omega
  have k2 : (n : Int) < 2 := by omega
  have hy : ∀ i, 0 ≤ (upd x 0 (bits .xor .u8 (x 0) (bits .and .u8 a2 129))) i ∧ (upd x 0 (bits .xor .u8 (x 0) (bits .and .u8 a2 129))) i < 256 := (upd_range hx 0 ⟨bits_lo_u8 _ _ _, Int.lt_add_one_of_le (bits_hi_u8 _ _ _)⟩)
  have hs : succ a0 n (upd x 0 (bits .xor .u8 (x 0) (bits .and .u8 a2 129))) = succ a0 n x := by
    unfold succ
    rw [ok_short n _ (by omega), ok_short n _ (by omega)]
  have C1 : Hid (Calls Try.prog 10 #[.slice (some ⟨b, off, none⟩) n c] w fun e w' => e = .returned (.slice (some ⟨w.heap.size, 0, none⟩) n n) ∧ w' = w.alloc (.cells (cl x n n) 5)) :=
    clone_full b off n c x w (by omega) hm hb hc
  have C2 : Hid (Calls Try.prog 10 #[.slice (some ⟨w.heap.size, 0, none⟩) n n] (w.alloc (.cells (cl x n n) 5)) fun e w' => e = .returned (.slice (some ⟨w.heap.size + 1, 0, none⟩) n n) ∧ w' = (w.alloc (.cells (cl x n n) 5)).alloc (.cells (cl x n n) 5)) := by
    have := clone_full w.heap.size 0 n n x (w.alloc (.cells (cl x n n) 5)) (by omega) hm (by simp) (fun i hi => by rw [Nat.zero_add, World.cell?_alloc_at _ _ _ _ rfl]; exact cl_all x n i hi)
    unfold Hid
    simpa using this
  obtain ⟨W, HW⟩ : ∃ W, W = (w.alloc (.cells (cl x n n) 5)).alloc (.cells (cl (upd x 0 (bits .xor .u8 (x 0) (bits .and .u8 a2 129))) n n) 5) := ⟨_, rfl⟩
  have hWs : W.heap.size = w.heap.size + 1 + 1 := by subst HW; simp
  have hWx : ∀ i, i < n → W.cell? ⟨w.heap.size, i, none⟩ = some (.int .u8 (x i)) := fun i hi => by
    subst HW; rw [World.cell?_alloc_past _ _ _ (by simp), World.cell?_alloc_at _ _ _ _ rfl]; exact cl_all x n i hi
  have hWy : ∀ i, i < n → W.cell? ⟨w.heap.size + 1, i, none⟩ = some (.int .u8 ((upd x 0 (bits .xor .u8 (x 0) (bits .and .u8 a2 129))) i)) := fun i hi => by
    subst HW; rw [World.cell?_alloc_at _ _ _ _ (by simp)]; exact cl_all _ n i hi
  have hWb : Below w.heap.size w W := by subst HW; exact (((Below.refl _ w).alloc (Nat.le_refl _) _).alloc (by simp) _)
  have S1 : Hid (Calls Try.prog 11 #[.int .u8 a0, .slice (some ⟨w.heap.size, 0, none⟩) n n] W fun e w' => e = .returned (.bool (succ a0 n x)) ∧ Below W.heap.size W w') :=
    succ_calls a0 _ n x W hm hx (.inr ⟨_, rfl, by omega, hWx⟩)
  have M1 : Hid (∀ w1, Below W.heap.size W w1 → Calls Try.prog 12 #[.int .u8 a0, .slice (some ⟨w.heap.size, 0, none⟩) n n] w1 fun e w' => e = .returned (.bool (succ a0 n x)) ∧ w' = w1) :=
    fun w1 h1 => model_calls a0 _ n x w1 hm (.inr ⟨_, rfl, by have := h1.size; omega, fun i hi => (h1.cell (p := ⟨w.heap.size, i, none⟩) (by simp; omega)).trans (hWx i hi)⟩)
  have S2 : Hid (∀ w1, Below W.heap.size W w1 → Calls Try.prog 11 #[.int .u8 a0, .slice (some ⟨w.heap.size + 1, 0, none⟩) n n] w1 fun e w' => e = .returned (.bool (succ a0 n x)) ∧ Below w1.heap.size w1 w') := by
    intro w1 h1
    have := succ_calls a0 _ n (upd x 0 (bits .xor .u8 (x 0) (bits .and .u8 a2 129))) w1 hm hy (.inr ⟨_, rfl, by have := h1.size; omega, fun i hi => (h1.cell (p := ⟨w.heap.size + 1, i, none⟩) (by simp; omega)).trans (hWy i hi)⟩)
    rw [hs] at this
    exact this
  have HW' : Hid (W = (w.alloc (.cells (cl x n n) 5)).alloc (.cells (cl (upd x 0 (bits .xor .u8 (x 0) (bits .and .u8 a2 129))) n n) 5)) := HW
  have HWs : Hid (W.heap.size = w.heap.size + 1 + 1) := hWs
  clear hs hy hWx hWy hc hx HW hWs
  generalize succ a0 n x = s at S1 M1 S2
  have f0 : (cl x n n)[0]? = some (.int .u8 (x 0)) := cl_all _ n 0 (by omega)
  have g0 := cl_upd x n 0 (bits .xor .u8 (x 0) (bits .and .u8 a2 129))
  go_enter Try.func5, Try.ntmps5
  go_wp2_with fail
  refine (bytes_calls _ _ _ _ _ _ _ _ hm).mono ?_
  rintro e w' ⟨rfl, rfl⟩
  go_wp2_with fail
  refine (C1.out).mono ?_
  rintro e w' ⟨rfl, rfl⟩
  go_wp2_with fail
  refine (C2.out).mono ?_
  rintro e w' ⟨rfl, rfl⟩
  go_wp2_with fail
  rw [← HW'.out]
  clear f0 g0 HW' C1 C2
  refine (S1.out).mono ?_
  rintro e w1 ⟨rfl, hb1⟩
  go_wp2_with fail
  refine (M1.out _ hb1).mono ?_
  rintro e w2 ⟨rfl, rfl⟩
  cases s
  all_goals
    go_wp2_with fail
    refine (S2.out _ hb1).mono ?_
    rintro e w3 ⟨rfl, hb3⟩
    go_wp2
    go_ret
    refine ⟨rfl, ?_⟩
    have z1 := hWb.size
    have z2 := hb1.size
    exact Below.trans (Below.trans hWb (hb1.mono z1)) (hb3.mono (by omega))

set_option maxHeartbeats 2000000 in
set_option maxRecDepth 100000 in
theorem law_two (a0 : Int) (b off n c : Nat) (a2 a3 a4 : Int) (x : Nat → Int) (w : World) (hn : 2 ≤ n ∧ n < 3) (hm : (n : Int) ≤ 1048576) (hb : b < w.heap.size)
    (hc : ∀ i, i < n → w.cell? ⟨b, off + i, none⟩ = some (.int .u8 (x i))) (hx : ∀ i, 0 ≤ x i ∧ x i < 256) :
    Calls Try.prog 5 #[.int .u8 a0, .slice (some ⟨b, off, none⟩) n c, .int .u8 a2, .int .u8 a3, .int .u8 a4] w (RetTrue w) := by
  have l1 : (1 : Int) ≤ (n : Int) := by omega
  have l2 : (2 : Int) ≤ (n : Int) := by omega
  have k3 : (n : Int) < 3 := by omega
  have hy : ∀ i, 0 ≤ (upd (upd x 0 (bits .xor .u8 (x 0) (bits .and .u8 a2 129))) 1 (bits .xor .u8 (x 1) (bits .and .u8 a3 240))) i ∧ (upd (upd x 0 (bits .xor .u8 (x 0) (bits .and .u8 a2 129))) 1 (bits .xor .u8 (x 1) (bits .and .u8 a3 240))) i < 256 := (upd_range (upd_range hx 0 ⟨bits_lo_u8 _ _ _, Int.lt_add_one_of_le (bits_hi_u8 _ _ _)⟩) 1 ⟨bits_lo_u8 _ _ _, Int.lt_add_one_of_le (bits_hi_u8 _ _ _)⟩)
  have hs : succ a0 n (upd (upd x 0 (bits .xor .u8 (x 0) (bits .and .u8 a2 129))) 1 (bits .xor .u8 (x 1) (bits .and .u8 a3 240))) = succ a0 n x := by
    unfold succ
    rw [ok_short n _ (by omega), ok_short n _ (by omega)]
  have C1 : Hid (Calls Try.prog 10 #[.slice (some ⟨b, off, none⟩) n c] w fun e w' => e = .returned (.slice (some ⟨w.heap.size, 0, none⟩) n n) ∧ w' = w.alloc (.cells (cl x n n) 5)) :=
    clone_full b off n c x w (by omega) hm hb hc
  have C2 : Hid (Calls Try.prog 10 #[.slice (some ⟨w.heap.size, 0, none⟩) n n] (w.alloc (.cells (cl x n n) 5)) fun e w' => e = .returned (.slice (some ⟨w.heap.size + 1, 0, none⟩) n n) ∧ w' = (w.alloc (.cells (cl x n n) 5)).alloc (.cells (cl x n n) 5)) := by
    have := clone_full w.heap.size 0 n n x (w.alloc (.cells (cl x n n) 5)) (by omega) hm (by simp) (fun i hi => by rw [Nat.zero_add, World.cell?_alloc_at _ _ _ _ rfl]; exact cl_all x n i hi)
    unfold Hid
    simpa using this
  obtain ⟨W, HW⟩ : ∃ W, W = (w.alloc (.cells (cl x n n) 5)).alloc (.cells (cl (upd (upd x 0 (bits .xor .u8 (x 0) (bits .and .u8 a2 129))) 1 (bits .xor .u8 (x 1) (bits .and .u8 a3 240))) n n) 5) := ⟨_, rfl⟩
  have hWs : W.heap.size = w.heap.size + 1 + 1 := by subst HW; simp
  have hWx : ∀ i, i < n → W.cell? ⟨w.heap.size, i, none⟩ = some (.int .u8 (x i)) := fun i hi => by
    subst HW; rw [World.cell?_alloc_past _ _ _ (by simp), World.cell?_alloc_at _ _ _ _ rfl]; exact cl_all x n i hi
  have hWy : ∀ i, i < n → W.cell? ⟨w.heap.size + 1, i, none⟩ = some (.int .u8 ((upd (upd x 0 (bits .xor .u8 (x 0) (bits .and .u8 a2 129))) 1 (bits .xor .u8 (x 1) (bits .and .u8 a3 240))) i)) := fun i hi => by
    subst HW; rw [World.cell?_alloc_at _ _ _ _ (by simp)]; exact cl_all _ n i hi
  have hWb : Below w.heap.size w W := by subst HW; exact (((Below.refl _ w).alloc (Nat.le_refl _) _).alloc (by simp) _)
  have S1 : Hid (Calls Try.prog 11 #[.int .u8 a0, .slice (some ⟨w.heap.size, 0, none⟩) n n] W fun e w' => e = .returned (.bool (succ a0 n x)) ∧ Below W.heap.size W w') :=
    succ_calls a0 _ n x W hm hx (.inr ⟨_, rfl, by omega, hWx⟩)
  have M1 : Hid (∀ w1, Below W.heap.size W w1 → Calls Try.prog 12 #[.int .u8 a0, .slice (some ⟨w.heap.size, 0, none⟩) n n] w1 fun e w' => e = .returned (.bool (succ a0 n x)) ∧ w' = w1) :=
    fun w1 h1 => model_calls a0 _ n x w1 hm (.inr ⟨_, rfl, by have := h1.size; omega, fun i hi => (h1.cell (p := ⟨w.heap.size, i, none⟩) (by simp; omega)).trans (hWx i hi)⟩)
  have S2 : Hid (∀ w1, Below W.heap.size W w1 → Calls Try.prog 11 #[.int .u8 a0, .slice (some ⟨w.heap.size + 1, 0, none⟩) n n] w1 fun e w' => e = .returned (.bool (succ a0 n x)) ∧ Below w1.heap.size w1 w') := by
    intro w1 h1
    have := succ_calls a0 _ n (upd (upd x 0 (bits .xor .u8 (x 0) (bits .and .u8 a2 129))) 1 (bits .xor .u8 (x 1) (bits .and .u8 a3 240))) w1 hm hy (.inr ⟨_, rfl, by have := h1.size; omega, fun i hi => (h1.cell (p := ⟨w.heap.size + 1, i, none⟩) (by simp; omega)).trans (hWy i hi)⟩)
    rw [hs] at this
    exact this
  have HW' : Hid (W = (w.alloc (.cells (cl x n n) 5)).alloc (.cells (cl (upd (upd x 0 (bits .xor .u8 (x 0) (bits .and .u8 a2 129))) 1 (bits .xor .u8 (x 1) (bits .and .u8 a3 240))) n n) 5)) := HW
  have HWs : Hid (W.heap.size = w.heap.size + 1 + 1) := hWs
  clear hs hy hWx hWy hc hx HW hWs
  generalize succ a0 n x = s at S1 M1 S2
  have f0 : (cl x n n)[0]? = some (.int .u8 (x 0)) := cl_all _ n 0 (by omega)
  have g0 := cl_upd x n 0 (bits .xor .u8 (x 0) (bits .and .u8 a2 129))
  have f1 : (cl (upd x 0 (bits .xor .u8 (x 0) (bits .and .u8 a2 129))) n n)[1]? = some (.int .u8 (x 1)) := cl_all _ n 1 (by omega)
  have g1 := cl_upd (upd x 0 (bits .xor .u8 (x 0) (bits .and .u8 a2 129))) n 1 (bits .xor .u8 (x 1) (bits .and .u8 a3 240))
  go_enter Try.func5, Try.ntmps5
  go_wp2_with fail
  refine (bytes_calls _ _ _ _ _ _ _ _ hm).mono ?_
  rintro e w' ⟨rfl, rfl⟩
  go_wp2_with fail
  refine (C1.out).mono ?_
  rintro e w' ⟨rfl, rfl⟩
  go_wp2_with fail
  refine (C2.out).mono ?_
  rintro e w' ⟨rfl, rfl⟩
  go_wp2_with fail
  rw [← HW'.out]
  clear f0 g0 f1 g1 HW' C1 C2
  refine (S1.out).mono ?_
  rintro e w1 ⟨rfl, hb1⟩
  go_wp2_with fail
  refine (M1.out _ hb1).mono ?_
  rintro e w2 ⟨rfl, rfl⟩
  cases s
  all_goals
    go_wp2_with fail
    refine (S2.out _ hb1).mono ?_
    rintro e w3 ⟨rfl, hb3⟩
    go_wp2
    go_ret
    refine ⟨rfl, ?_⟩
    have z1 := hWb.size
    have z2 := hb1.size
    exact Below.trans (Below.trans hWb (hb1.mono z1)) (hb3.mono (by omega))

set_option maxHeartbeats 2000000 in
set_option maxRecDepth 100000 in
theorem law_three (a0 : Int) (b off n c : Nat) (a2 a3 a4 : Int) (x : Nat → Int) (w : World) (hn : 3 ≤ n) (hm : (n : Int) ≤ 1048576) (hb : b < w.heap.size)
    (hc : ∀ i, i < n → w.cell? ⟨b, off + i, none⟩ = some (.int .u8 (x i))) (hx : ∀ i, 0 ≤ x i ∧ x i < 256) (r2 : 0 ≤ a2 ∧ a2 < 256) (r3 : 0 ≤ a3 ∧ a3 < 256) (r4 : 0 ≤ a4 ∧ a4 < 256) :
    Calls Try.prog 5 #[.int .u8 a0, .slice (some ⟨b, off, none⟩) n c, .int .u8 a2, .int .u8 a3, .int .u8 a4] w (RetTrue w) := by
  have l1 : (1 : Int) ≤ (n : Int) := by omega
  have l2 : (2 : Int) ≤ (n : Int) := by omega
  have l3 : (3 : Int) ≤ (n : Int) := by omega
  have hy : ∀ i, 0 ≤ (upd (upd (upd x 0 (bits .xor .u8 (x 0) (bits .and .u8 a2 129))) 1 (bits .xor .u8 (x 1) (bits .and .u8 a3 240))) 2 (bits .xor .u8 (x 2) (bits .and .u8 a4 240))) i ∧ (upd (upd (upd x 0 (bits .xor .u8 (x 0) (bits .and .u8 a2 129))) 1 (bits .xor .u8 (x 1) (bits .and .u8 a3 240))) 2 (bits .xor .u8 (x 2) (bits .and .u8 a4 240))) i < 256 := (upd_range (upd_range (upd_range hx 0 ⟨bits_lo_u8 _ _ _, Int.lt_add_one_of_le (bits_hi_u8 _ _ _)⟩) 1 ⟨bits_lo_u8 _ _ _, Int.lt_add_one_of_le (bits_hi_u8 _ _ _)⟩) 2 ⟨bits_lo_u8 _ _ _, Int.lt_add_one_of_le (bits_hi_u8 _ _ _)⟩)
  have hs : succ a0 n (upd (upd (upd x 0 (bits .xor .u8 (x 0) (bits .and .u8 a2 129))) 1 (bits .xor .u8 (x 1) (bits .and .u8 a3 240))) 2 (bits .xor .u8 (x 2) (bits .and .u8 a4 240))) = succ a0 n x := by
    unfold succ
    rw [ok_flip n x a2 a3 a4 hx r2 r3 r4]
  have C1 : Hid (Calls Try.prog 10 #[.slice (some ⟨b, off, none⟩) n c] w fun e w' => e = .returned (.slice (some ⟨w.heap.size, 0, none⟩) n n) ∧ w' = w.alloc (.cells (cl x n n) 5)) :=
    clone_full b off n c x w (by omega) hm hb hc
  have C2 : Hid (Calls Try.prog 10 #[.slice (some ⟨w.heap.size, 0, none⟩) n n] (w.alloc (.cells (cl x n n) 5)) fun e w' => e = .returned (.slice (some ⟨w.heap.size + 1, 0, none⟩) n n) ∧ w' = (w.alloc (.cells (cl x n n) 5)).alloc (.cells (cl x n n) 5)) := by
    have := clone_full w.heap.size 0 n n x (w.alloc (.cells (cl x n n) 5)) (by omega) hm (by simp) (fun i hi => by rw [Nat.zero_add, World.cell?_alloc_at _ _ _ _ rfl]; exact cl_all x n i hi)
    unfold Hid
    simpa using this
  obtain ⟨W, HW⟩ : ∃ W, W = (w.alloc (.cells (cl x n n) 5)).alloc (.cells (cl (upd (upd (upd x 0 (bits .xor .u8 (x 0) (bits .and .u8 a2 129))) 1 (bits .xor .u8 (x 1) (bits .and .u8 a3 240))) 2 (bits .xor .u8 (x 2) (bits .and .u8 a4 240))) n n) 5) := ⟨_, rfl⟩
  have hWs : W.heap.size = w.heap.size + 1 + 1 := by subst HW; simp
  have hWx : ∀ i, i < n → W.cell? ⟨w.heap.size, i, none⟩ = some (.int .u8 (x i)) := fun i hi => by
    subst HW; rw [World.cell?_alloc_past _ _ _ (by simp), World.cell?_alloc_at _ _ _ _ rfl]; exact cl_all x n i hi
  have hWy : ∀ i, i < n → W.cell? ⟨w.heap.size + 1, i, none⟩ = some (.int .u8 ((upd (upd (upd x 0 (bits .xor .u8 (x 0) (bits .and .u8 a2 129))) 1 (bits .xor .u8 (x 1) (bits .and .u8 a3 240))) 2 (bits .xor .u8 (x 2) (bits .and .u8 a4 240))) i)) := fun i hi => by
    subst HW; rw [World.cell?_alloc_at _ _ _ _ (by simp)]; exact cl_all _ n i hi
  have hWb : Below w.heap.size w W := by subst HW; exact (((Below.refl _ w).alloc (Nat.le_refl _) _).alloc (by simp) _)
  have S1 : Hid (Calls Try.prog 11 #[.int .u8 a0, .slice (some ⟨w.heap.size, 0, none⟩) n n] W fun e w' => e = .returned (.bool (succ a0 n x)) ∧ Below W.heap.size W w') :=
    succ_calls a0 _ n x W hm hx (.inr ⟨_, rfl, by omega, hWx⟩)
  have M1 : Hid (∀ w1, Below W.heap.size W w1 → Calls Try.prog 12 #[.int .u8 a0, .slice (some ⟨w.heap.size, 0, none⟩) n n] w1 fun e w' => e = .returned (.bool (succ a0 n x)) ∧ w' = w1) :=
    fun w1 h1 => model_calls a0 _ n x w1 hm (.inr ⟨_, rfl, by have := h1.size; omega, fun i hi => (h1.cell (p := ⟨w.heap.size, i, none⟩) (by simp; omega)).trans (hWx i hi)⟩)
  have S2 : Hid (∀ w1, Below W.heap.size W w1 → Calls Try.prog 11 #[.int .u8 a0, .slice (some ⟨w.heap.size + 1, 0, none⟩) n n] w1 fun e w' => e = .returned (.bool (succ a0 n x)) ∧ Below w1.heap.size w1 w') := by
    intro w1 h1
    have := succ_calls a0 _ n (upd (upd (upd x 0 (bits .xor .u8 (x 0) (bits .and .u8 a2 129))) 1 (bits .xor .u8 (x 1) (bits .and .u8 a3 240))) 2 (bits .xor .u8 (x 2) (bits .and .u8 a4 240))) w1 hm hy (.inr ⟨_, rfl, by have := h1.size; omega, fun i hi => (h1.cell (p := ⟨w.heap.size + 1, i, none⟩) (by simp; omega)).trans (hWy i hi)⟩)
    rw [hs] at this
    exact this
  have HW' : Hid (W = (w.alloc (.cells (cl x n n) 5)).alloc (.cells (cl (upd (upd (upd x 0 (bits .xor .u8 (x 0) (bits .and .u8 a2 129))) 1 (bits .xor .u8 (x 1) (bits .and .u8 a3 240))) 2 (bits .xor .u8 (x 2) (bits .and .u8 a4 240))) n n) 5)) := HW
  have HWs : Hid (W.heap.size = w.heap.size + 1 + 1) := hWs
  clear hs hy hWx hWy hc hx HW hWs r2 r3 r4
  generalize succ a0 n x = s at S1 M1 S2
  have f0 : (cl x n n)[0]? = some (.int .u8 (x 0)) := cl_all _ n 0 (by omega)
  have g0 := cl_upd x n 0 (bits .xor .u8 (x 0) (bits .and .u8 a2 129))
  have f1 : (cl (upd x 0 (bits .xor .u8 (x 0) (bits .and .u8 a2 129))) n n)[1]? = some (.int .u8 (x 1)) := cl_all _ n 1 (by omega)
  have g1 := cl_upd (upd x 0 (bits .xor .u8 (x 0) (bits .and .u8 a2 129))) n 1 (bits .xor .u8 (x 1) (bits .and .u8 a3 240))
  have f2 : (cl (upd (upd x 0 (bits .xor .u8 (x 0) (bits .and .u8 a2 129))) 1 (bits .xor .u8 (x 1) (bits .and .u8 a3 240))) n n)[2]? = some (.int .u8 (x 2)) := cl_all _ n 2 (by omega)
  have g2 := cl_upd (upd (upd x 0 (bits .xor .u8 (x 0) (bits .and .u8 a2 129))) 1 (bits .xor .u8 (x 1) (bits .and .u8 a3 240))) n 2 (bits .xor .u8 (x 2) (bits .and .u8 a4 240))
  go_enter Try.func5, Try.ntmps5
  go_wp2_with fail
  refine (bytes_calls _ _ _ _ _ _ _ _ hm).mono ?_
  rintro e w' ⟨rfl, rfl⟩
  go_wp2_with fail
  refine (C1.out).mono ?_
  rintro e w' ⟨rfl, rfl⟩
  go_wp2_with fail
  refine (C2.out).mono ?_
  rintro e w' ⟨rfl, rfl⟩
  go_wp2_with fail
  rw [← HW'.out]
  clear f0 g0 f1 g1 f2 g2 HW' C1 C2
  refine (S1.out).mono ?_
  rintro e w1 ⟨rfl, hb1⟩
  go_wp2_with fail
  refine (M1.out _ hb1).mono ?_
  rintro e w2 ⟨rfl, rfl⟩
  cases s
  all_goals
    go_wp2_with fail
    refine (S2.out _ hb1).mono ?_
    rintro e w3 ⟨rfl, hb3⟩
    go_wp2
    go_ret
    refine ⟨rfl, ?_⟩
    have z1 := hWb.size
    have z2 := hb1.size
    exact Below.trans (Below.trans hWb (hb1.mono z1)) (hb3.mono (by omega))
end Go.Proofs.Qxb6605953a.Sens
