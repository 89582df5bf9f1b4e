/-
  DecodeSense: whether its answer tells RECOVERED ERROR is the plain function 'senseOk'.
-/
import Derived.Test.Qxb6605953aSensC
namespace Go.Proofs.Qxb6605953a.Sens
open Go.RowKit
attribute [local go_sem ↓] Go.wp_at_zero Go.wp_at_succ
attribute [local go_sem] setCell_drewN alloc_drewN

/-- The response code of the first byte. -/
def code (x : Nat → Int) : Int := bits BinOp.and IntKind.u8 (x 0) 127
/-- Does sense data of n bytes x tell RECOVERED ERROR? -/
def senseOk (n : Nat) (x : Nat → Int) : Bool :=
  decide (n ≠ 0) && ((decide (code x = 112 ∨ code x = 113) && decide (3 ≤ n) && (bits BinOp.and IntKind.u8 (x 2) 15 == 1))
    || (decide (code x = 114 ∨ code x = 115) && decide (4 ≤ n) && (bits BinOp.and IntKind.u8 (x 1) 15 == 1)))

def RetDec (n : Nat) (x : Nat → Int) (w : World) (e : Ending) (w' : World) : Prop :=
  ∃ f k, RetSense f k w e w' ∧ ((f == 1 || f == 2) && (k == 1)) = senseOk n x

theorem retDec_zero {n : Nat} {x : Nat → Int} {w w' : World} {f k : Int} {d : Bool} {a q : Int} {h : Bool} {i : Int} {j : Bool} (hs : senseOk n x = false) (hf : ((f == 1 || f == 2) && (k == 1)) = false) (hb : Below w.heap.size w w') :
    RetDec n x w (.returned (.agg #[.int .u8 f, .bool d, .int .u8 k, .int .u8 a, .int .u8 q, .bool h, .int .u64 i, .bool j])) w' :=
  ⟨f, k, retSense_mk hb, by rw [hs, hf]⟩

/-- The result's variable behind a callee. -/
theorem kept8 {w w1 : World} (hb : Below (w.alloc Z74).heap.size (w.alloc Z74) w1) :
    w1.cell? ⟨w.heap.size, 0, none⟩ = some (.int .u8 0) ∧ w1.cell? ⟨w.heap.size, 1, none⟩ = some (.bool false) ∧ w1.cell? ⟨w.heap.size, 2, none⟩ = some (.int .u8 0) ∧ w1.cell? ⟨w.heap.size, 3, none⟩ = some (.int .u8 0) ∧
    w1.cell? ⟨w.heap.size, 4, none⟩ = some (.int .u8 0) ∧ w1.cell? ⟨w.heap.size, 5, none⟩ = some (.bool false) ∧ w1.cell? ⟨w.heap.size, 6, none⟩ = some (.int .u64 0) ∧ w1.cell? ⟨w.heap.size, 7, none⟩ = some (.bool false) ∧
    ∀ o, w1.frozen? ⟨w.heap.size, o, none⟩ = false := by
  have hc : ∀ o, w1.cell? ⟨w.heap.size, o, none⟩ = (w.alloc Z74).cell? ⟨w.heap.size, o, none⟩ := fun o => hb.cell (p := ⟨w.heap.size, o, none⟩) (by simp)
  have hf : ∀ o, w1.frozen? ⟨w.heap.size, o, none⟩ = (w.alloc Z74).frozen? ⟨w.heap.size, o, none⟩ := fun o => hb.frozen (p := ⟨w.heap.size, o, none⟩) (by simp)
  refine ⟨?_, ?_, ?_, ?_, ?_, ?_, ?_, ?_, fun o => ?_⟩
  all_goals first | (rw [hc, World.cell?_alloc_at _ _ _ _ rfl]; rfl) | (rw [hf, World.frozen?_alloc_at _ _ _ _ rfl])

set_option maxHeartbeats 1000000 in
set_option maxRecDepth 100000 in
theorem decode_empty (a : Option Addr) (x : Nat → Int) (w : World) :
    Calls Try.prog 22 #[.slice a 0 0] w (RetDec 0 x w) := by
  have hs : senseOk 0 x = false := by simp [senseOk]
  have HS : Hid (senseOk 0 x = false) := hs
  clear hs
  go_enter Try.func22, Try.ntmps22
  go_wp2
  refine ⟨rfl, ?_⟩
  apply Exists.intro
  constructor
  · simp [results, Try.results22, go_sem]
    rfl
  · refine retDec_zero HS.out (by decide) ?_
    repeat (first | exact Below.refl _ _ | apply below_drewN | apply Below.drew | (refine Below.alloc ?_ (by simp; try omega) _))

set_option maxHeartbeats 1000000 in
set_option maxRecDepth 100000 in
theorem decode_fixed (g n : Nat) (x : Nat → Int) (c : Int) (w : World) (hn : (0 : Int) < (n : Int)) (hm : (n : Int) ≤ 1048576) (hg : g < w.heap.size)
    (hc : ∀ i, i < n → w.cell? ⟨g, i, none⟩ = some (.int .u8 (x i))) (hx : ∀ i, 0 ≤ x i ∧ x i < 256) (hcode : bits BinOp.and IntKind.u8 (x 0) 127 = c) (h : c = 112 ∨ c = 113) :
    Calls Try.prog 22 #[.slice (some ⟨g, 0, none⟩) n n] w (RetDec n x w) := by
  have c0 := hc 0 (by omega)
  have hcd : code x = c := hcode
  have hn0 : ((n : Int) == 0) = false := by simp; omega
  by_cases h3 : (3 : Int) ≤ (n : Int)
  · have hs : (((1 : Int) == 1 || (1 : Int) == 2) && (bits BinOp.and IntKind.u8 (x 2) 15 == 1)) = senseOk n x := by
      have h3' : 3 ≤ n := by omega
      have h1 : n ≠ 0 := by omega
      rcases h with h | h <;> simp [senseOk, hcd, h, h3', h1]
    have HS : Hid _ := hs
    have u := fun o => fixed_any g n x (w.alloc o) h3 hm (by simp; omega) (fun i hi => by rw [World.cell?_alloc_past _ _ _ hg]; exact hc i hi) hx
    clear hc hx hs hcd
    rcases h with rfl | rfl
    all_goals
      go_enter Try.func22, Try.ntmps22
      go_wp2_with (go_at_call 26; refine (u _).mono ?_; rintro e w1 ⟨v, rfl, ⟨d, a, q, hh, i, j, rfl⟩, hb⟩; obtain ⟨k0, k1, k2, k3, k4, k5, k6, k7, kf⟩ := kept8 hb)
      refine ⟨rfl, ?_⟩
      apply Exists.intro
      constructor
      · simp [results, Try.results22, go_sem, k0, k1, k2, k3, k4, k5, k6, k7]
        rfl
      · refine ⟨_, _, retSense_mk ?_, HS.out⟩
        repeat (refine Below.setCell ?_ (by simp) _)
        exact (((Below.refl _ w).alloc (Nat.le_refl _) _).trans (hb.mono (by simp)))
  · have hs : senseOk n x = false := by
      have h3' : ¬ 3 ≤ n := by omega
      rcases h with h | h <;> simp [senseOk, hcd, h, h3']
    have HS : Hid _ := hs
    clear hc hx hs hcd
    rcases h with rfl | rfl
    all_goals
      go_enter Try.func22, Try.ntmps22
      go_wp2
      refine ⟨rfl, ?_⟩
      apply Exists.intro
      constructor
      · simp [results, Try.results22, go_sem]
        rfl
      · refine retDec_zero HS.out (by decide) ?_
        repeat (first | exact Below.refl _ _ | apply below_drewN | apply Below.drew | (refine Below.alloc ?_ (by simp; try omega) _))

set_option maxHeartbeats 1000000 in
set_option maxRecDepth 100000 in
theorem decode_descr (g n : Nat) (x : Nat → Int) (c : Int) (w : World) (hn : (0 : Int) < (n : Int)) (hm : (n : Int) ≤ 1048576) (hg : g < w.heap.size)
    (hc : ∀ i, i < n → w.cell? ⟨g, i, none⟩ = some (.int .u8 (x i))) (hx : ∀ i, 0 ≤ x i ∧ x i < 256) (hcode : bits BinOp.and IntKind.u8 (x 0) 127 = c) (h : c = 114 ∨ c = 115) :
    Calls Try.prog 22 #[.slice (some ⟨g, 0, none⟩) n n] w (RetDec n x w) := by
  have c0 := hc 0 (by omega)
  have hcd : code x = c := hcode
  have hn0 : ((n : Int) == 0) = false := by simp; omega
  by_cases h3 : (4 : Int) ≤ (n : Int)
  · have hs : (((2 : Int) == 1 || (2 : Int) == 2) && (bits BinOp.and IntKind.u8 (x 1) 15 == 1)) = senseOk n x := by
      have h3' : 4 ≤ n := by omega
      have h1 : n ≠ 0 := by omega
      rcases h with h | h <;> simp [senseOk, hcd, h, h3', h1]
    have HS : Hid _ := hs
    have u := fun o => descr_any g n x (w.alloc o) h3 hm (by simp; omega) (fun i hi => by rw [World.cell?_alloc_past _ _ _ hg]; exact hc i hi) hx
    clear hc hx hs hcd
    rcases h with rfl | rfl
    all_goals
      go_enter Try.func22, Try.ntmps22
      go_wp2_with (go_at_call 27; refine (u _).mono ?_; rintro e w1 ⟨v, rfl, ⟨d, a, q, hh, i, j, rfl⟩, hb⟩; obtain ⟨k0, k1, k2, k3, k4, k5, k6, k7, kf⟩ := kept8 hb)
      refine ⟨rfl, ?_⟩
      apply Exists.intro
      constructor
      · simp [results, Try.results22, go_sem, k0, k1, k2, k3, k4, k5, k6, k7]
        rfl
      · refine ⟨_, _, retSense_mk ?_, HS.out⟩
        repeat (refine Below.setCell ?_ (by simp) _)
        exact (((Below.refl _ w).alloc (Nat.le_refl _) _).trans (hb.mono (by simp)))
  · have hs : senseOk n x = false := by
      have h3' : ¬ 4 ≤ n := by omega
      rcases h with h | h <;> simp [senseOk, hcd, h, h3']
    have HS : Hid _ := hs
    clear hc hx hs hcd
    rcases h with rfl | rfl
    all_goals
      go_enter Try.func22, Try.ntmps22
      go_wp2
      refine ⟨rfl, ?_⟩
      apply Exists.intro
      constructor
      · simp [results, Try.results22, go_sem]
        rfl
      · refine retDec_zero HS.out (by decide) ?_
        repeat (first | exact Below.refl _ _ | apply below_drewN | apply Below.drew | (refine Below.alloc ?_ (by simp; try omega) _))

set_option maxHeartbeats 1000000 in
set_option maxRecDepth 100000 in
theorem decode_other (g n : Nat) (x : Nat → Int) (w : World) (hn : (0 : Int) < (n : Int)) (hm : (n : Int) ≤ 1048576) (hg : g < w.heap.size)
    (hc : ∀ i, i < n → w.cell? ⟨g, i, none⟩ = some (.int .u8 (x i))) (h : ¬ (code x = 112 ∨ code x = 113 ∨ code x = 114 ∨ code x = 115)) :
    Calls Try.prog 22 #[.slice (some ⟨g, 0, none⟩) n n] w (RetDec n x w) := by
  have c0 := hc 0 (by omega)
  have hn0 : ((n : Int) == 0) = false := by simp; omega
  have hs : senseOk n x = false := by
    simp only [not_or] at h
    simp [senseOk, h.1, h.2.1, h.2.2.1, h.2.2.2]
  have HS : Hid _ := hs
  have k2 : (bits BinOp.and IntKind.u8 (x 0) 127 == 112) = false := by simp only [beq_eq_false_iff_ne]; intro e; exact h (.inl e)
  have k3 : (bits BinOp.and IntKind.u8 (x 0) 127 == 113) = false := by simp only [beq_eq_false_iff_ne]; intro e; exact h (.inr (.inl e))
  have k4 : (bits BinOp.and IntKind.u8 (x 0) 127 == 114) = false := by simp only [beq_eq_false_iff_ne]; intro e; exact h (.inr (.inr (.inl e)))
  have k5 : (bits BinOp.and IntKind.u8 (x 0) 127 == 115) = false := by simp only [beq_eq_false_iff_ne]; intro e; exact h (.inr (.inr (.inr e)))
  clear hc hs h
  go_enter Try.func22, Try.ntmps22
  go_wp2
  all_goals
    refine ⟨rfl, ?_⟩
    apply Exists.intro
    constructor
    · simp [results, Try.results22, go_sem]
      rfl
    · refine retDec_zero HS.out (by decide) ?_
      repeat (first | exact Below.refl _ _ | apply below_drewN | apply Below.drew | (refine Below.alloc ?_ (by simp; try omega) _))

theorem decode_any (g n : Nat) (x : Nat → Int) (w : World) (hm : (n : Int) ≤ 1048576) (hg : g < w.heap.size)
    (hc : ∀ i, i < n → w.cell? ⟨g, i, none⟩ = some (.int .u8 (x i))) (hx : ∀ i, 0 ≤ x i ∧ x i < 256) :
    Calls Try.prog 22 #[.slice (some ⟨g, 0, none⟩) n n] w (RetDec n x w) := by
  by_cases h0 : n = 0
  · subst h0; exact decode_empty _ _ _
  have hn : (0 : Int) < (n : Int) := by omega
  by_cases h1 : code x = 112 ∨ code x = 113
  · exact decode_fixed g n x _ w hn hm hg hc hx rfl h1
  by_cases h2 : code x = 114 ∨ code x = 115
  · exact decode_descr g n x _ w hn hm hg hc hx rfl h2
  · exact decode_other g n x w hn hm hg hc (by rintro (h | h | h | h) <;> simp_all)
end Go.Proofs.Qxb6605953a.Sens
