/-
  Succeeded and succeededModel answer alike: by 'succ'.
-/
import Derived.Test.Qxb6605953aSensD
namespace Go.Proofs.Qxb6605953a.Sens
open Go.RowKit
attribute [local go_sem] setCell_drewN alloc_drewN

/-- Sense data as the two functions meet it: no bytes, or a row from the head of a block on. -/
def Buf (w : World) (a : Option Addr) (n : Nat) (x : Nat → Int) : Prop :=
  n = 0 ∨ ∃ g, a = some ⟨g, 0, none⟩ ∧ g < w.heap.size ∧ ∀ i, i < n → w.cell? ⟨g, i, none⟩ = some (.int .u8 (x i))

def succ (st : Int) (n : Nat) (x : Nat → Int) : Bool := (st == 0) || ((st == 2) && senseOk n x)

theorem decode_buf (a : Option Addr) (n : Nat) (x : Nat → Int) (w : World) (hm : (n : Int) ≤ 1048576) (hx : ∀ i, 0 ≤ x i ∧ x i < 256) (hb : Buf w a n x) :
    Calls Try.prog 22 #[.slice a n n] w (RetDec n x w) := by
  rcases hb with rfl | ⟨g, rfl, hg, hc⟩
  · exact decode_empty _ _ _
  · exact decode_any g n x w hm hg hc hx

set_option maxHeartbeats 1000000 in
set_option maxRecDepth 100000 in
theorem succ_calls (st : Int) (a : Option Addr) (n : Nat) (x : Nat → Int) (w : World) (hm : (n : Int) ≤ 1048576) (hx : ∀ i, 0 ≤ x i ∧ x i < 256) (hb : Buf w a n x) :
    Calls Try.prog 11 #[.int .u8 st, .slice a n n] w fun e w' => e = .returned (.bool (succ st n x)) ∧ Below w.heap.size w w' := by
  by_cases h0 : st = 0
  · subst h0
    have HS : Hid (succ 0 n x = true) := by simp [Hid, succ]
    clear hb hx
    go_enter Try.func11, Try.ntmps11
    go_wp2
    go_ret
    rw [HS.out]
    exact ⟨rfl, Below.refl _ _⟩
  by_cases h2 : st = 2
  · subst h2
    have HS : Hid (succ 2 n x = senseOk n x) := by simp [Hid, succ]
    have u := decode_buf a n x w hm hx hb
    have U : Hid (Calls Try.prog 22 #[.slice a n n] w (RetDec n x w)) := u
    clear u hx hb
    go_enter Try.func11, Try.ntmps11
    go_wp2_with fail
    refine (U.out).mono ?_
    rintro e w1 ⟨f, k, ⟨v, rfl, ⟨d, a1, q, hh, i, j, rfl⟩, hb⟩, hok⟩
    have HOK : Hid _ := hok
    clear hok
    cases hf1 : (f == 1) <;> cases hf2 : (f == 2) <;> cases hk : (k == 1)
    all_goals
      go_wp2
      go_ret
      rw [HS.out, ← HOK.out]
      refine ⟨by simp [hf1, hf2, hk], ?_⟩
      repeat (first | exact hb | (refine Below.alloc ?_ (by have := hb.size; simp; try omega) _))
  · have e0 : (st == 0) = false := by simp [h0]
    have e2 : (st == 2) = false := by simp [h2]
    have HS : Hid (succ st n x = false) := by simp [Hid, succ, e0, e2]
    clear hb hx
    go_enter Try.func11, Try.ntmps11
    go_wp2
    go_ret
    rw [HS.out]
    exact ⟨rfl, Below.refl _ _⟩

set_option maxHeartbeats 1000000 in
set_option maxRecDepth 100000 in
theorem model_calls (st : Int) (a : Option Addr) (n : Nat) (x : Nat → Int) (w : World) (hm : (n : Int) ≤ 1048576) (hb : Buf w a n x) :
    Calls Try.prog 12 #[.int .u8 st, .slice a n n] w fun e w' => e = .returned (.bool (succ st n x)) ∧ w' = w := by
  by_cases h0 : st = 0
  · subst h0
    have HS : Hid (succ 0 n x = true) := by simp [Hid, succ]
    clear hb
    go_enter Try.func12, Try.ntmps12
    go_wp2
    go_ret
    rw [HS.out]
    exact ⟨rfl, rfl⟩
  by_cases h2 : st = 2
  · subst h2
    by_cases hn : n = 0
    · subst hn
      have HS : Hid (succ 2 0 x = false) := by simp [Hid, succ, senseOk]
      clear hb
      go_enter Try.func12, Try.ntmps12
      go_wp2
      go_ret
      rw [HS.out]
      exact ⟨rfl, rfl⟩
    obtain ⟨g, rfl, hg, hc⟩ := hb.resolve_left hn
    have hn0 : ((n : Int) == 0) = false := by simp; omega
    have hl0 : (0 : Int) < (n : Int) := by omega
    have c0 := hc 0 (by omega)
    clear hb
    obtain ⟨c, hcode⟩ : ∃ c, bits BinOp.and IntKind.u8 (x 0) 127 = c := ⟨_, rfl⟩
    have hcd : code x = c := hcode
    by_cases hf : c = 112 ∨ c = 113
    · by_cases h3 : (3 : Int) ≤ (n : Int)
      · have HS : Hid (succ 2 n x = (bits BinOp.and IntKind.u8 (x 2) 15 == 1)) := by
          have h3' : 3 ≤ n := by omega
          rcases hf with h | h <;> simp [Hid, succ, senseOk, hcd, h, h3', hn]
        have c2 := hc 2 (by omega)
        clear hc hcd
        rcases hf with rfl | rfl
        all_goals
          go_enter Try.func12, Try.ntmps12
          go_wp2
          go_ret
          rw [HS.out]
          exact ⟨rfl, rfl⟩
      · have HS : Hid (succ 2 n x = false) := by
          have h3' : ¬ 3 ≤ n := by omega
          rcases hf with h | h <;> simp [Hid, succ, senseOk, hcd, h, h3']
        clear hc hcd
        rcases hf with rfl | rfl
        all_goals
          go_enter Try.func12, Try.ntmps12
          go_wp2
          go_ret
          rw [HS.out]
          exact ⟨rfl, rfl⟩
    by_cases hd : c = 114 ∨ c = 115
    · by_cases h4 : (4 : Int) ≤ (n : Int)
      · have HS : Hid (succ 2 n x = (bits BinOp.and IntKind.u8 (x 1) 15 == 1)) := by
          have h4' : 4 ≤ n := by omega
          rcases hd with h | h <;> simp [Hid, succ, senseOk, hcd, h, h4', hn]
        have c1 := hc 1 (by omega)
        clear hc hcd
        rcases hd with rfl | rfl
        all_goals
          go_enter Try.func12, Try.ntmps12
          go_wp2
          go_ret
          rw [HS.out]
          exact ⟨rfl, rfl⟩
      · have HS : Hid (succ 2 n x = false) := by
          have h4' : ¬ 4 ≤ n := by omega
          rcases hd with h | h <;> simp [Hid, succ, senseOk, hcd, h, h4']
        clear hc hcd
        rcases hd with rfl | rfl
        all_goals
          go_enter Try.func12, Try.ntmps12
          go_wp2
          go_ret
          rw [HS.out]
          exact ⟨rfl, rfl⟩
    have HS : Hid (succ 2 n x = false) := by simp [Hid, succ, senseOk, hcd, hf, hd]
    have k2 : (c == 112) = false := by simp only [beq_eq_false_iff_ne]; intro e; exact hf (.inl e)
    have k3 : (c == 113) = false := by simp only [beq_eq_false_iff_ne]; intro e; exact hf (.inr e)
    have k4 : (c == 114) = false := by simp only [beq_eq_false_iff_ne]; intro e; exact hd (.inl e)
    have k5 : (c == 115) = false := by simp only [beq_eq_false_iff_ne]; intro e; exact hd (.inr e)
    clear hc hcd hf hd
    go_enter Try.func12, Try.ntmps12
    go_wp2
    go_ret
    rw [HS.out]
    exact ⟨rfl, rfl⟩
  · have e0 : (st == 0) = false := by simp [h0]
    have e2 : (st != 2) = true := by simp [h2]
    have HS : Hid (succ st n x = false) := by simp [Hid, succ, e0, h2]
    clear hb
    go_enter Try.func12, Try.ntmps12
    go_wp2
    go_ret
    rw [HS.out]
    exact ⟨rfl, rfl⟩

theorem bytes_calls (a0 : Int) (a1 : Option Addr) (n c : Nat) (a2 a3 a4 : Int) (w : World) (hm : (n : Int) ≤ 1048576) :
    Calls Try.prog 9 #[.int .u8 a0, .slice a1 n c, .int .u8 a2, .int .u8 a3, .int .u8 a4] w fun e w' => e = .returned (.bool true) ∧ w' = w := by
  go_enter Try.func9, Try.ntmps9
  go_wp2
  go_ret
  exact ⟨rfl, rfl⟩

theorem bytes_no (a0 : Int) (a1 : Option Addr) (n c : Nat) (a2 a3 a4 : Int) (w : World) (hm : ¬ (n : Int) ≤ 1048576) :
    Calls Try.prog 9 #[.int .u8 a0, .slice a1 n c, .int .u8 a2, .int .u8 a3, .int .u8 a4] w fun e w' => e = .returned (.bool false) ∧ w' = w := by
  go_enter Try.func9, Try.ntmps9
  go_wp2
  go_ret
  exact ⟨rfl, rfl⟩
end Go.Proofs.Qxb6605953a.Sens
