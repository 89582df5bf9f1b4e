/-
  readInt at a place where a decimal numeral stands: the digits, told by letters.
-/
import Derived.Test.Qxb6606012aFmtJoinW
import Derived.Test.Qxb6606012aFmtDec
namespace Go.Proofs.Qxb6606012aFmt
open Go.RowKit

/-- From place st on stand L digits, 'dg' told as bytes Y; what t of them spell is 'ac t'; behind them the text ends or a '_' stands. -/
structure Num (s : ByteArray) (Y : Nat → Int) (st L : Nat) (ac : Nat → Int) (U : Int) : Prop where
  bytes : ∀ k (h : k < s.size), ((s[k]'h).toNat : Int) = Y k
  room : st + L ≤ s.size
  one : 1 ≤ L
  lo : ∀ t, t < L → 48 ≤ Y (st + t)
  hi : ∀ t, t < L → Y (st + t) ≤ 57
  zero : ac 0 = 0
  step : ∀ t, t < L → ac (t + 1) = ac t * 10 + (Y (st + t) - 48)
  all : ac L = U
  nonneg : ∀ t, 0 ≤ ac t
  le : ∀ t, ac t ≤ U
  first : 1 < L → Y st ≠ 48
  tail : st + L = s.size ∨ (st + L < s.size ∧ Y (st + L) = 95)

theorem ret_tup {a b : Int} (h : a = b) (x : Int) : Ending.returned (.tuple #[.int .i64 a, .int .i64 x, .bool true]) = .returned (.tuple #[.int .i64 b, .int .i64 x, .bool true]) := by rw [h]

set_option maxHeartbeats 2000000 in
set_option maxRecDepth 100000 in
theorem read_pos (s : ByteArray) (Y : Nat → Int) (st L : Nat) (ac : Nat → Int) (U : Int) (w : World) (h : Num s Y st L ac U) (hs : (s.size : Int) ≤ 1000) (hU : U ≤ 9223372036854775807) :
    Calls Tryf.prog 7 #[.string s, .int .i64 st] w fun e w' => e = .returned (.tuple #[.int .i64 U, .int .i64 ((st : Int) + (L : Int)), .bool true]) ∧ w' = w := by
  have hone := h.one
  have hroom := h.room
  have e0 := h.bytes st (by omega)
  have l0 : 48 ≤ Y st := h.lo 0 (by omega)
  have h0 : Y st ≤ 57 := h.hi 0 (by omega)
  have n45 : (Y st == 45) = false := by rw [beq_eq_false_iff_ne]; omega
  have lst : (st : Int) < (s.size : Int) := by omega
  have H : Hid (Num s Y st L ac U) := h
  have hz : Hid (ac 0 = 0) := h.zero
  clear h
  go_enter Tryf.func7, Tryf.ntmps7
  go_wp2
  go_loop [1, 9] (fun p u => ∃ t : Nat, t ≤ L ∧ p = .int .i64 ((st : Int) + (t : Int)) ∧ u = .int .u64 (ac t)) (fun p _ => st + L - (intOf p).toNat)
  case atStart => exact ⟨0, by omega, by simp, by rw [hz.out]⟩
  case round =>
    obtain ⟨t, ht, rfl, rfl⟩ := hrel
    have a0 := H.out.nonneg t
    have aU := H.out.le t
    by_cases hlt : t < L
    · have ek := H.out.bytes (st + t) (by omega)
      have yl := H.out.lo t hlt
      have yh := H.out.hi t hlt
      have HST : Hid (ac (t + 1) = ac t * 10 + (Y (st + t) - 48)) := H.out.step t hlt
      have aU1 : ac t * 10 + (Y (st + t) - 48) ≤ U := by have := H.out.le (t + 1); have := HST.out; omega
      have hov : ac t ≤ (18446744073709551615 - (Y (st + t) - 48)) / 10 := by omega
      have hin : (st : Int) + (t : Int) < (s.size : Int) := by omega
      have hin2 : st + t < s.size := by omega
      clear e0
      go_wp2
      go_round
      case rel => exact ⟨t + 1, by omega, by go_num, by rw [HST.out]⟩
      case measure => simp [intOf]; omega
    · obtain rfl : t = L := by omega
      have HA : Hid (ac t = U) := H.out.all
      rcases H.out.tail with htl | ⟨htl, h95⟩
      · have hsz : (s.size : Int) ≤ (st : Int) + (t : Int) := by omega
        clear htl
        by_cases h1 : 1 < t
        · have hf : (Y st == 48) = false := by rw [beq_eq_false_iff_ne]; exact H.out.first h1
          have h1' : (1 : Int) < (st : Int) + (t : Int) - (st : Int) := by omega
          go_wp2
          go_ret3
          exact ⟨ret_tup HA.out _, rfl⟩
        · have h1' : (st : Int) + (t : Int) - (st : Int) ≤ 1 := by omega
          go_wp2
          go_ret3
          exact ⟨ret_tup HA.out _, rfl⟩
      · have ek := (H.out.bytes (st + t) htl).trans h95
        have hin : (st : Int) + (t : Int) < (s.size : Int) := by omega
        clear h95
        by_cases h1 : 1 < t
        · have hf : (Y st == 48) = false := by rw [beq_eq_false_iff_ne]; exact H.out.first h1
          have h1' : (1 : Int) < (st : Int) + (t : Int) - (st : Int) := by omega
          go_wp2
          go_ret3
          exact ⟨ret_tup HA.out _, rfl⟩
        · have h1' : (st : Int) + (t : Int) - (st : Int) ≤ 1 := by omega
          go_wp2
          go_ret3
          exact ⟨ret_tup HA.out _, rfl⟩

theorem neg_wrap (U : Int) (h0 : 1 ≤ U) (h1 : U ≤ 9223372036854775808) : wrap64 (-(wrap64 U)) = -U := by unfold wrap64; omega

set_option maxHeartbeats 2000000 in
set_option maxRecDepth 100000 in
theorem read_neg (s : ByteArray) (Y : Nat → Int) (p0 L : Nat) (ac : Nat → Int) (U : Int) (w : World) (h : Num s Y (p0 + 1) L ac U) (hm : Y p0 = 45) (hs : (s.size : Int) ≤ 1000) (hU1 : 1 ≤ U) (hU : U ≤ 9223372036854775808) :
    Calls Tryf.prog 7 #[.string s, .int .i64 p0] w fun e w' => e = .returned (.tuple #[.int .i64 (-U), .int .i64 ((p0 : Int) + 1 + (L : Int)), .bool true]) ∧ w' = w := by
  have hone := h.one
  have hroom := h.room
  have em := (h.bytes p0 (by omega)).trans hm
  have e0 := h.bytes (p0 + 1) (by omega)
  have l0 : 48 ≤ Y (p0 + 1) := h.lo 0 (by omega)
  have h0 : Y (p0 + 1) ≤ 57 := h.hi 0 (by omega)
  have lst : (p0 : Int) < (s.size : Int) := by omega
  have H : Hid (Num s Y (p0 + 1) L ac U) := h
  have hz : Hid (ac 0 = 0) := h.zero
  clear h hm
  go_enter Tryf.func7, Tryf.ntmps7
  go_wp2
  go_loop [1, 9] (fun p u => ∃ t : Nat, t ≤ L ∧ p = .int .i64 ((p0 : Int) + 1 + (t : Int)) ∧ u = .int .u64 (ac t)) (fun p _ => p0 + 1 + L - (intOf p).toNat)
  case atStart => exact ⟨0, by omega, by simp, by rw [hz.out]⟩
  case round =>
    obtain ⟨t, ht, rfl, rfl⟩ := hrel
    have a0 := H.out.nonneg t
    have aU := H.out.le t
    by_cases hlt : t < L
    · have ek := H.out.bytes (p0 + 1 + t) (by omega)
      have yl := H.out.lo t hlt
      have yh := H.out.hi t hlt
      have HST : Hid (ac (t + 1) = ac t * 10 + (Y (p0 + 1 + t) - 48)) := H.out.step t hlt
      have aU1 : ac t * 10 + (Y (p0 + 1 + t) - 48) ≤ U := by have := H.out.le (t + 1); have := HST.out; omega
      have hov : ac t ≤ (18446744073709551615 - (Y (p0 + 1 + t) - 48)) / 10 := by omega
      have hin : (p0 : Int) + 1 + (t : Int) < (s.size : Int) := by omega
      have hin2 : p0 + 1 + t < s.size := by omega
      clear e0 em
      go_wp2
      go_round
      case rel => exact ⟨t + 1, by omega, by go_num, by rw [HST.out]⟩
      case measure => simp [intOf]; omega
    · obtain rfl : t = L := by omega
      have HA : Hid (ac t = U) := H.out.all
      have a1 : 1 ≤ ac t := by rw [HA.out]; exact hU1
      have n0 : (ac t == 0) = false := by rw [beq_eq_false_iff_ne]; omega
      have a2 : ac t ≤ 9223372036854775808 := by omega
      rcases H.out.tail with htl | ⟨htl, h95⟩
      · have hsz : (s.size : Int) ≤ (p0 : Int) + 1 + (t : Int) := by omega
        clear htl
        by_cases h1 : 1 < t
        · have hf : (Y (p0 + 1) == 48) = false := by rw [beq_eq_false_iff_ne]; exact H.out.first h1
          have h1' : (1 : Int) < (p0 : Int) + 1 + (t : Int) - ((p0 : Int) + 1) := by omega
          go_wp2
          go_ret3
          exact ⟨ret_tup (by rw [HA.out]; exact neg_wrap U hU1 hU) _, rfl⟩
        · have h1' : (p0 : Int) + 1 + (t : Int) - ((p0 : Int) + 1) ≤ 1 := by omega
          go_wp2
          go_ret3
          exact ⟨ret_tup (by rw [HA.out]; exact neg_wrap U hU1 hU) _, rfl⟩
      · have ek := (H.out.bytes (p0 + 1 + t) htl).trans h95
        have hin : (p0 : Int) + 1 + (t : Int) < (s.size : Int) := by omega
        clear h95
        by_cases h1 : 1 < t
        · have hf : (Y (p0 + 1) == 48) = false := by rw [beq_eq_false_iff_ne]; exact H.out.first h1
          have h1' : (1 : Int) < (p0 : Int) + 1 + (t : Int) - ((p0 : Int) + 1) := by omega
          go_wp2
          go_ret3
          exact ⟨ret_tup (by rw [HA.out]; exact neg_wrap U hU1 hU) _, rfl⟩
        · have h1' : (p0 : Int) + 1 + (t : Int) - ((p0 : Int) + 1) ≤ 1 := by omega
          go_wp2
          go_ret3
          exact ⟨ret_tup (by rw [HA.out]; exact neg_wrap U hU1 hU) _, rfl⟩

open Go.Lib Dec in
/-- The digits of u, as they stand in a text from place st on. -/
theorem num_of (s : ByteArray) (u st : Nat) (tail : List UInt8) (hd : s.data.toList.drop st = decDigits u ++ tail) (ht : tail = [] ∨ tail.head? = some 95) :
    Num s (fun k => ((s.data.toList.getD k 0).toNat : Int)) st (nDigits u) (fun t => (acc u t : Int)) (u : Int) := by
  have hl := decDigits_length u
  have hsl : s.data.toList.length = s.size := by rw [Array.length_toList]; rfl
  have hlen : s.size - st = nDigits u + tail.length := by
    have := congrArg List.length hd
    simp only [List.length_drop, List.length_append, hl, hsl] at this
    exact this
  have hp := nDigits_pos u
  have at_ : ∀ t, t < nDigits u + tail.length → s.data.toList.getD (st + t) 0 = (decDigits u ++ tail).getD t 0 := fun t ht => by
    rw [← hd, List.getD, List.getD, List.getElem?_drop]
  have dig : ∀ t, t < nDigits u → ((s.data.toList.getD (st + t) 0).toNat : Int) = 48 + (dgt u t : Int) := fun t ht => by
    rw [at_ t (by omega), List.getD, List.getElem?_append_left (by omega), List.getElem?_eq_getElem (by omega)]
    exact digit_is u t (by omega)
  refine ⟨fun k hk => ?_, by omega, hp, fun t ht => ?_, fun t ht => ?_, ?_, fun t ht => ?_, ?_, fun t => ?_, fun t => ?_, fun h => ?_, ?_⟩
  · have : k < s.data.toList.length := by omega
    simp only [List.getD, List.getElem?_eq_getElem this, Option.getD_some]
    rfl
  · simp only [dig t ht]; omega
  · simp only [dig t ht]; have := dgt_le u t; omega
  · simp [acc_zero]
  · simp only [dig t ht]; rw [acc_succ u t ht]; omega
  · simp [acc_all]
  · show (0 : Int) ≤ (acc u t : Int); omega
  · show (acc u t : Int) ≤ (u : Int); have := acc_le u t; omega
  · have h0 := dig 0 (by omega)
    simp only [Nat.add_zero] at h0
    simp only [h0]
    have := dgt_first u h
    omega
  · rcases ht with rfl | ht
    · left; simp at hlen; omega
    · right
      cases tail with
      | nil => simp at ht
      | cons c r =>
        simp at ht
        subst ht
        refine ⟨by simp at hlen; omega, ?_⟩
        have e : s.data.toList.getD (st + nDigits u) 0 = 95 := by
          rw [at_ (nDigits u) (by simp), List.getD, List.getElem?_append_right (by omega), hl]
          simp
        simp only [e]
        rfl

open Go.Lib in
theorem read_itoa (s : ByteArray) (v : Int) (p : Nat) (tail : List UInt8) (w : World) (hd : s.data.toList.drop p = itoa v ++ tail) (ht : tail = [] ∨ tail.head? = some 95) (hs : (s.size : Int) ≤ 1000)
    (h0 : -9223372036854775808 ≤ v) (h1 : v ≤ 9223372036854775807) :
    Calls Tryf.prog 7 #[.string s, .int .i64 p] w fun e w' => e = .returned (.tuple #[.int .i64 v, .int .i64 ((p : Int) + ((itoa v).length : Int)), .bool true]) ∧ w' = w := by
  by_cases hneg : v < 0
  · obtain ⟨u, rfl⟩ : ∃ u : Nat, v = -(u : Int) := ⟨v.natAbs, by omega⟩
    rw [itoa_neg u (by omega)] at hd ⊢
    have hd1 : s.data.toList.drop (p + 1) = decDigits u ++ tail := by
      have := congrArg (List.drop 1) hd
      simpa [List.drop_drop] using this
    have hm : ((s.data.toList.getD p 0).toNat : Int) = 45 := by
      have e : s.data.toList.getD p 0 = 45 := by
        have := congrArg List.head? hd
        rw [List.head?_drop] at this
        simp [List.getD, this]
      rw [e]; rfl
    have := read_neg s _ p _ _ _ w (num_of s u (p + 1) tail hd1 ht) hm hs (by omega) (by omega)
    refine this.mono fun e w' ⟨he, hw⟩ => ⟨?_, hw⟩
    rw [he, List.length_cons, decDigits_length, show ((p : Int) + ((nDigits u + 1 : Nat) : Int)) = (p : Int) + 1 + (nDigits u : Int) by omega]
  · obtain ⟨u, rfl⟩ : ∃ u : Nat, v = u := ⟨v.toNat, by omega⟩
    rw [itoa_nonneg] at hd ⊢
    have := read_pos s _ p _ _ _ w (num_of s u p tail hd ht) hs (by omega)
    refine this.mono fun e w' ⟨he, hw⟩ => ⟨?_, hw⟩
    rw [he, decDigits_length]
end Go.Proofs.Qxb6606012aFmt
