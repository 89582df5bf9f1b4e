/-
  decodeDescriptor: of the Sense that it returns the format (2) and the key are told, the rest is whatever.
-/
import Derived.Test.Qxb6605953aSensB
namespace Go.Proofs.Qxb6605953a.Sens
open Go.RowKit
attribute [local go_sem ↓] Go.wp_at_zero Go.wp_at_succ
attribute [local go_sem] setCell_drewN alloc_drewN

abbrev Z74 : Obj := .cells #[.int .u8 0, .bool false, .int .u8 0, .int .u8 0, .int .u8 0, .bool false, .int .u64 0, .bool false] 74
abbrev D74 (d : Bool) (k a q : Int) : Obj := .cells #[.int .u8 2, .bool d, .int .u8 k, .int .u8 a, .int .u8 q, .bool true, .int .u64 0, .bool false] 74

set_option maxHeartbeats 1000000 in
set_option maxRecDepth 100000 in
theorem descr_short (g n : Nat) (x : Nat → Int) (w : World) (hn : (4 : Int) ≤ (n : Int)) (hm : (n : Int) < 8) (hg : g < w.heap.size)
    (hc : ∀ i, i < n → w.cell? ⟨g, i, none⟩ = some (.int .u8 (x i))) :
    Calls Try.prog 27 #[.slice (some ⟨g, 0, none⟩) n n] w (RetSense 2 (bits BinOp.and IntKind.u8 (x 1) 15) w) := by
  have l0 : (0 : Int) < (n : Int) := by omega
  have l1 : (1 : Int) < (n : Int) := by omega
  have l2 : (2 : Int) < (n : Int) := by omega
  have l3 : (3 : Int) < (n : Int) := by omega
  have c0 := hc 0 (by omega)
  have c1 := hc 1 (by omega)
  have c2 := hc 2 (by omega)
  have c3 := hc 3 (by omega)
  have g1 : g < w.heap.size + 1 := by omega
  have g2 : g < w.heap.size + 1 + 1 := by omega
  clear hc
  go_enter Try.func27, Try.ntmps27
  go_wp2
  go_region
  go_wp2
  refine ⟨rfl, ?_⟩
  apply Exists.intro
  constructor
  · simp [results, Try.results27, go_sem]
    rfl
  · apply retSense_mk
    repeat (first | exact Below.refl _ _ | apply below_drewN | apply Below.drew | (refine Below.alloc ?_ (by simp; try omega) _))

set_option maxHeartbeats 2000000 in
set_option maxRecDepth 100000 in
theorem descr_long1 (g n : Nat) (x : Nat → Int) (w : World) (hn : (8 : Int) ≤ (n : Int)) (hm : (n : Int) ≤ 1048576) (hg : g < w.heap.size)
    (hc : ∀ i, i < n → w.cell? ⟨g, i, none⟩ = some (.int .u8 (x i))) (hx : ∀ i, 0 ≤ x i ∧ x i < 256) (hmin : (n : Int) ≤ 8 + x 7) :
    Calls Try.prog 27 #[.slice (some ⟨g, 0, none⟩) n n] w (RetSense 2 (bits BinOp.and IntKind.u8 (x 1) 15) w) := by
  have l0 : (0 : Int) < (n : Int) := by omega
  have l1 : (1 : Int) < (n : Int) := by omega
  have l2 : (2 : Int) < (n : Int) := by omega
  have l3 : (3 : Int) < (n : Int) := by omega
  have l7 : (7 : Int) < (n : Int) := by omega
  have c0 := hc 0 (by omega)
  have c1 := hc 1 (by omega)
  have c2 := hc 2 (by omega)
  have c3 := hc 3 (by omega)
  have c7 := hc 7 (by omega)
  have b7 := hx 7
  have g1 : g < w.heap.size + 1 := by omega
  have g2 : g < w.heap.size + 1 + 1 := by omega
  have h8 : decide ((n : Int) < 8) = false := decide_eq_false (by omega)
  go_enter Try.func27, Try.ntmps27
  go_wp2
  go_region
  go_wp2
  go_loopw [5] (fun a wr => ∃ (k nq : Nat), 8 ≤ k ∧ k ≤ n ∧ a = .int .i64 k ∧
      wr = ((w.alloc Z74).alloc (D74 (bits BinOp.and IntKind.u8 (x 0) 127 == 115) (bits BinOp.and IntKind.u8 (x 1) 15) (x 2) (x 3))).drewN nq)
    (fun a _ => n - (intOf a).toNat)
  case atStart => exact ⟨8, 1, by omega, by omega, rfl, rfl⟩
  case round =>
    obtain ⟨k, nq, hk8, hkn, rfl, rfl⟩ := hrel
    clear c0 c1 c2 c3 c7 l0 l1 l2 l3 l7
    by_cases h2 : (k : Int) + 2 ≤ (n : Int)
    · have ck := hc k (by omega)
      have ck1 := hc (k + 1) (by omega)
      have bk1 := hx (k + 1)
      have i0 : (0 : Int) ≤ (k : Int) := by omega
      have i1 : (k : Int) < (n : Int) := by omega
      have i2 : (k : Int) + 1 < (n : Int) := by omega
      go_wp2_with fail
      go_quiet (fail)
      by_cases hend : (n : Int) < (k : Int) + (2 + x (k + 1))
      · clear hc hx
        go_wp2
        refine ⟨rfl, ?_⟩
        apply Exists.intro
        constructor
        · simp [results, Try.results27, go_sem]
          rfl
        · apply retSense_mk
          repeat (first | exact Below.refl _ _ | apply below_drewN | apply Below.drew | (refine Below.alloc ?_ (by simp; try omega) _))
      · by_cases hin : (x k == 0) = true ∧ ((2 : Int) + x (k + 1) == 12) = true
        · obtain ⟨hk0, hk1⟩ := hin
          have e1 : x (k + 1) = 10 := by simp at hk1; omega
          have ck2 := hc (k + 2) (by omega)
          have i3 : (k : Int) + 2 < (n : Int) := by omega
          by_cases hv : (bits BinOp.and IntKind.u8 (x (k + 2)) 128 != 0) = true
          · have d4 := hc (k + 4) (by omega)
            have d5 := hc (k + 4 + 1) (by omega)
            have d6 := hc (k + 4 + 2) (by omega)
            have d7 := hc (k + 4 + 3) (by omega)
            have d8 := hc (k + 4 + 4) (by omega)
            have d9 := hc (k + 4 + 5) (by omega)
            have d10 := hc (k + 4 + 6) (by omega)
            have d11 := hc (k + 4 + 7) (by omega)
            have u := fun m c o1 o2 => uint64_any g (k + 4) (n - (k + 4)) c _ _ _ _ _ _ _ _ (((w.alloc o1).alloc o2).drewN m) (by omega) (by simp; omega) (by go_simp; rfl) (by go_simp; rfl) (by go_simp; rfl) (by go_simp; rfl) (by go_simp; rfl) (by go_simp; rfl) (by go_simp; rfl) (by go_simp; rfl)
            have i4 : (0 : Int) ≤ (k : Int) + 4 := by omega
            have i5 : (k : Int) + 4 ≤ (n : Int) := by omega
            have i6 : ¬ n = k + 4 := by omega
            have i7 : ((k : Int) + 4).toNat = k + 4 := by omega
            have i8 : IntKind.i64.wrap ((k : Int) + 4) = (k : Int) + 4 := by rw [IntKind.wrap_i64]; omega
            clear d4 d5 d6 d7 d8 d9 d10 d11 hc hx e1
            go_wp2_with fail
            go_region_with (go_at_call 29; refine (u _ _ _ _).mono ?_; rintro e w' ⟨v, nq2, rfl, rfl⟩)
            go_wp2
            refine ⟨rfl, ?_⟩
            apply Exists.intro
            constructor
            · simp [results, Try.results27, go_sem]
              rfl
            · apply retSense_mk
              repeat (first | exact Below.refl _ _ | apply below_drewN | apply Below.drew | (refine Below.alloc ?_ (by simp; try omega) _))
          · have hv' : (bits BinOp.and IntKind.u8 (x (k + 2)) 128 != 0) = false := by simpa using hv
            have HE1 : Hid (x (k + 1) = 10) := e1
            clear hv e1 hc hx
            go_wp2
            go_roundw
            case rel => exact ⟨k + (2 + (x (k + 1)).toNat), _, by omega, by have := HE1.out; omega, by go_num, rfl⟩
            case measure => simp [intOf]; have := HE1.out; omega
        · clear hc hx
          by_cases hk0 : (x k == 0) = true
          · have hk1 : ((2 : Int) + x (k + 1) == 12) = false := by simp at hin hk0; simpa using hin hk0
            clear hin
            go_wp2
            go_roundw
            case rel => exact ⟨k + (2 + (x (k + 1)).toNat), _, by omega, by omega, by go_num, rfl⟩
            case measure => simp [intOf]; omega
          · have hk0' : (x k == 0) = false := by simpa using hk0
            clear hin hk0
            go_wp2
            go_roundw
            case rel => exact ⟨k + (2 + (x (k + 1)).toNat), _, by omega, by omega, by go_num, rfl⟩
            case measure => simp [intOf]; omega
    · go_wp2
      refine ⟨rfl, ?_⟩
      apply Exists.intro
      constructor
      · simp [results, Try.results27, go_sem]
        rfl
      · apply retSense_mk
        repeat (first | exact Below.refl _ _ | apply below_drewN | apply Below.drew | (refine Below.alloc ?_ (by simp; try omega) _))

set_option maxHeartbeats 2000000 in
set_option maxRecDepth 100000 in
theorem descr_long2 (g n : Nat) (x : Nat → Int) (w : World) (hn : (8 : Int) ≤ (n : Int)) (hm : (n : Int) ≤ 1048576) (hg : g < w.heap.size)
    (hc : ∀ i, i < n → w.cell? ⟨g, i, none⟩ = some (.int .u8 (x i))) (hx : ∀ i, 0 ≤ x i ∧ x i < 256) (hmin : 8 + x 7 < (n : Int)) :
    Calls Try.prog 27 #[.slice (some ⟨g, 0, none⟩) n n] w (RetSense 2 (bits BinOp.and IntKind.u8 (x 1) 15) w) := by
  have l0 : (0 : Int) < (n : Int) := by omega
  have l1 : (1 : Int) < (n : Int) := by omega
  have l2 : (2 : Int) < (n : Int) := by omega
  have l3 : (3 : Int) < (n : Int) := by omega
  have l7 : (7 : Int) < (n : Int) := by omega
  have c0 := hc 0 (by omega)
  have c1 := hc 1 (by omega)
  have c2 := hc 2 (by omega)
  have c3 := hc 3 (by omega)
  have c7 := hc 7 (by omega)
  have b7 := hx 7
  have g1 : g < w.heap.size + 1 := by omega
  have g2 : g < w.heap.size + 1 + 1 := by omega
  have h8 : decide ((n : Int) < 8) = false := decide_eq_false (by omega)
  go_enter Try.func27, Try.ntmps27
  go_wp2
  go_region
  go_wp2
  go_loopw [5] (fun a wr => ∃ (k nq : Nat), 8 ≤ k ∧ k ≤ n ∧ a = .int .i64 k ∧
      wr = ((w.alloc Z74).alloc (D74 (bits BinOp.and IntKind.u8 (x 0) 127 == 115) (bits BinOp.and IntKind.u8 (x 1) 15) (x 2) (x 3))).drewN nq)
    (fun a _ => n - (intOf a).toNat)
  case atStart => exact ⟨8, 1, by omega, by omega, rfl, rfl⟩
  case round =>
    obtain ⟨k, nq, hk8, hkn, rfl, rfl⟩ := hrel
    clear c0 c1 c2 c3 c7 l0 l1 l2 l3 l7
    by_cases h2 : (k : Int) + 2 ≤ (8 + x 7)
    · have ck := hc k (by omega)
      have ck1 := hc (k + 1) (by omega)
      have bk1 := hx (k + 1)
      have i0 : (0 : Int) ≤ (k : Int) := by omega
      have i1 : (k : Int) < (n : Int) := by omega
      have i2 : (k : Int) + 1 < (n : Int) := by omega
      go_wp2_with fail
      go_quiet (fail)
      by_cases hend : (8 + x 7) < (k : Int) + (2 + x (k + 1))
      · clear hc hx
        go_wp2
        refine ⟨rfl, ?_⟩
        apply Exists.intro
        constructor
        · simp [results, Try.results27, go_sem]
          rfl
        · apply retSense_mk
          repeat (first | exact Below.refl _ _ | apply below_drewN | apply Below.drew | (refine Below.alloc ?_ (by simp; try omega) _))
      · by_cases hin : (x k == 0) = true ∧ ((2 : Int) + x (k + 1) == 12) = true
        · obtain ⟨hk0, hk1⟩ := hin
          have e1 : x (k + 1) = 10 := by simp at hk1; omega
          have ck2 := hc (k + 2) (by omega)
          have i3 : (k : Int) + 2 < (n : Int) := by omega
          by_cases hv : (bits BinOp.and IntKind.u8 (x (k + 2)) 128 != 0) = true
          · have d4 := hc (k + 4) (by omega)
            have d5 := hc (k + 4 + 1) (by omega)
            have d6 := hc (k + 4 + 2) (by omega)
            have d7 := hc (k + 4 + 3) (by omega)
            have d8 := hc (k + 4 + 4) (by omega)
            have d9 := hc (k + 4 + 5) (by omega)
            have d10 := hc (k + 4 + 6) (by omega)
            have d11 := hc (k + 4 + 7) (by omega)
            have u := fun m c o1 o2 => uint64_any g (k + 4) (n - (k + 4)) c _ _ _ _ _ _ _ _ (((w.alloc o1).alloc o2).drewN m) (by omega) (by simp; omega) (by go_simp; rfl) (by go_simp; rfl) (by go_simp; rfl) (by go_simp; rfl) (by go_simp; rfl) (by go_simp; rfl) (by go_simp; rfl) (by go_simp; rfl)
            have i4 : (0 : Int) ≤ (k : Int) + 4 := by omega
            have i5 : (k : Int) + 4 ≤ (n : Int) := by omega
            have i6 : ¬ n = k + 4 := by omega
            have i7 : ((k : Int) + 4).toNat = k + 4 := by omega
            have i8 : IntKind.i64.wrap ((k : Int) + 4) = (k : Int) + 4 := by rw [IntKind.wrap_i64]; omega
            clear d4 d5 d6 d7 d8 d9 d10 d11 hc hx e1
            go_wp2_with fail
            go_region_with (go_at_call 29; refine (u _ _ _ _).mono ?_; rintro e w' ⟨v, nq2, rfl, rfl⟩)
            go_wp2
            refine ⟨rfl, ?_⟩
            apply Exists.intro
            constructor
            · simp [results, Try.results27, go_sem]
              rfl
            · apply retSense_mk
              repeat (first | exact Below.refl _ _ | apply below_drewN | apply Below.drew | (refine Below.alloc ?_ (by simp; try omega) _))
          · have hv' : (bits BinOp.and IntKind.u8 (x (k + 2)) 128 != 0) = false := by simpa using hv
            have HE1 : Hid (x (k + 1) = 10) := e1
            clear hv e1 hc hx
            go_wp2
            go_roundw
            case rel => exact ⟨k + (2 + (x (k + 1)).toNat), _, by omega, by have := HE1.out; omega, by go_num, rfl⟩
            case measure => simp [intOf]; have := HE1.out; omega
        · clear hc hx
          by_cases hk0 : (x k == 0) = true
          · have hk1 : ((2 : Int) + x (k + 1) == 12) = false := by simp at hin hk0; simpa using hin hk0
            clear hin
            go_wp2
            go_roundw
            case rel => exact ⟨k + (2 + (x (k + 1)).toNat), _, by omega, by omega, by go_num, rfl⟩
            case measure => simp [intOf]; omega
          · have hk0' : (x k == 0) = false := by simpa using hk0
            clear hin hk0
            go_wp2
            go_roundw
            case rel => exact ⟨k + (2 + (x (k + 1)).toNat), _, by omega, by omega, by go_num, rfl⟩
            case measure => simp [intOf]; omega
    · go_wp2
      refine ⟨rfl, ?_⟩
      apply Exists.intro
      constructor
      · simp [results, Try.results27, go_sem]
        rfl
      · apply retSense_mk
        repeat (first | exact Below.refl _ _ | apply below_drewN | apply Below.drew | (refine Below.alloc ?_ (by simp; try omega) _))

theorem descr_any (g n : Nat) (x : Nat → Int) (w : World) (hn : (4 : Int) ≤ (n : Int)) (hm : (n : Int) ≤ 1048576) (hg : g < w.heap.size)
    (hc : ∀ i, i < n → w.cell? ⟨g, i, none⟩ = some (.int .u8 (x i))) (hx : ∀ i, 0 ≤ x i ∧ x i < 256) :
    Calls Try.prog 27 #[.slice (some ⟨g, 0, none⟩) n n] w (RetSense 2 (bits BinOp.and IntKind.u8 (x 1) 15) w) := by
  by_cases h8 : (n : Int) < 8
  · exact descr_short g n x w hn h8 hg hc
  · by_cases hmin : (n : Int) ≤ 8 + x 7
    · exact descr_long1 g n x w (by omega) hm hg hc hx hmin
    · exact descr_long2 g n x w (by omega) hm hg hc hx (by omega)
end Go.Proofs.Qxb6605953a.Sens
