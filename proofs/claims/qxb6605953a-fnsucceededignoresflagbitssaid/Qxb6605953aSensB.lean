/-
  decodeFixed: of the Sense that it returns the format (1) and the key are told, the rest is whatever.
-/
import Derived.Test.Qxb6605953aSensA
import Derived.Deep.RegionWith
import Derived.Deep.DrawnRows
namespace Go.Proofs.Qxb6605953a.Sens
open Go.RowKit
attribute [local go_sem ↓] Go.wp_at_zero Go.wp_at_succ
attribute [local go_sem] setCell_drewN alloc_drewN

def IsSense (f k : Int) (v : Value) : Prop :=
  ∃ d a q h i j, v = .agg #[.int .u8 f, .bool d, .int .u8 k, .int .u8 a, .int .u8 q, .bool h, .int .u64 i, .bool j]
def RetSense (f k : Int) (w : World) (e : Ending) (w' : World) : Prop := ∃ v, e = .returned v ∧ IsSense f k v ∧ Below w.heap.size w w'
theorem retSense_mk {f k : Int} {w w' : World} {d : Bool} {a q : Int} {h : Bool} {i : Int} {j : Bool} (hb : Below w.heap.size w w') :
    RetSense f k w (.returned (.agg #[.int .u8 f, .bool d, .int .u8 k, .int .u8 a, .int .u8 q, .bool h, .int .u64 i, .bool j])) w' :=
  ⟨_, rfl, ⟨d, a, q, h, i, j, rfl⟩, hb⟩

set_option maxHeartbeats 1000000 in
set_option maxRecDepth 100000 in
theorem fixed_any (g n : Nat) (x : Nat → Int) (w : World) (hn : (3 : Int) ≤ (n : Int)) (hm : (n : Int) ≤ 1048576) (hg : g < w.heap.size)
    (hc : ∀ i, i < n → w.cell? ⟨g, i, none⟩ = some (.int .u8 (x i))) (hx : ∀ i, 0 ≤ x i ∧ x i < 256) :
    Calls Try.prog 26 #[.slice (some ⟨g, 0, none⟩) n n] w (RetSense 1 (bits BinOp.and IntKind.u8 (x 2) 15) w) := by
  have l0 : (0 : Int) < (n : Int) := by omega
  have l2 : (2 : Int) < (n : Int) := by omega
  have c0 := hc 0 (by omega)
  have c2 := hc 2 (by omega)
  have b7 := hx 7
  have g1 : g < w.heap.size + 1 := by omega
  have g2 : g < w.heap.size + 1 + 1 := by omega
  by_cases hV : (bits BinOp.and IntKind.u8 (x 0) 128 != 0) = true
  · by_cases h7 : (7 : Int) ≤ (n : Int)
    · have n3 : ¬ n = 3 := by omega
      have c3 := hc 3 (by omega)
      have c4 := hc 4 (by omega)
      have c5 := hc 5 (by omega)
      have c6 := hc 6 (by omega)
      have u := fun c o1 o2 => uint32_any g 3 (n - 3) c (x 3) (x 4) (x 5) (x 6) ((w.alloc o1).alloc o2).drew.drew (by omega) (by simp; omega) (by go_simp) (by go_simp) (by go_simp) (by go_simp)
      clear c3 c4 c5 c6
      by_cases h13 : (13 : Int) < (n : Int)
      · have c7 := hc 7 (by omega)
        have c12 := hc 12 (by omega)
        have c13 := hc 13 (by omega)
        clear hc hx
        go_enter Try.func26, Try.ntmps26
        go_wp2
        go_region
        go_wp2_with fail
        go_region_with (go_at_call 28; refine (u _ _ _).mono ?_; rintro e w' ⟨v, nq, rfl, rfl⟩)
        go_wp2
        all_goals
          refine ⟨rfl, ?_⟩
          apply Exists.intro
          constructor
          · simp [results, Try.results26, go_sem]
            rfl
          · apply retSense_mk
            repeat (first | exact Below.refl _ _ | apply below_drewN | apply Below.drew | (refine Below.alloc ?_ (by simp; try omega) _))
      · clear hc hx
        go_enter Try.func26, Try.ntmps26
        go_wp2
        go_region
        go_wp2_with fail
        go_region_with (go_at_call 28; refine (u _ _ _).mono ?_; rintro e w' ⟨v, nq, rfl, rfl⟩)
        go_wp2
        all_goals
          refine ⟨rfl, ?_⟩
          apply Exists.intro
          constructor
          · simp [results, Try.results26, go_sem]
            rfl
          · apply retSense_mk
            repeat (first | exact Below.refl _ _ | apply below_drewN | apply Below.drew | (refine Below.alloc ?_ (by simp; try omega) _))
    · have h13 : (n : Int) ≤ 13 := by omega
      clear hc hx
      go_enter Try.func26, Try.ntmps26
      go_wp2
      go_region
      go_wp2
      all_goals
        refine ⟨rfl, ?_⟩
        apply Exists.intro
        constructor
        · simp [results, Try.results26, go_sem]
          rfl
        · apply retSense_mk
          repeat (first | exact Below.refl _ _ | apply below_drewN | apply Below.drew | (refine Below.alloc ?_ (by simp; try omega) _))
  · have hV' : (bits BinOp.and IntKind.u8 (x 0) 128 != 0) = false := by simpa using hV
    clear hV
    by_cases h13 : (13 : Int) < (n : Int)
    · have c7 := hc 7 (by omega)
      have c12 := hc 12 (by omega)
      have c13 := hc 13 (by omega)
      clear hc hx
      go_enter Try.func26, Try.ntmps26
      go_wp2
      go_region
      go_wp2
      all_goals
        refine ⟨rfl, ?_⟩
        apply Exists.intro
        constructor
        · simp [results, Try.results26, go_sem]
          rfl
        · apply retSense_mk
          repeat (first | exact Below.refl _ _ | apply below_drewN | apply Below.drew | (refine Below.alloc ?_ (by simp; try omega) _))
    · clear hc hx
      go_enter Try.func26, Try.ntmps26
      go_wp2
      go_region
      go_wp2
      all_goals
        refine ⟨rfl, ?_⟩
        apply Exists.intro
        constructor
        · simp [results, Try.results26, go_sem]
          rfl
        · apply retSense_mk
          repeat (first | exact Below.refl _ _ | apply below_drewN | apply Below.drew | (refine Below.alloc ?_ (by simp; try omega) _))
end Go.Proofs.Qxb6605953a.Sens
