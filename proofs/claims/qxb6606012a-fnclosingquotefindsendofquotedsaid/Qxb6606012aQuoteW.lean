/-
  closingQuote, ZZclosingQuote and quoteEndModel compute the plain functions of Quote.
-/
import Derived.Test.Qxb6606012aProg
import Derived.Test.Qxb6606012aQuote
import Derived.WalkKit
import Derived.Below
import Derived.WalkLawsBesides
namespace Go.Proofs.Qxb6606012a.Quote
open Go.RowKit

theorem ret_int {k : IntKind} {a b : Int} (h : a = b) : Ending.returned (.int k a) = .returned (.int k b) := by rw [h]

set_option maxHeartbeats 1000000 in
set_option maxRecDepth 100000 in
theorem closing_calls (f : ByteArray) (Y : Nat → Int) (i : Nat) (esc : Bool) (w : World) (hs : (f.size : Int) ≤ 1048576) (hi : i < f.size) (hY : ∀ k (h : k < f.size), ((f[k]'h).toNat : Int) = Y k) :
    Calls Try.prog 17 #[.string f, .int .i64 i, .bool esc] w fun e w' => e = .returned (.int .i64 (cq Y f.size esc (Y i) (i + 1) : Nat)) ∧ w' = w := by
  have e0 := hY i hi
  obtain ⟨q, hq⟩ : ∃ q, Y i = q := ⟨_, rfl⟩
  rw [hq] at e0 ⊢
  have HYq : Hid (∀ k (h : k < f.size), ((f[k]'h).toNat : Int) = Y k) := hY
  clear hY hq
  obtain ⟨R, HR⟩ : ∃ R, R = cq Y f.size esc q (i + 1) := ⟨_, rfl⟩
  rw [← HR]
  have HR' : Hid (R = cq Y f.size esc q (i + 1)) := HR
  clear HR
  go_enter Try.func17, Try.ntmps17
  go_wp2
  go_loop [8] (fun j => ∃ k : Nat, k ≤ f.size + 1 ∧ j = .int .i64 k ∧ R = cq Y f.size esc q k) (fun j => f.size + 1 - (intOf j).toNat)
  case atStart => exact ⟨i + 1, by omega, by go_num, HR'.out⟩
  case round =>
    obtain ⟨k, hk, rfl, hR⟩ := hrel
    have HRk : Hid (R = cq Y f.size esc q k) := hR
    clear hR e0 HR'
    by_cases hlt : k < f.size
    · have ek := HYq.out k hlt
      by_cases he : esc = true ∧ Y k = 92
      · obtain ⟨rfl, h92⟩ := he
        have h92' : (Y k == 92) = true := by simp [h92]
        have HN : Hid (R = cq Y f.size true q (k + 2)) := by unfold Hid; rw [HRk.out, cq_esc Y _ _ q hlt rfl h92]
        clear h92
        go_wp2
        go_round
        case rel => exact ⟨k + 2, by omega, by go_num, HN.out⟩
        case measure => simp [intOf]; omega
      · have hd : (esc && (Y k == 92)) = false := by cases esc <;> simp_all
        by_cases hq : Y k = q
        · have hq' : (Y k == q) = true := by simp [hq]
          by_cases h1 : k + 1 < f.size
          · have ek1 := HYq.out (k + 1) h1
            by_cases hq1 : Y (k + 1) = q
            · have hq1' : (Y (k + 1) == q) = true := by simp [hq1]
              have HN : Hid (R = cq Y f.size esc q (k + 2)) := by unfold Hid; rw [HRk.out, cq_dbl Y _ _ q hlt he hq h1 hq1]
              clear hq hq1 he
              cases esc
              all_goals
                simp at hd
                go_wp2
                go_round
                case rel => exact ⟨k + 2, by omega, by go_num, HN.out⟩
                case measure => simp [intOf]; omega
            · have hq1' : (Y (k + 1) == q) = false := by simp [hq1]
              have HN : Hid (R = k + 1) := by unfold Hid; rw [HRk.out, cq_cls Y _ _ q hlt he hq (fun h => hq1 h.2)]
              clear hq hq1 he
              cases esc
              all_goals
                simp at hd
                go_wp2
                go_ret
                exact ⟨ret_int (by rw [HN.out]; omega), rfl⟩
          · have h1' : ¬ (k : Int) + 1 < (f.size : Int) := by omega
            have HN : Hid (R = k + 1) := by unfold Hid; rw [HRk.out, cq_cls Y _ _ q hlt he hq (fun h => h1 h.1)]
            clear hq he
            cases esc
            all_goals
              simp at hd
              go_wp2
              go_ret
              exact ⟨ret_int (by rw [HN.out]; omega), rfl⟩
        · have hq' : (Y k == q) = false := by simp [hq]
          have HN : Hid (R = cq Y f.size esc q (k + 1)) := by unfold Hid; rw [HRk.out, cq_nxt Y _ _ q hlt he hq]
          clear hq he
          cases esc
          all_goals
            simp at hd
            go_wp2
            go_round
            case rel => exact ⟨k + 1, by omega, by go_num, HN.out⟩
            case measure => simp [intOf]; omega
    · have HN : Hid (R = f.size) := by unfold Hid; rw [HRk.out, cq_end Y _ _ q hlt]
      go_wp2
      go_ret
      exact ⟨ret_int (by rw [HN.out]), rfl⟩

/-- The lexer's two flags say its state. -/
def Flags (a b : Value) (st : Nat) : Prop := (a = .bool false ∧ b = .bool false ∧ st = 0) ∨ (a = .bool true ∧ b = .bool false ∧ st = 1) ∨ (a = .bool false ∧ b = .bool true ∧ st = 2)

set_option maxHeartbeats 1000000 in
set_option maxRecDepth 100000 in
theorem model_calls (f : ByteArray) (Y : Nat → Int) (i : Nat) (esc : Bool) (w : World) (hs : (f.size : Int) ≤ 1048576) (hi : i < f.size) (hY : ∀ k (h : k < f.size), ((f[k]'h).toNat : Int) = Y k) :
    Calls Try.prog 8 #[.string f, .int .i64 i, .bool esc] w fun e w' => e = .returned (.int .i64 (cq Y f.size esc (Y i) (i + 1) : Nat)) ∧ w' = w := by
  have e0 := hY i hi
  obtain ⟨q, hq⟩ : ∃ q, Y i = q := ⟨_, rfl⟩
  rw [hq] at e0 ⊢
  have HYq : Hid (∀ k (h : k < f.size), ((f[k]'h).toNat : Int) = Y k) := hY
  clear hY hq
  obtain ⟨R, HR⟩ : ∃ R, R = md Y f.size esc q 0 (i + 1) := ⟨_, rfl⟩
  rw [← md_is_cq Y f.size esc q _ (i + 1) (Nat.le_refl _), ← HR]
  have HR' : Hid (R = md Y f.size esc q 0 (i + 1)) := HR
  clear HR
  go_enter Try.func8, Try.ntmps8
  go_wp2
  go_loop [9, 10, 11] (fun a b j => ∃ k st : Nat, k ≤ f.size ∧ j = .int .i64 k ∧ Flags a b st ∧ R = md Y f.size esc q st k) (fun _ _ j => f.size - (intOf j).toNat)
  case atStart => exact ⟨i + 1, 0, by omega, by go_num, .inl ⟨rfl, rfl, rfl⟩, HR'.out⟩
  case round =>
    obtain ⟨k, st, hk, rfl, hfl, hR⟩ := hrel
    have HRk : Hid (R = md Y f.size esc q st k) := hR
    clear hR e0 HR'
    by_cases hlt : k < f.size
    · have ek := HYq.out k hlt
      rcases hfl with ⟨rfl, rfl, rfl⟩ | ⟨rfl, rfl, rfl⟩ | ⟨rfl, rfl, rfl⟩
      · by_cases he : esc = true ∧ Y k = 92
        · obtain ⟨rfl, h92⟩ := he
          have h92' : (Y k == 92) = true := by simp [h92]
          have HN : Hid (R = md Y f.size true q 2 (k + 1)) := by unfold Hid; rw [HRk.out, md_step Y _ _ q hlt, if_neg (by omega), if_neg (by omega), if_pos ⟨rfl, h92⟩]
          clear h92
          go_wp2
          go_round
          case rel => exact ⟨k + 1, 2, by omega, by go_num, .inr (.inr ⟨rfl, rfl, rfl⟩), HN.out⟩
          case measure => simp [intOf]; omega
        · have hd : (esc && (Y k == 92)) = false := by cases esc <;> simp_all
          by_cases hq : Y k = q
          · have hq' : (Y k == q) = true := by simp [hq]
            have HN : Hid (R = md Y f.size esc q 1 (k + 1)) := by unfold Hid; rw [HRk.out, md_step Y _ _ q hlt, if_neg (by omega), if_neg (by omega), if_neg he, if_pos hq]
            clear hq he
            cases esc
            all_goals
              simp at hd
              go_wp2
              go_round
              case rel => exact ⟨k + 1, 1, by omega, by go_num, .inr (.inl ⟨rfl, rfl, rfl⟩), HN.out⟩
              case measure => simp [intOf]; omega
          · have hq' : (Y k == q) = false := by simp [hq]
            have HN : Hid (R = md Y f.size esc q 0 (k + 1)) := by unfold Hid; rw [HRk.out, md_step Y _ _ q hlt, if_neg (by omega), if_neg (by omega), if_neg he, if_neg hq]
            clear hq he
            cases esc
            all_goals
              simp at hd
              go_wp2
              go_round
              case rel => exact ⟨k + 1, 0, by omega, by go_num, .inl ⟨rfl, rfl, rfl⟩, HN.out⟩
              case measure => simp [intOf]; omega
      · by_cases hq : Y k = q
        · have hq' : (Y k == q) = true := by simp [hq]
          have HN : Hid (R = md Y f.size esc q 0 (k + 1)) := by unfold Hid; rw [HRk.out, md_step Y _ _ q hlt, if_pos rfl, if_pos hq]
          clear hq
          go_wp2
          go_round
          case rel => exact ⟨k + 1, 0, by omega, by go_num, .inl ⟨rfl, rfl, rfl⟩, HN.out⟩
          case measure => simp [intOf]; omega
        · have hq' : (Y k == q) = false := by simp [hq]
          have HN : Hid (R = k) := by unfold Hid; rw [HRk.out, md_step Y _ _ q hlt, if_pos rfl, if_neg hq]
          clear hq
          go_wp2
          go_ret
          exact ⟨ret_int (by rw [HN.out]), rfl⟩
      · have HN : Hid (R = md Y f.size esc q 0 (k + 1)) := by unfold Hid; rw [HRk.out, md_step Y _ _ q hlt, if_neg (by omega), if_pos rfl]
        go_wp2
        go_round
        case rel => exact ⟨k + 1, 0, by omega, by go_num, .inl ⟨rfl, rfl, rfl⟩, HN.out⟩
        case measure => simp [intOf]; omega
    · have HN : Hid (R = f.size) := by unfold Hid; rw [HRk.out, md_end Y _ _ q hlt]
      clear hfl
      go_wp2
      go_ret
      exact ⟨ret_int (by rw [HN.out]), rfl⟩

theorem zzclosing_calls (f : ByteArray) (Y : Nat → Int) (i : Nat) (esc : Bool) (w : World) (hs : (f.size : Int) ≤ 1048576) (hi : i < f.size) (hY : ∀ k (h : k < f.size), ((f[k]'h).toNat : Int) = Y k) :
    Calls Try.prog 7 #[.string f, .int .i64 i, .bool esc] w fun e w' => e = .returned (.int .i64 (cq Y f.size esc (Y i) (i + 1) : Nat)) ∧ w' = w := by
  have HY : Hid (∀ k (h : k < f.size), ((f[k]'h).toNat : Int) = Y k) := hY
  clear hY
  go_enter Try.func7, Try.ntmps7
  go_wp2_with fail
  refine (closing_calls f Y i esc _ hs hi HY.out).mono ?_
  rintro e w' ⟨rfl, rfl⟩
  go_wp2
  go_ret
  exact ⟨rfl, rfl⟩
end Go.Proofs.Qxb6606012a.Quote
