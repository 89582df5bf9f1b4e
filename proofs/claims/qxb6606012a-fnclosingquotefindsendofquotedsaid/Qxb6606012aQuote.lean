/-
  The plain law of closing quotes: bytes as a function Y of the place, n of them; no Go.
-/
namespace Go.Proofs.Qxb6606012a.Quote

section
variable (Y : Nat → Int) (n : Nat) (esc : Bool) (q : Int)

/-- closingQuote from place j on, with fuel. -/
def cqF : Nat → Nat → Nat
  | 0, _ => n
  | t + 1, j => if j < n then (if esc = true ∧ Y j = 92 then cqF t (j + 2) else if Y j = q then (if j + 1 < n ∧ Y (j + 1) = q then cqF t (j + 2) else j + 1) else cqF t (j + 1)) else n

/-- The small lexer from place j on: 'st' is 0 (plain), 1 (a quote waits), 2 (a backslash swallows). -/
def mdF : Nat → Nat → Nat → Nat
  | 0, _, _ => n
  | t + 1, st, j => if j < n then
      (if st = 1 then (if Y j = q then mdF t 0 (j + 1) else j)
       else if st = 2 then mdF t 0 (j + 1)
       else if esc = true ∧ Y j = 92 then mdF t 2 (j + 1)
       else if Y j = q then mdF t 1 (j + 1)
       else mdF t 0 (j + 1)) else n

def cq (j : Nat) : Nat := cqF Y n esc q (n - j) j
def md (st j : Nat) : Nat := mdF Y n esc q (n - j) st j

theorem cqF_fuel : ∀ (t t' j : Nat), n - j ≤ t → n - j ≤ t' → cqF Y n esc q t j = cqF Y n esc q t' j
  | 0, t', j, h, _ => by
    cases t' with
    | zero => rfl
    | succ t' => rw [cqF, cqF, if_neg (by omega)]
  | t + 1, 0, j, _, h => by rw [cqF, cqF, if_neg (by omega)]
  | t + 1, t' + 1, j, h, h' => by
    rw [cqF, cqF]
    by_cases hj : j < n
    · rw [if_pos hj, if_pos hj, cqF_fuel t t' (j + 2) (by omega) (by omega), cqF_fuel t t' (j + 1) (by omega) (by omega)]
    · rw [if_neg hj, if_neg hj]

theorem cq_step {j : Nat} (hj : j < n) : cq Y n esc q j = if esc = true ∧ Y j = 92 then cq Y n esc q (j + 2) else if Y j = q then (if j + 1 < n ∧ Y (j + 1) = q then cq Y n esc q (j + 2) else j + 1) else cq Y n esc q (j + 1) := by
  unfold cq
  rw [cqF_fuel Y n esc q (n - (j + 2)) (n - j - 1) (j + 2) (by omega) (by omega), cqF_fuel Y n esc q (n - (j + 1)) (n - j - 1) (j + 1) (by omega) (by omega)]
  conv => lhs; rw [show n - j = (n - j - 1) + 1 by omega, cqF, if_pos hj]
theorem cq_end {j : Nat} (hj : ¬ j < n) : cq Y n esc q j = n := by
  unfold cq
  cases h : n - j with
  | zero => rfl
  | succ t => omega
theorem cq_esc {j : Nat} (hj : j < n) (he : esc = true) (h : Y j = 92) : cq Y n esc q j = cq Y n esc q (j + 2) := by rw [cq_step Y n esc q hj, if_pos ⟨he, h⟩]
theorem cq_dbl {j : Nat} (hj : j < n) (he : ¬ (esc = true ∧ Y j = 92)) (h : Y j = q) (h1 : j + 1 < n) (h2 : Y (j + 1) = q) : cq Y n esc q j = cq Y n esc q (j + 2) := by
  rw [cq_step Y n esc q hj, if_neg he, if_pos h, if_pos ⟨h1, h2⟩]
theorem cq_cls {j : Nat} (hj : j < n) (he : ¬ (esc = true ∧ Y j = 92)) (h : Y j = q) (h1 : ¬ (j + 1 < n ∧ Y (j + 1) = q)) : cq Y n esc q j = j + 1 := by
  rw [cq_step Y n esc q hj, if_neg he, if_pos h, if_neg h1]
theorem cq_nxt {j : Nat} (hj : j < n) (he : ¬ (esc = true ∧ Y j = 92)) (h : ¬ Y j = q) : cq Y n esc q j = cq Y n esc q (j + 1) := by
  rw [cq_step Y n esc q hj, if_neg he, if_neg h]

theorem md_step {st j : Nat} (hj : j < n) : md Y n esc q st j =
      (if st = 1 then (if Y j = q then md Y n esc q 0 (j + 1) else j)
       else if st = 2 then md Y n esc q 0 (j + 1)
       else if esc = true ∧ Y j = 92 then md Y n esc q 2 (j + 1)
       else if Y j = q then md Y n esc q 1 (j + 1)
       else md Y n esc q 0 (j + 1)) := by
  unfold md
  rw [show n - (j + 1) = n - j - 1 by omega]
  conv => lhs; rw [show n - j = (n - j - 1) + 1 by omega, mdF, if_pos hj]
theorem md_end {st j : Nat} (hj : ¬ j < n) : md Y n esc q st j = n := by
  unfold md
  cases h : n - j with
  | zero => rfl
  | succ t => omega

theorem md_is_cq : ∀ (t j : Nat), n - j ≤ t → md Y n esc q 0 j = cq Y n esc q j
  | 0, j, h => by rw [md_end Y n esc q (by omega), cq_end Y n esc q (by omega)]
  | t + 1, j, h => by
    by_cases hj : j < n
    · have i1 : md Y n esc q 0 (j + 1) = cq Y n esc q (j + 1) := md_is_cq t (j + 1) (by omega)
      have i2 : md Y n esc q 0 (j + 2) = cq Y n esc q (j + 2) := md_is_cq t (j + 2) (by omega)
      rw [md_step Y n esc q hj, if_neg (by omega), if_neg (by omega)]
      by_cases he : esc = true ∧ Y j = 92
      · rw [if_pos he, cq_esc Y n esc q hj he.1 he.2, ← i2]
        by_cases h1 : j + 1 < n
        · rw [md_step Y n esc q h1, if_neg (by omega), if_pos rfl]
        · rw [md_end Y n esc q h1, md_end Y n esc q (by omega)]
      · rw [if_neg he]
        by_cases hq : Y j = q
        · rw [if_pos hq]
          by_cases h1 : j + 1 < n
          · rw [md_step Y n esc q h1, if_pos rfl]
            by_cases hq1 : Y (j + 1) = q
            · rw [if_pos hq1, cq_dbl Y n esc q hj he hq h1 hq1, ← i2]
            · rw [if_neg hq1, cq_cls Y n esc q hj he hq (fun h => hq1 h.2)]
          · rw [md_end Y n esc q h1, cq_cls Y n esc q hj he hq (fun h => h1 h.1)]
            omega
        · rw [if_neg hq, cq_nxt Y n esc q hj he hq, i1]
    · rw [md_end Y n esc q hj, cq_end Y n esc q hj]

theorem cq_le : ∀ (t j : Nat), n - j ≤ t → j ≤ n + 1 → cq Y n esc q j ≤ n
  | 0, j, h, _ => by rw [cq_end Y n esc q (by omega)]; omega
  | t + 1, j, h, hj1 => by
    by_cases hj : j < n
    · rw [cq_step Y n esc q hj]
      have i1 := cq_le t (j + 1) (by omega) (by omega)
      have i2 := cq_le t (j + 2) (by omega) (by omega)
      split
      · exact i2
      · split
        · split
          · exact i2
          · omega
        · exact i1
    · rw [cq_end Y n esc q hj]; omega
end
end Go.Proofs.Qxb6606012a.Quote
