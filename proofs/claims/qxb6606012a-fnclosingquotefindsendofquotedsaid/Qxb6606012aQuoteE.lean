/-
  The plain law of a quoted text: closingQuote's plain function finds the end of what was quoted.
-/
import Derived.Test.Qxb6606012aQuote
namespace Go.Proofs.Qxb6606012a.Quote

/-- One byte, quoted. -/
def enc1 (esc : Bool) (q c : UInt8) : List UInt8 := if esc = true ∧ c = 92 then [92, 92] else if c = q then [q, q] else [c]
def encL (esc : Bool) (q : UInt8) : List UInt8 → List UInt8
  | [] => []
  | c :: r => enc1 esc q c ++ encL esc q r

theorem encL_append (esc : Bool) (q : UInt8) : ∀ (a b : List UInt8), encL esc q (a ++ b) = encL esc q a ++ encL esc q b
  | [], b => rfl
  | c :: a, b => by simp [encL, encL_append esc q a b]
theorem enc1_len (esc : Bool) (q c : UInt8) : (enc1 esc q c).length ≤ 2 := by unfold enc1; split <;> (try split) <;> simp
theorem encL_len (esc : Bool) (q : UInt8) : ∀ (a : List UInt8), (encL esc q a).length ≤ 2 * a.length
  | [] => by simp [encL]
  | c :: a => by have := enc1_len esc q c; have := encL_len esc q a; simp [encL]; omega

theorem u8_toNat_ne {a b : UInt8} (h : a ≠ b) : (a.toNat : Int) ≠ (b.toNat : Int) := by
  intro e
  exact h (UInt8.toNat_inj.1 (by omega))

theorem cq_finds (Y : Nat → Int) (n : Nat) (esc : Bool) (q : UInt8) (rest : List UInt8) (hesc : ¬ (esc = true ∧ q = 92)) (hrest : rest.head? ≠ some q) :
    ∀ (s : List UInt8) (p : Nat), n = p + (encL esc q s ++ q :: rest).length → (∀ i (h : i < (encL esc q s ++ q :: rest).length), Y (p + i) = ((encL esc q s ++ q :: rest)[i].toNat : Int)) →
      cq Y n esc (q.toNat : Int) p = p + (encL esc q s).length + 1
  | [], p, hn, hY => by
    simp only [encL, List.nil_append, List.length_cons, List.length_nil] at hn hY ⊢
    have y0 : Y p = (q.toNat : Int) := by simpa using hY 0 (by omega)
    rw [cq_cls Y n esc _ (by omega) ?_ y0 ?_]
    · rintro ⟨he, h92⟩
      refine hesc ⟨he, UInt8.toNat_inj.1 ?_⟩
      rw [y0] at h92
      show q.toNat = 92
      omega
    · rintro ⟨h1, h2⟩
      cases rest with
      | nil => simp at hn; omega
      | cons c r =>
        have y1 : Y (p + 1) = (c.toNat : Int) := by simpa using hY 1 (by simp)
        rw [y1] at h2
        exact hrest (by simp; exact UInt8.toNat_inj.1 (by omega))
  | c :: s, p, hn, hY => by
    by_cases he : esc = true ∧ c = 92
    · have e1 : encL esc q (c :: s) = 92 :: 92 :: encL esc q s := by simp [encL, enc1, he]
      rw [e1] at hn hY ⊢
      have y0 : Y p = 92 := by simpa using hY 0 (by simp)
      rw [cq_esc Y n esc _ (by simp at hn; omega) he.1 y0, cq_finds Y n esc q rest hesc hrest s (p + 2) (by simp at hn ⊢; omega) (fun i h => by
        have := hY (i + 2) (by simp at h ⊢; omega)
        rw [show p + 2 + i = p + (i + 2) by omega, this]; rfl)]
      simp; omega
    · by_cases hq : c = q
      · have e1 : encL esc q (c :: s) = q :: q :: encL esc q s := by
          simp only [encL, enc1, if_neg he, if_pos hq]; rfl
        rw [e1] at hn hY ⊢
        have y0 : Y p = (q.toNat : Int) := by simpa using hY 0 (by simp)
        have y1 : Y (p + 1) = (q.toNat : Int) := by simpa using hY 1 (by simp)
        rw [cq_dbl Y n esc _ (by simp at hn; omega) ?_ y0 (by simp at hn; omega) y1, cq_finds Y n esc q rest hesc hrest s (p + 2) (by simp at hn ⊢; omega) (fun i h => by
          have := hY (i + 2) (by simp at h ⊢; omega)
          rw [show p + 2 + i = p + (i + 2) by omega, this]; rfl)]
        · simp; omega
        · rintro ⟨h1, h92⟩
          refine hesc ⟨h1, UInt8.toNat_inj.1 ?_⟩
          rw [y0] at h92
          show q.toNat = 92
          omega
      · have e1 : encL esc q (c :: s) = c :: encL esc q s := by
          simp only [encL, enc1, if_neg he, if_neg hq]; rfl
        rw [e1] at hn hY ⊢
        have y0 : Y p = (c.toNat : Int) := by simpa using hY 0 (by simp)
        rw [cq_nxt Y n esc _ (by simp at hn; omega) ?_ (by rw [y0]; exact u8_toNat_ne hq), cq_finds Y n esc q rest hesc hrest s (p + 1) (by simp at hn ⊢; omega) (fun i h => by
          have := hY (i + 1) (by simp at h ⊢; omega)
          rw [show p + 1 + i = p + (i + 1) by omega, this]; rfl)]
        · simp; omega
        · rintro ⟨h1, h92⟩
          refine he ⟨h1, UInt8.toNat_inj.1 ?_⟩
          rw [y0] at h92
          show c.toNat = 92
          omega
end Go.Proofs.Qxb6606012a.Quote
