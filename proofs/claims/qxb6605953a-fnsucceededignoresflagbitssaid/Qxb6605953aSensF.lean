/-
  The plain law: a flip of the flag bits leaves the answer as it was.
-/
import Derived.Test.Qxb6605953aSensE
import Derived.Test.Qxb6605953aClone
import Derived.Laws.BitsLemmas
import Derived.Laws.Closers25b
namespace Go.Proofs.Qxb6605953a.Sens
open Go.RowKit Clone

def upd (x : Nat → Int) (i : Nat) (v : Int) : Nat → Int := fun j => if j = i then v else x j

theorem cl_upd (x : Nat → Int) (n i : Nat) (v : Int) : (cl x n n).setIfInBounds i (.int .u8 v) = cl (upd x i v) n n := by
  apply Array.ext (by simp [cl])
  intro j h1 h2
  have hj : j < n := by simpa [cl] using h2
  rw [Array.getElem_setIfInBounds (by simpa [cl] using h2)]
  simp only [cl, Array.getElem_ofFn, upd]
  by_cases h : i = j
  · subst h; simp [hj]
  · simp [h, hj, Ne.symm h]

theorem cl_all (x : Nat → Int) (n i : Nat) (h : i < n) : (cl x n n)[i]? = some (.int .u8 (x i)) := by rw [cl_at x n n i h, if_pos h]

theorem upd_range {x : Nat → Int} (hx : ∀ i, 0 ≤ x i ∧ x i < 256) (i : Nat) {v : Int} (hv : 0 ≤ v ∧ v < 256) : ∀ j, 0 ≤ upd x i v j ∧ upd x i v j < 256 := by
  intro j; unfold upd; split
  · exact hv
  · exact hx j

/-- 'x ^ (m & k)' of two bytes. -/
theorem xor_u8 (a b : Nat) (ha : a < 256) (hb : b < 256) : bits .xor .u8 (a : Int) (b : Int) = ((a ^^^ b : Nat) : Int) := by
  have hx : a ^^^ b < 2 ^ 8 := Nat.xor_lt_two_pow (by omega) (by omega)
  have h1 : (BitVec.ofInt 8 (a : Int)).toNat = a := by
    rw [BitVec.ofInt_natCast, BitVec.toNat_ofNat]; exact Nat.mod_eq_of_lt (by omega)
  have h2 : (BitVec.ofInt 8 (b : Int)).toNat = b := by
    rw [BitVec.ofInt_natCast, BitVec.toNat_ofNat]; exact Nat.mod_eq_of_lt (by omega)
  show IntKind.u8.wrap ((BitVec.ofInt 8 (a : Int) ^^^ BitVec.ofInt 8 (b : Int)).toNat : Int) = _
  rw [BitVec.toNat_xor, h1, h2, wraps_u8 _ (by omega) (by omega)]
theorem and_u8 (a b : Nat) (ha : a < 256) (hb : b < 256) : bits .and .u8 (a : Int) (b : Int) = ((a &&& b : Nat) : Int) :=
  (bits_nat .u8 8 (by decide) (fun n h0 h1 => wraps_u8 n h0 h1) a b ha hb).1

/-- The low nibble does not see a flip in the high one. -/
theorem low_nibble (x m : Int) (hx : 0 ≤ x ∧ x < 256) (hm : 0 ≤ m ∧ m < 256) :
    bits .and .u8 (bits .xor .u8 x (bits .and .u8 m 240)) 15 = bits .and .u8 x 15 := by
  obtain ⟨a, rfl⟩ := Int.eq_ofNat_of_zero_le hx.1
  obtain ⟨b, rfl⟩ := Int.eq_ofNat_of_zero_le hm.1
  have ha : a < 256 := by omega
  have hb : b < 256 := by omega
  have h1 : b &&& 240 < 256 := Nat.lt_of_le_of_lt Nat.and_le_right (by decide)
  have h2 : a ^^^ (b &&& 240) < 256 := Nat.xor_lt_two_pow (n := 8) (by omega) (by omega)
  rw [show (240 : Int) = ((240 : Nat) : Int) from rfl, and_u8 b 240 hb (by decide), xor_u8 a _ ha h1, show (15 : Int) = ((15 : Nat) : Int) from rfl, and_u8 _ 15 h2 (by decide), and_u8 a 15 ha (by decide)]
  rw [Nat.and_xor_distrib_right, Nat.and_assoc, show 240 &&& 15 = 0 from rfl, Nat.and_zero, Nat.xor_zero]

/-- The code without its lowest bit does not see a flip of the VALID bit and of that bit. -/
theorem code_flip (x m : Int) (hx : 0 ≤ x ∧ x < 256) (hm : 0 ≤ m ∧ m < 256) :
    bits .and .u8 (bits .xor .u8 x (bits .and .u8 m 129)) 127 / 2 = bits .and .u8 x 127 / 2 := by
  obtain ⟨a, rfl⟩ := Int.eq_ofNat_of_zero_le hx.1
  obtain ⟨b, rfl⟩ := Int.eq_ofNat_of_zero_le hm.1
  have ha : a < 256 := by omega
  have hb : b < 256 := by omega
  have h1 : b &&& 129 < 256 := Nat.lt_of_le_of_lt Nat.and_le_right (by decide)
  have h2 : a ^^^ (b &&& 129) < 256 := Nat.xor_lt_two_pow (n := 8) (by omega) (by omega)
  rw [show (129 : Int) = ((129 : Nat) : Int) from rfl, and_u8 b 129 hb (by decide), xor_u8 a _ ha h1, show (127 : Int) = ((127 : Nat) : Int) from rfl, and_u8 _ 127 h2 (by decide), and_u8 a 127 ha (by decide)]
  have : ((a ^^^ (b &&& 129)) &&& 127) / 2 = (a &&& 127) / 2 := by
    have s : ∀ z : Nat, z / 2 = z >>> 1 := fun z => by rw [Nat.shiftRight_eq_div_pow]
    rw [Nat.and_xor_distrib_right, Nat.and_assoc, show 129 &&& 127 = 1 from rfl, s, s, Nat.shiftRight_xor_distrib]
    have : (b &&& 1) >>> 1 = 0 := by rw [Nat.shiftRight_and_distrib]; simp
    rw [this, Nat.xor_zero]
  exact_mod_cast this

/-- Three or more bytes: the flip is not seen. -/
theorem ok_flip (n : Nat) (x : Nat → Int) (m0 m1 m2 : Int) (hx : ∀ i, 0 ≤ x i ∧ x i < 256) (h0 : 0 ≤ m0 ∧ m0 < 256) (h1 : 0 ≤ m1 ∧ m1 < 256) (h2 : 0 ≤ m2 ∧ m2 < 256) :
    senseOk n (upd (upd (upd x 0 (bits .xor .u8 (x 0) (bits .and .u8 m0 129))) 1 (bits .xor .u8 (x 1) (bits .and .u8 m1 240))) 2 (bits .xor .u8 (x 2) (bits .and .u8 m2 240))) = senseOk n x := by
  have e0 : upd (upd (upd x 0 (bits .xor .u8 (x 0) (bits .and .u8 m0 129))) 1 (bits .xor .u8 (x 1) (bits .and .u8 m1 240))) 2 (bits .xor .u8 (x 2) (bits .and .u8 m2 240)) 0 = bits .xor .u8 (x 0) (bits .and .u8 m0 129) := rfl
  have e1 : upd (upd (upd x 0 (bits .xor .u8 (x 0) (bits .and .u8 m0 129))) 1 (bits .xor .u8 (x 1) (bits .and .u8 m1 240))) 2 (bits .xor .u8 (x 2) (bits .and .u8 m2 240)) 1 = bits .xor .u8 (x 1) (bits .and .u8 m1 240) := rfl
  have e2 : upd (upd (upd x 0 (bits .xor .u8 (x 0) (bits .and .u8 m0 129))) 1 (bits .xor .u8 (x 1) (bits .and .u8 m1 240))) 2 (bits .xor .u8 (x 2) (bits .and .u8 m2 240)) 2 = bits .xor .u8 (x 2) (bits .and .u8 m2 240) := rfl
  have hc := code_flip (x 0) m0 (hx 0) h0
  have k1 : (bits .and .u8 (bits .xor .u8 (x 0) (bits .and .u8 m0 129)) 127 = 112 ∨ bits .and .u8 (bits .xor .u8 (x 0) (bits .and .u8 m0 129)) 127 = 113) ↔ (bits .and .u8 (x 0) 127 = 112 ∨ bits .and .u8 (x 0) 127 = 113) := by omega
  have k2 : (bits .and .u8 (bits .xor .u8 (x 0) (bits .and .u8 m0 129)) 127 = 114 ∨ bits .and .u8 (bits .xor .u8 (x 0) (bits .and .u8 m0 129)) 127 = 115) ↔ (bits .and .u8 (x 0) 127 = 114 ∨ bits .and .u8 (x 0) 127 = 115) := by omega
  unfold senseOk code
  rw [e0, e1, e2, low_nibble _ _ (hx 1) h1, low_nibble _ _ (hx 2) h2]
  simp only [k1, k2]

/-- Fewer than three bytes never tell anything. -/
theorem ok_short (n : Nat) (x : Nat → Int) (h : n < 3) : senseOk n x = false := by
  simp [senseOk, show ¬ 3 ≤ n by omega, show ¬ 4 ≤ n by omega]
end Go.Proofs.Qxb6605953a.Sens
