/-
  FnJoinColumnParsesBack: the walk, the text told.
-/
import Derived.Test.Qxb6606012aFmtReadW
import Derived.WalkSmall
namespace Go.Proofs.Qxb6606012aFmt
open Go.RowKit Go.Extern.Stop Go.Stop Go.Extern

/-- "kin_", a numeral, "_", a numeral. -/
def text (a b : Int) : List UInt8 := [107, 105, 110, 95] ++ Lib.itoa a ++ [95] ++ Lib.itoa b

def RetT (w : World) (e : Ending) (w' : World) : Prop := e = .returned (.bool true) ∧ Below w.heap.size w w'

set_option maxHeartbeats 2000000 in
set_option maxRecDepth 100000 in
theorem law_calls (F : Interp) (i j : Int) (w : World) (hF : F.answers w.tape) (hj0 : -9223372036854775808 ≤ j) (hj1 : j ≤ 9223372036854775807)
    (hT : (FmtStop.textOf (F "fmt.Sprintf" (reading (wrap64 (i + 1)) j) 0)).data.toList = text (wrap64 (i + 1)) j) :
    Calls Tryf.prog 3 #[.int .i64 i, .int .i64 j] w (RetT w) := by
  have HZ : Hid (F.answers w.tape) := hF
  have ha : -9223372036854775808 ≤ wrap64 (i + 1) ∧ wrap64 (i + 1) ≤ 9223372036854775807 := by unfold wrap64; omega
  have ZJ := zzjoin_calls F i j w hF
  obtain ⟨S, hS⟩ : ∃ S, FmtStop.textOf (F "fmt.Sprintf" (reading (wrap64 (i + 1)) j) 0) = S := ⟨_, rfl⟩
  rw [hS] at hT ZJ
  obtain ⟨a, hwa⟩ : ∃ a, wrap64 (i + 1) = a := ⟨_, rfl⟩
  rw [hwa] at hT ZJ ha
  have hsl : S.data.toList.length = S.size := by rw [Array.length_toList]; rfl
  have la := Lib.itoa_length_le a ha.1 ha.2
  have lb := Lib.itoa_length_le j hj0 hj1
  have hsz : S.size = 4 + (Lib.itoa a).length + 1 + (Lib.itoa j).length := by
    rw [← hsl, hT]; simp [text]; omega
  have hsz1 : (S.size : Int) ≤ 1000 := by omega
  have get : ∀ k (h : k < S.size), ((S[k]'h).toNat : Int) = ((text a j).getD k 0).toNat := fun k h => by
    have : k < S.data.toList.length := by omega
    rw [← hT]
    simp only [List.getD, List.getElem?_eq_getElem this, Option.getD_some]
    rfl
  have P4 : Hid (∀ W, Calls Tryf.prog 6 #[.string S, .string ⟨#[107, 105, 110, 95]⟩] W fun e w' => e = .returned (.bool true) ∧ ∃ n, w' = W.drewN n) :=
    fun W => prefix_calls S W (by omega) (get 0 (by omega)) (get 1 (by omega)) (get 2 (by omega)) (get 3 (by omega))
  have R1 : Hid (∀ W, Calls Tryf.prog 7 #[.string S, .int .i64 4] W fun e w' => e = .returned (.tuple #[.int .i64 a, .int .i64 (4 + ((Lib.itoa a).length : Int)), .bool true]) ∧ w' = W) := fun W =>
    read_itoa S a 4 (95 :: Lib.itoa j) W (by rw [hT]; simp [text]) (.inr rfl) hsz1 ha.1 ha.2
  have R2 : Hid (∀ W, Calls Tryf.prog 7 #[.string S, .int .i64 (4 + ((Lib.itoa a).length : Int) + 1)] W fun e w' => e = .returned (.tuple #[.int .i64 j, .int .i64 (4 + ((Lib.itoa a).length : Int) + 1 + ((Lib.itoa j).length : Int)), .bool true]) ∧ w' = W) := fun W => by
    have := read_itoa S j (4 + (Lib.itoa a).length + 1) [] W (by
      rw [hT]
      have e : text a j = ([107, 105, 110, 95] ++ Lib.itoa a ++ [95]) ++ Lib.itoa j := rfl
      have el : 4 + (Lib.itoa a).length + 1 = ([107, 105, 110, 95] ++ Lib.itoa a ++ [95]).length := by simp; omega
      rw [e, el, List.drop_left]; simp) (.inl rfl) hsz1 hj0 hj1
    rw [show ((4 + (Lib.itoa a).length + 1 : Nat) : Int) = 4 + ((Lib.itoa a).length : Int) + 1 by omega] at this
    exact this
  have e95 : ((S[4 + (Lib.itoa a).length]'(by omega)).toNat : Int) = 95 := by
    rw [get _ (by omega)]
    have : (text a j).getD (4 + (Lib.itoa a).length) 0 = 95 := by
      have e : text a j = ([107, 105, 110, 95] ++ Lib.itoa a) ++ (95 :: Lib.itoa j) := by simp [text]
      have el : 4 + (Lib.itoa a).length = ([107, 105, 110, 95] ++ Lib.itoa a).length := by simp; omega
      rw [e, el, List.getD, List.getElem?_append_right (Nat.le_refl _)]
      simp
    rw [this]; rfl
  obtain ⟨La, hLa⟩ : ∃ La, (Lib.itoa a).length = La := ⟨_, rfl⟩
  obtain ⟨Lb, hLb⟩ : ∃ Lb, (Lib.itoa j).length = Lb := ⟨_, rfl⟩
  simp only [hLa] at R1 R2 e95 hsz la
  simp only [hLb] at R2 hsz lb
  have hp : (4 : Int) + (La : Int) < (S.size : Int) := by omega
  have hp' : 4 + La < S.size := by omega
  have z1 : (4 : Int) + (La : Int) + 1 + (Lb : Int) ≤ (S.size : Int) := by omega
  have z2 : (S.size : Int) ≤ (4 : Int) + (La : Int) + 1 + (Lb : Int) := by omega
  have ZJ' : Hid (Calls Tryf.prog 5 #[.int .i64 i, .int .i64 j] w fun e w' => e = .returned (.string S) ∧ w' = (w.alloc (.cells #[.iface 3 (.int .i64 a), .iface 3 (.int .i64 j)] 20)).drew) := ZJ
  have e95' : ((S[4 + La]'hp').toNat : Int) = 95 := e95
  clear e95 ZJ hT hS hsl hsz get HZ hF ha
  clear hLa hLb
  go_enter Tryf.func3, Tryf.ntmps3
  go_wp2_with fail
  refine ZJ'.out.mono ?_
  rintro e w' ⟨rfl, rfl⟩
  go_wp2_with fail
  refine (P4.out _).mono ?_
  rintro e w' ⟨rfl, nq, rfl⟩
  go_wp2_with fail
  refine (R1.out _).mono ?_
  rintro e w' ⟨rfl, rfl⟩
  go_wp2_with fail
  refine (R2.out _).mono ?_
  rintro e w' ⟨rfl, rfl⟩
  go_wp2
  go_ret
  exact ⟨rfl, below_drewN ((Below.refl _ w).alloc (Nat.le_refl _) _) _⟩
end Go.Proofs.Qxb6606012aFmt
