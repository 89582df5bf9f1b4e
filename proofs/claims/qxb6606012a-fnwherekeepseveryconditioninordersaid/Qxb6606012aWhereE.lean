/-
  The length's bound (zzBytes): it answers, and the world is as it was.
-/
import Derived.Test.Qxb6606012aWhereD
namespace Go.Proofs.Qxb6606012a.Whr
open Go.RowKit Go.Deep

/-- The slice R (n elements) holds the strings c, from cell off of block b on. -/
def InS (w : World) (R : Option Addr) (n b off : Nat) (c : Nat → ByteArray) : Prop := ∀ i, i < n → R = some ⟨b, off, none⟩ ∧ w.cell? ⟨b, off + i, none⟩ = some (.string (c i))

set_option maxRecDepth 100000 in
set_option maxHeartbeats 2000000 in
theorem bytes_far (R : Option Addr) (n cap : Nat) (w : World) (hn : ¬ (n : Int) ≤ 1048576) :
    Calls Try.prog 10 #[.slice R n cap] w fun e w' => (e = .returned (.bool true) ∨ e = .returned (.bool false)) ∧ w' = w := by
  go_enter Try.func10, Try.ntmps10
  go_wp2
  go_ret
  exact ⟨.inr rfl, rfl⟩

set_option maxRecDepth 100000 in
set_option maxHeartbeats 2000000 in
theorem bytes_near (R : Option Addr) (n cap b off : Nat) (c : Nat → ByteArray) (w : World) (hn : (n : Int) ≤ 1048576) (hin : InS w R n b off c) :
    Calls Try.prog 10 #[.slice R n cap] w fun e w' => (e = .returned (.bool true) ∨ e = .returned (.bool false)) ∧ w' = w := by
  go_enter Try.func10, Try.ntmps10
  go_wp2
  go_loopw [3, 4] (fun z i wr => ∃ (k : Nat) (s : Int), k ≤ n ∧ i = .int .i64 k ∧ z = .int .i64 s ∧ 0 ≤ s ∧ s ≤ 1048576 ∧ wr = w) (fun _ i _ => n - (intOf i).toNat)
  case atStart => exact ⟨0, n, by omega, rfl, by first | rfl | go_num, by omega, by omega, rfl⟩
  case round =>
    obtain ⟨k, s, hk, rfl, rfl, h0, h1, rfl⟩ := hrel
    by_cases hlt : k < n
    · obtain ⟨rfl, hc⟩ := hin k hlt
      by_cases hb : ((c k).size : Int) ≤ 1048576
      · by_cases ht : s + ((c k).size : Int) ≤ 1048576
        · go_wp2
          go_roundw
          case rel => exact ⟨k + 1, _, by omega, by go_num, rfl, by omega, by omega, trivial⟩
          case measure => simp [intOf]; omega
        · go_wp2
          go_ret
          exact ⟨.inr rfl, rfl⟩
      · go_wp2
        go_ret
        exact ⟨.inr rfl, rfl⟩
    · obtain rfl : k = n := by omega
      go_wp2
      go_ret
      exact ⟨.inl rfl, rfl⟩
end Go.Proofs.Qxb6606012a.Whr
