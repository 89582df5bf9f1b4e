/-
  joinColumn and ZZjoinColumn: the text is what fmt gives; hasPrefix at a text that opens with "kin_".
-/
import Derived.Test.Qxb6606012aFmtFacts
import Derived.WalkKit
import Derived.WalkSpells
import Derived.WalkLawsBesides
import Derived.Below
import Derived.Deep.QuietTactic
import Derived.BigQuiet
import Derived.RegionTactic
namespace Go.Proofs.Qxb6606012aFmt
open Go.RowKit Go.Extern.Stop Go.Stop Go.Extern
attribute [local go_sem] call9 guardAny fmt2 fmt2r op3_100

set_option maxHeartbeats 400000 in
theorem join_calls (F : Interp) (i j : Int) (w : World) (hF : F.answers w.tape) :
    Calls Tryf.prog 8 #[.int .i64 i, .int .i64 j] w fun e w' => e = .returned (.string (FmtStop.textOf (F "fmt.Sprintf" (reading (wrap64 (i + 1)) j) 0))) ∧
      w' = (w.alloc (.cells #[.iface 3 (.int .i64 (wrap64 (i + 1))), .iface 3 (.int .i64 j)] 20)).drew := by
  have hF' := answers_open hF
  go_enter Tryf.func8, Tryf.ntmps8
  go_wp2
  go_ret
  exact ⟨rfl, rfl⟩

set_option maxHeartbeats 400000 in
theorem zzjoin_calls (F : Interp) (i j : Int) (w : World) (hF : F.answers w.tape) :
    Calls Tryf.prog 5 #[.int .i64 i, .int .i64 j] w fun e w' => e = .returned (.string (FmtStop.textOf (F "fmt.Sprintf" (reading (wrap64 (i + 1)) j) 0))) ∧
      w' = (w.alloc (.cells #[.iface 3 (.int .i64 (wrap64 (i + 1))), .iface 3 (.int .i64 j)] 20)).drew := by
  go_enter Tryf.func5, Tryf.ntmps5
  go_wp2_with fail
  refine (join_calls F i j _ hF).mono ?_
  rintro e w' ⟨rfl, rfl⟩
  go_wp2
  go_ret
  exact ⟨rfl, rfl⟩

set_option maxHeartbeats 1000000 in
theorem prefix_calls (s : ByteArray) (w : World) (h4 : 4 ≤ s.size) (e0 : ((s[0]'(by omega)).toNat : Int) = 107) (e1 : ((s[1]'(by omega)).toNat : Int) = 105) (e2 : ((s[2]'(by omega)).toNat : Int) = 110) (e3 : ((s[3]'(by omega)).toNat : Int) = 95) :
    Calls Tryf.prog 6 #[.string s, .string ⟨#[107, 105, 110, 95]⟩] w fun e w' => e = .returned (.bool true) ∧ ∃ n, w' = w.drewN n := by
  have l4 : (4 : Int) ≤ (s.size : Int) := by omega
  have d4 : decide ((s.size : Int) < 4) = false := decide_eq_false (by omega)
  go_enter Tryf.func6, Tryf.ntmps6
  go_wp2
  refine wp_loop_rounds 5 ?_
  rw [rounds_succ]
  go_wp2
  go_quiet (fail)
  go_wp2
  rw [rounds_succ]
  go_wp2
  go_quiet (fail)
  go_wp2
  rw [rounds_succ]
  go_wp2
  go_quiet (fail)
  go_wp2
  rw [rounds_succ]
  go_wp2
  go_quiet (fail)
  go_wp2
  rw [rounds_succ]
  go_wp2
  go_ret
  exact ⟨rfl, _, rfl⟩
end Go.Proofs.Qxb6606012aFmt
