/-
  Proof of 'Rows.FnClosingQuoteMatchesLexerSaid'. The frame is the given shell of that statement; the walk is filled in.
-/
import Derived.Test.Qxb6606012aRows
import Derived.WalkKit
import Derived.ProofKit
import Derived.OpenShut
import Derived.ShutString
import Derived.Test.Qxb6606012aQuoteW
namespace Go.Proofs.Qxb6606012a.fnClosingQuoteMatchesLexer
open Go.ChangeShapes Go.WideShapes Go.ChangeAt Go.RowKit
open Go.ChangeMaps (open_string shut_string)
set_option linter.unusedVariables false      -- a walk need not use every 'w<i>' (that an integer argument fits its kind)

theorem own : ownKnob Try.prog.godebug = none := by kernel_rfl

theorem bytes_yes (f : ByteArray) (i : Int) (esc : Bool) (w : World) (h : (f.size : Int) ≤ 1048576) :
    Calls Try.prog 6 #[.string f, .int .i64 i, .bool esc] w fun e w' => e = .returned (.bool true) ∧ w' = w := by
  go_enter Try.func6, Try.ntmps6
  go_wp2
  go_ret
  exact ⟨rfl, rfl⟩
theorem bytes_no (f : ByteArray) (i : Int) (esc : Bool) (w : World) (hm : f.size ≤ maxLen) (h : ¬ (f.size : Int) ≤ 1048576) :
    Calls Try.prog 6 #[.string f, .int .i64 i, .bool esc] w fun e w' => e = .returned (.bool false) ∧ w' = w := by
  unfold maxLen at hm
  go_enter Try.func6, Try.ntmps6
  go_wp2
  go_ret
  exact ⟨rfl, rfl⟩

/-! ### STEP 1: THE WALK: the Go text returns true. -/
set_option maxHeartbeats 1000000 in
theorem walk (a0 : ByteArray) (a1 : Int) (a2 : Bool) (w0 : a0.size ≤ maxLen) (w1 : (Lit.int .i64 a1).wf = true) (w : World) :
    Calls Try.prog 3 #[.string a0, .int .i64 a1, .bool a2] w fun e w' => e = .returned (.bool true) ∧ Grown w w' := by
  by_cases h : (a0.size : Int) ≤ 1048576
  · by_cases hlo : a1 < 0
    · clear w1
      go_enter Try.func3, Try.ntmps3
      go_wp2_with (go_at_call 6; refine (bytes_yes _ _ _ _ h).mono ?_; rintro e w' ⟨rfl, rfl⟩)
      go_ret
      exact ⟨rfl, Grown.refl _⟩
    · obtain ⟨i, rfl⟩ := Int.eq_ofNat_of_zero_le (by omega : 0 ≤ a1)
      by_cases hhi : i < a0.size
      · have hd : decide ((i : Int) < 0) = false := decide_eq_false (by omega)
        have hi' : (i : Int) < (a0.size : Int) := by omega
        clear w1
        have hY : ∀ k (h : k < a0.size), ((a0[k]'h).toNat : Int) = (fun k => ((a0.data.toList.getD k 0).toNat : Int)) k := by
          intro k hk
          have : k < a0.data.toList.length := by simpa using hk
          simp only [List.getD, List.getElem?_eq_getElem this, Option.getD_some]
          rfl
        obtain ⟨Y, hYY⟩ : ∃ Y : Nat → Int, Y = (fun k => ((a0.data.toList.getD k 0).toNat : Int)) := ⟨_, rfl⟩
        rw [← hYY] at hY
        clear hYY
        have HY : Hid (∀ k (h : k < a0.size), ((a0[k]'h).toNat : Int) = Y k) := hY
        clear hY
        go_enter Try.func3, Try.ntmps3
        go_wp2_with fail
        refine (bytes_yes _ _ _ _ h).mono ?_
        rintro e w' ⟨rfl, rfl⟩
        go_wp2_with fail
        refine (Quote.zzclosing_calls a0 Y i a2 _ h hhi HY.out).mono ?_
        rintro e w' ⟨rfl, rfl⟩
        go_wp2_with fail
        refine (Quote.model_calls a0 Y i a2 _ h hhi HY.out).mono ?_
        rintro e w' ⟨rfl, rfl⟩
        go_wp2
        go_ret
        exact ⟨rfl, Grown.refl _⟩
      · have hd : decide ((i : Int) < 0) = false := decide_eq_false (by omega)
        have hi' : ¬ (i : Int) < (a0.size : Int) := by omega
        clear w1
        go_enter Try.func3, Try.ntmps3
        go_wp2_with (go_at_call 6; refine (bytes_yes _ _ _ _ h).mono ?_; rintro e w' ⟨rfl, rfl⟩)
        go_ret
        exact ⟨rfl, Grown.refl _⟩
  · clear w1
    go_enter Try.func3, Try.ntmps3
    go_wp2_with (go_at_call 6; refine (bytes_no _ _ _ _ w0 h).mono ?_; rintro e w' ⟨rfl, rfl⟩)
    go_ret
    exact ⟨rfl, Grown.refl _⟩

/-! ### THE ROW's STEP: WRITTEN OUT: LEAVE IT -/
set_option maxRecDepth 100000 in
theorem lifted (os : Os) (started : os.Started) (H : Type) (enc : TypeId × Value → H) :
    ReturnsInHanded {} Try.checked os 3 .any (Rows.fnClosingQuoteMatchesLexerSpec.pre6 enc Try.prog Try.f3 Rows.fnClosingQuoteMatchesLexerRow.domain false) (Rows.fnClosingQuoteMatchesLexerSpec.post enc Try.prog Try.f3 false true false false) := by
  refine returnsInHanded_of_change (C := Try.checked) own started (by kernel_rfl) Try.func3
    (ChangeSpec.witness6 (enc := enc) (C := Try.checked) false ⟨#[], #[.string ByteArray.empty, .int .i64 0, .bool false], []⟩ 8 (by kernel_rfl) (by kernel_rfl) (by kernel_rfl) (by kernel_rfl)) ?_
  intro W base args ds gs before hval0 hW hcnd _
  have hval : ∀ (j : Nat) t v, Try.f3.params[j]? = some t → args[j]? = some v → Value.okWide Try.prog W .any base t v := hval0
  have hW' := hW
  obtain ⟨p, q, hA0, hV, rfl, hfz, hnd⟩ := hW
  have hA : DataW.TrodAll enc Try.prog W 0 (fun _ => true) true Try.f3.params.toList args.toList ds p := hA0
  rw [Try.params3] at hA hval
  obtain ⟨v0, vs0, d0, ds0, p0, q0, hargs, rfl, rfl, h0, r0⟩ := trodAll_cons hA
  obtain ⟨v1, vs1, d1, ds1, p1, q1, rfl, rfl, rfl, h1, r1⟩ := trodAll_cons r0
  obtain ⟨v2, vs2, d2, ds2, p2, q2, rfl, rfl, rfl, h2, r2⟩ := trodAll_cons r1
  obtain ⟨rfl, rfl, rfl⟩ := trodAll_nil r2
  obtain rfl : args = #[v0, v1, v2] := by cases args; simp_all
  obtain ⟨rfl, rfl⟩ := trodVars_none hV
  obtain ⟨a0, rfl, rfl, rfl, w0⟩ := open_string Try.underlying9 (hval 0 9 v0 rfl rfl) h0
  obtain ⟨a1, rfl, rfl, rfl, w1⟩ := open_int Try.underlying3 (hval 1 3 v1 rfl rfl) h1
  obtain ⟨a2, rfl, rfl, rfl⟩ := open_bool Try.underlying4 (hval 2 4 v2 rfl rfl) h2
  clear hA0 hval0
  simp only [List.append_nil] at hW'
  refine (walk a0 a1 a2 w0 w1 W).mono fun e W' ⟨he, hg⟩ => ?_
  subst he
  exact ⟨_, rfl, post_of_same (pa := []) (pv := []) hW' (fun _ _ _ => (trodAll_cons_mk (shut_bool Try.underlying4 _) trodAll_mk0)) (fun sp _ => (trodAll_cons_mk (shut_string Try.underlying9 w0) (trodAll_cons_mk (shut_int Try.underlying3 w1) (trodAll_cons_mk (shut_bool Try.underlying4 _) trodAll_mk0)))) (fun _ _ => rfl) rfl
    (hg.frame _) hg.2.1 (ok_one (by kernel_rfl) rfl (okWide_bool_mk Try.underlying4 _))⟩

theorem over : Rows.fnClosingQuoteMatchesLexerRow.holds Try.pinned (OpenSpec.ofChange Rows.fnClosingQuoteMatchesLexerSpec) :=
  OpenClaim.holds_of_wide 3 Try.f3 rfl rfl rfl rfl rfl rfl rfl ⟨rfl, rfl, rfl, rfl, rfl⟩ rfl rfl rfl rfl rfl (by kernel_rfl) Try.func3 (by kernel_rfl)
    (of_decide_eq_true (by kernel_rfl)) (by unfold Func.isWrapper; first | (rw [if_pos (by decide +kernel)]; kernel_rfl) | (rw [if_neg (by decide +kernel)]; exact ⟨rfl, rfl⟩))
    (fun os started H enc _ => lifted os started H enc)

/-- ████ THE STATEMENT ████ -/
theorem proved : Rows.FnClosingQuoteMatchesLexerSaid :=
  over
end Go.Proofs.Qxb6606012a.fnClosingQuoteMatchesLexer
