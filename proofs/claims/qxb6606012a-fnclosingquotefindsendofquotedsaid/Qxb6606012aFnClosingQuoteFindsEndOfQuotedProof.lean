/-
  Proof of 'Rows.FnClosingQuoteFindsEndOfQuotedSaid'. The frame is the given shell of that statement; the walk is filled in.
-/
import Derived.Test.Qxb6606012aRows
import Derived.WalkKit
import Derived.ProofKit
import Derived.OpenShut
import Derived.ShutString
import Derived.ChangeOld
import Derived.Below
import Derived.Test.Qxb6606012aQuoteG
namespace Go.Proofs.Qxb6606012a.fnClosingQuoteFindsEndOfQuoted
open Go.ChangeShapes Go.WideShapes Go.ChangeAt Go.RowKit
open Go.ChangeMaps (open_string shut_string)
set_option linter.unusedVariables false      -- a walk need not use every 'w<i>' (that an integer argument fits its kind)

theorem own : ownKnob Try.prog.godebug = none := by kernel_rfl

/-! ### STEP 1: THE WALK: the Go text returns true; nothing that was there has turned. -/
theorem walk (a0 : ByteArray) (a1 : Int) (a2 : ByteArray) (a3 : ByteArray) (a4 : Bool) (w0 : a0.size ≤ maxLen) (w1 : (Lit.int .u8 a1).wf = true) (w2 : a2.size ≤ maxLen) (w3 : a3.size ≤ maxLen) (w : World) :
    Calls Try.prog 4 #[.string a0, .int .u8 a1, .string a2, .string a3, .bool a4] w fun e w' => e = .returned (.bool true) ∧ Below w.heap.size w w' := by
  have toShell : ∀ e w', Quote.RetT w e w' → e = .returned (.bool true) ∧ Below w.heap.size w w' := fun _ _ h => h
  obtain ⟨q, rfl⟩ : ∃ q : UInt8, a1 = (q.toNat : Int) := by
    have : 0 ≤ a1 ∧ a1 < 256 := by
      simp [Lit.wf, IntKind.min, IntKind.max, IntKind.signed, IntKind.bits] at w1
      omega
    refine ⟨UInt8.ofNat a1.toNat, ?_⟩
    rw [UInt8.toNat_ofNat_of_lt' (by show a1.toNat < 256; omega)]
    omega
  by_cases h : (a0.size : Int) + (a2.size : Int) + (a3.size : Int) ≤ 1048576
  · by_cases hl : (a0.size : Int) ≤ 131072
    · by_cases hs : (a2.size : Int) ≤ 262144
      · by_cases hr : (a3.size : Int) ≤ 131072
        · by_cases hq : a4 = true ∧ q = 92
          · obtain ⟨rfl, rfl⟩ := hq
            exact (Quote.finds_slash a0 _ a2 a3 w h hl hs hr rfl).mono toShell
          · by_cases hrest : a3.data.toList.head? = some q
            · have h0 : 0 < a3.size := by
                cases hd : a3.data.toList with
                | nil => rw [hd] at hrest; simp at hrest
                | cons c r => show 0 < a3.data.size; rw [← Array.length_toList, hd]; simp
              have he : (((a3[0]'h0).toNat : Int) == (q.toNat : Int)) = true := by
                have : a3[0]'h0 = q := by
                  rw [List.head?_eq_getElem?, List.getElem?_eq_getElem (by simpa using h0)] at hrest
                  exact Option.some.inj hrest
                rw [this]; simp
              exact (Quote.finds_opens a0 q a2 a3 a4 w h hl hs hr hq h0 he).mono toShell
            · cases a4
              · exact (Quote.finds_false a0 a2 a3 q w hl hs hr h hrest).mono toShell
              · exact (Quote.finds_true a0 a2 a3 q w hl hs hr h (fun e => hq ⟨rfl, e⟩) hrest).mono toShell
        · exact (Quote.finds_rest a0 _ a2 a3 a4 w h hl hs hr).mono toShell
      · exact (Quote.finds_s a0 _ a2 a3 a4 w h hl hs).mono toShell
    · exact (Quote.finds_lead a0 _ a2 a3 a4 w h hl).mono toShell
  · exact (Quote.finds_far a0 _ a2 a3 a4 w w0 w2 w3 h).mono toShell

/-! ### THE ROW's STEP: WRITTEN OUT: LEAVE IT -/
set_option maxRecDepth 100000 in
theorem lifted (os : Os) (started : os.Started) (H : Type) (enc : TypeId × Value → H) :
    ReturnsInHanded {} Try.checked os 4 .any (Rows.fnClosingQuoteFindsEndOfQuotedSpec.pre6 enc Try.prog Try.f4 Rows.fnClosingQuoteFindsEndOfQuotedRow.domain false) (Rows.fnClosingQuoteFindsEndOfQuotedSpec.post enc Try.prog Try.f4 false true false false) := by
  refine returnsInHanded_of_change (C := Try.checked) own started (by kernel_rfl) Try.func4
    (ChangeSpec.witness6 (enc := enc) (C := Try.checked) false ⟨#[], #[.string ByteArray.empty, .int .u8 0, .string ByteArray.empty, .string ByteArray.empty, .bool false], []⟩ 8 (by kernel_rfl) (by kernel_rfl) (by kernel_rfl) (by kernel_rfl)) ?_
  intro W base args ds gs before hval0 hW hcnd _
  have hval : ∀ (j : Nat) t v, Try.f4.params[j]? = some t → args[j]? = some v → Value.okWide Try.prog W .any base t v := hval0
  have hW' := hW
  obtain ⟨p, q, hA0, hV, rfl, hfz, hnd⟩ := hW
  have hA : DataW.TrodAll enc Try.prog W 0 (fun _ => true) true Try.f4.params.toList args.toList ds p := hA0
  rw [Try.params4] at hA hval
  obtain ⟨v0, vs0, d0, ds0, p0, q0, hargs, rfl, rfl, h0, r0⟩ := trodAll_cons hA
  obtain ⟨v1, vs1, d1, ds1, p1, q1, rfl, rfl, rfl, h1, r1⟩ := trodAll_cons r0
  obtain ⟨v2, vs2, d2, ds2, p2, q2, rfl, rfl, rfl, h2, r2⟩ := trodAll_cons r1
  obtain ⟨v3, vs3, d3, ds3, p3, q3, rfl, rfl, rfl, h3, r3⟩ := trodAll_cons r2
  obtain ⟨v4, vs4, d4, ds4, p4, q4, rfl, rfl, rfl, h4, r4⟩ := trodAll_cons r3
  obtain ⟨rfl, rfl, rfl⟩ := trodAll_nil r4
  obtain rfl : args = #[v0, v1, v2, v3, v4] := by cases args; simp_all
  obtain ⟨rfl, rfl⟩ := trodVars_none hV
  obtain ⟨a0, rfl, rfl, rfl, w0⟩ := open_string Try.underlying9 (hval 0 9 v0 rfl rfl) h0
  obtain ⟨a1, rfl, rfl, rfl, w1⟩ := open_int Try.underlying5 (hval 1 5 v1 rfl rfl) h1
  obtain ⟨a2, rfl, rfl, rfl, w2⟩ := open_string Try.underlying9 (hval 2 9 v2 rfl rfl) h2
  obtain ⟨a3, rfl, rfl, rfl, w3⟩ := open_string Try.underlying9 (hval 3 9 v3 rfl rfl) h3
  obtain ⟨a4, rfl, rfl, rfl⟩ := open_bool Try.underlying4 (hval 4 4 v4 rfl rfl) h4
  clear hA0 hval0
  simp only [List.append_nil] at hW'
  refine (walk a0 a1 a2 a3 a4 w0 w1 w2 w3 W).mono fun e W' ⟨he, bel⟩ => ?_
  subst he
  exact ⟨_, rfl, _, _, _, [], [], [], hW', trodAll_mk1 (shut_bool Try.underlying4 _), (trodAll_cons_mk (shut_string Try.underlying9 w0) (trodAll_cons_mk (shut_int Try.underlying5 w1) (trodAll_cons_mk (shut_string Try.underlying9 w2) (trodAll_cons_mk (shut_string Try.underlying9 w3) (trodAll_cons_mk (shut_bool Try.underlying4 _) trodAll_mk0))))), rfl, bel.frame _, fun h => by cases h⟩

theorem over : Rows.fnClosingQuoteFindsEndOfQuotedRow.holds Try.pinned (OpenSpec.ofChange Rows.fnClosingQuoteFindsEndOfQuotedSpec) :=
  OpenClaim.holds_of_wide 4 Try.f4 rfl rfl rfl rfl rfl rfl rfl ⟨rfl, rfl, rfl, rfl, rfl⟩ rfl rfl rfl rfl rfl (by kernel_rfl) Try.func4 (by kernel_rfl)
    (of_decide_eq_true (by kernel_rfl)) (by unfold Func.isWrapper; first | (rw [if_pos (by decide +kernel)]; kernel_rfl) | (rw [if_neg (by decide +kernel)]; exact ⟨rfl, rfl⟩))
    (fun os started H enc _ => lifted os started H enc)

/-- ████ THE STATEMENT ████ -/
theorem proved : Rows.FnClosingQuoteFindsEndOfQuotedSaid :=
  over
end Go.Proofs.Qxb6606012a.fnClosingQuoteFindsEndOfQuoted
