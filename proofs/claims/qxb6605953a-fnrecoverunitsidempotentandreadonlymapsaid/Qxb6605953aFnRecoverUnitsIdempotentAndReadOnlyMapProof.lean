/-
  Proof of 'Rows.FnRecoverUnitsIdempotentAndReadOnlyMapSaid'. The frame is turned from the shell of this seat's law over a slice of bytes.
-/
import Derived.Test.Qxb6605953aRows
import Derived.WalkKit
import Derived.ProofKit
import Derived.OpenShut
import Derived.ShutString
import Derived.ChangeOld
import Derived.Below
import Derived.Deep.SlicePairs
import Derived.Test.Qxb6605953aRecF
namespace Go.Proofs.Qxb6605953a.fnRecoverUnitsIdempotentAndReadOnlyMap
open Go.ChangeShapes Go.WideShapes Go.ChangeAt Go.RowKit Go.Deep
open Go.ChangeMaps (open_string shut_string)
set_option linter.unusedVariables false

theorem own : ownKnob Try.prog.godebug = none := by kernel_rfl
theorem laidOut : laidOutB Try.prog = true := by kernel_rfl
theorem cells67 : Try.prog.cellsOf 67 = 2 := by kernel_rfl
theorem cells3 : Try.prog.cellsOf 3 = 1 := by kernel_rfl
theorem cells4 : Try.prog.cellsOf 4 = 1 := by kernel_rfl
theorem cells5 : Try.prog.cellsOf 5 = 1 := by kernel_rfl

theorem walk (F R : Option Addr) (m n c c' : Nat) (x d : Nat → Int) (r : Nat → Bool) (w : World) (hF : Rec.InF w F m c d r) (hR : Rec.InB w R n c' x) :
    Calls Try.prog 6 #[.slice F m c, .slice R n c'] w fun e w' => e = .returned (.bool true) ∧ Below w.heap.size w w' := by
  have toShell : ∀ e w', Rec.RetT w e w' → e = .returned (.bool true) ∧ Below w.heap.size w w' := fun _ _ h => h
  by_cases h : (m : Int) + (n : Int) ≤ 1048576
  · by_cases h1 : (m : Int) ≤ 65536 ∧ (n : Int) ≤ 65536
    · by_cases h16 : (m : Int) * 16 + (n : Int) ≤ 1048576
      · exact (Rec.law_core F R m n c c' x d r w h1.1 h1.2 h16 hF hR).mono toShell
      · exact (Rec.law_wide F R m n c c' w h h1.1 h1.2 h16).mono toShell
    · exact (Rec.law_long F R m n c c' w h h1).mono toShell
  · exact (Rec.law_far F R m n c c' w h).mono toShell

set_option maxRecDepth 100000 in
theorem lifted (os : Os) (started : os.Started) (H : Type) (enc : TypeId × Value → H) :
    ReturnsInHanded {} Try.checked os 6 .any (Rows.fnRecoverUnitsIdempotentAndReadOnlyMapSpec.pre6 enc Try.prog Try.f6 Rows.fnRecoverUnitsIdempotentAndReadOnlyMapRow.domain false) (Rows.fnRecoverUnitsIdempotentAndReadOnlyMapSpec.post enc Try.prog Try.f6 false true false false) := by
  refine returnsInHanded_of_change (C := Try.checked) own started (by kernel_rfl) Try.func6
    (ChangeSpec.witness6 (enc := enc) (C := Try.checked) false ⟨#[], #[.slice none 0 0, .slice none 0 0], []⟩ 8 (by kernel_rfl) (by kernel_rfl) (by kernel_rfl) (by kernel_rfl)) ?_
  intro W base args ds gs before hval0 hW hcnd _
  have hval : ∀ (j : Nat) t v, Try.f6.params[j]? = some t → args[j]? = some v → Value.okWide Try.prog W .any base t v := hval0
  have hW' := hW
  obtain ⟨p, q, hA0, hV, rfl, hfz, hnd⟩ := hW
  have hA : DataW.TrodAll enc Try.prog W 0 (fun _ => true) true Try.f6.params.toList args.toList ds p := hA0
  rw [Try.params6] at hA hval
  obtain ⟨v0, vs0, d0, ds0, p0, q0, hargs, rfl, rfl, h0, r0⟩ := trodAll_cons hA
  obtain ⟨v1, vs1, d1, ds1, p1, q1, rfl, rfl, rfl, h1, r1⟩ := trodAll_cons r0
  obtain ⟨rfl, rfl, rfl⟩ := trodAll_nil r1
  obtain rfl : args = #[v0, v1] := by cases args; simp_all
  obtain ⟨rfl, rfl⟩ := trodVars_none hV
  obtain ⟨a0, len0, cap0, rfl⟩ := okWide_slice Try.underlying31 (hval 0 31 v0 rfl rfl)
  have k0 := h0
  have lt0 : ∀ x ∈ p0, x.block < W.heap.size := by obtain ⟨m, hm⟩ := k0; exact DataW.trod_lt m _ _ _ hm
  obtain ⟨dd, rr, w0⟩ : ∃ dd rr, Rec.InF W a0 len0 cap0 dd rr := by
    obtain ⟨fuel, hf⟩ := h0
    rcases open_slice_pairs Try.underlying31 Try.underlying67 cells67 rfl rfl cells3 cells4 hf with ⟨hcs, _⟩ | ⟨x, l, c, mm, nn, V0, V1, D0, D1, P0, P1, hcs, _, hl, hm, hmm, _, hcell⟩
    · simp [Value.cells] at hcs
      obtain ⟨rfl, rfl, rfl⟩ := hcs
      exact ⟨fun _ => 0, fun _ => false, .inl ⟨rfl, rfl, rfl⟩⟩
    · simp [Value.cells] at hcs
      obtain ⟨rfl, rfl, rfl⟩ := hcs
      by_cases hz : len0 = 0
      · exact ⟨fun _ => 0, fun _ => false, .inr (.inl ⟨hz, _, rfl⟩)⟩
      · simp at hmm
        have each0 : ∀ i, i < len0 → ∃ z : Int, W.cell? (x.add (i * 2)) = some (.int .i64 z) := fun i hi => by
          obtain ⟨g0, _, t0, _⟩ := hcell i (by omega)
          obtain ⟨z, hz, _⟩ := DataW.trod_int Try.underlying3 t0
          simp at hz
          exact ⟨z, by rw [g0, hz]⟩
        have each1 : ∀ i, i < len0 → ∃ z : Bool, W.cell? (x.add (i * 2 + 1)) = some (.bool z) := fun i hi => by
          obtain ⟨_, g1, _, t1⟩ := hcell i (by omega)
          obtain ⟨z, hz, _⟩ := DataW.trod_bool Try.underlying4 t1
          simp at hz
          exact ⟨z, by rw [g1, hz]⟩
        obtain ⟨dd, hdd⟩ := choose_lt each0
        obtain ⟨rr, hrr⟩ := choose_lt each1
        obtain ⟨b, off, spot⟩ := x
        have hspot : spot = none := by simpa [Addr.add] using World.cell?_spot (hdd 0 (by omega))
        subst hspot
        refine ⟨dd, rr, .inr (.inr ⟨by omega, b, off, rfl, ?_, fun i hi => ⟨?_, ?_⟩⟩)⟩
        · have := World.block_lt_of_cell? _ _ (hdd 0 (by omega)); rwa [add_plain] at this
        · have := hdd i hi; rwa [add_plain] at this
        · have := hrr i hi; rwa [add_plain] at this
  obtain ⟨a1, len1, cap1, rfl⟩ := okWide_slice Try.underlying22 (hval 1 22 v1 rfl rfl)
  have k1 := h1
  have lt1 : ∀ x ∈ p1, x.block < W.heap.size := by obtain ⟨m, hm⟩ := k1; exact DataW.trod_lt m _ _ _ hm
  obtain ⟨xx, w1⟩ : ∃ xx, Rec.InB W a1 len1 cap1 xx := by
    obtain ⟨fuel, hf⟩ := h1
    rcases open_ints Try.underlying22 Try.underlying5 cells5 hf with ⟨hcs, _⟩ | ⟨x, l, c, zs, hcs, _, hl, hm, hz, _, hcell, hwz⟩
    · simp [Value.cells] at hcs
      obtain ⟨rfl, rfl, rfl⟩ := hcs
      exact ⟨fun _ => 0, .inl ⟨rfl, rfl, rfl⟩⟩
    · simp [Value.cells] at hcs
      obtain ⟨rfl, rfl, rfl⟩ := hcs
      by_cases h0 : len1 = 0
      · exact ⟨fun _ => 0, .inr (.inl ⟨h0, _, rfl⟩)⟩
      · simp at hz
        obtain ⟨b, off, spot⟩ := x
        have hspot : spot = none := by simpa [Addr.add] using World.cell?_spot (hcell 0 (by omega))
        subst hspot
        refine ⟨fun i => zs.getD i 0, .inr (.inr ⟨by omega, b, off, rfl, ?_, fun i hi => ?_⟩)⟩
        · have := World.block_lt_of_cell? _ _ (hcell 0 (by omega)); rwa [add_plain] at this
        · have := hcell i (by omega); rwa [add_plain] at this
  clear hA0 hval0
  refine (walk a0 a1 len0 len1 cap0 cap1 xx dd rr W w0 w1).mono fun e W' ⟨he, bel⟩ => ?_
  subst he
  exact ⟨_, rfl, _, _, _, [], _, [], hW', trodAll_mk1 (shut_bool Try.underlying4 _), (trodAll_cons_mk (Below.trod laidOut (by kernel_rfl) (of_decide_eq_true (by kernel_rfl)) k0 bel lt0) (trodAll_cons_mk (Below.trod laidOut (by kernel_rfl) (of_decide_eq_true (by kernel_rfl)) k1 bel lt1) trodAll_mk0)), rfl, bel.frame _, fun h => by cases h⟩

theorem over : Rows.fnRecoverUnitsIdempotentAndReadOnlyMapRow.holds Try.pinned (OpenSpec.ofChange Rows.fnRecoverUnitsIdempotentAndReadOnlyMapSpec) :=
  OpenClaim.holds_of_wide 6 Try.f6 rfl rfl rfl rfl rfl rfl rfl ⟨rfl, rfl, rfl, rfl, rfl⟩ rfl rfl rfl rfl rfl (by kernel_rfl) Try.func6 (by kernel_rfl)
    (of_decide_eq_true (by kernel_rfl)) (by unfold Func.isWrapper; first | (rw [if_pos (by decide +kernel)]; kernel_rfl) | (rw [if_neg (by decide +kernel)]; exact ⟨rfl, rfl⟩))
    (fun os started H enc _ => lifted os started H enc)

/-- The statement. -/
theorem proved : Rows.FnRecoverUnitsIdempotentAndReadOnlyMapSaid := over
end Go.Proofs.Qxb6605953a.fnRecoverUnitsIdempotentAndReadOnlyMap
