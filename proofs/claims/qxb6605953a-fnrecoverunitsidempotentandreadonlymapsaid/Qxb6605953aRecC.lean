/-
  buildRecover.
-/
import Derived.Test.Qxb6605953aRecB
import Derived.RegionTactic
import Derived.Deep.RegionWith
import Derived.Deep.DrawnRows
import Derived.WalkSmall
import Derived.Deep.Light
namespace Go.Proofs.Qxb6605953a.Rec
open Go.RowKit Go.Deep
attribute [local go_sem ↓] Go.wp_at_zero Go.wp_at_succ

/-- A row of bytes as buildRecover meets it. -/
def RowB (w : World) (R : Option Addr) (n : Nat) (x : Nat → Int) : Prop :=
  n = 0 ∨ ∃ g, R = some ⟨g, 0, none⟩ ∧ g < w.heap.size ∧ ∀ i, i < n → w.cell? ⟨g, i, none⟩ = some (.int .u8 (x i))
/-- A row of FailureIns. -/
def RowF (w : World) (F : Option Addr) (m : Nat) (d : Nat → Int) (r : Nat → Bool) : Prop :=
  m = 0 ∨ ∃ g, F = some ⟨g, 0, none⟩ ∧ g < w.heap.size ∧ ∀ i, i < m → w.cell? ⟨g, i * 2, none⟩ = some (.int .i64 (d i)) ∧ w.cell? ⟨g, i * 2 + 1, none⟩ = some (.bool (r i))

theorem idx22 {R : Option Addr} {g n k : Nat} (hR : R = some ⟨g, 0, none⟩) (hk : k < n) (w : World) :
    (Instr.indexAt 22 (.slice R n n) (.int .i64 (k : Int))).run Try.prog w = .ok (.pointer (some ⟨g, k, none⟩)) w := by
  subst hR
  have : (k : Int) < (n : Int) := by omega
  go_simp
theorem idx31 {F : Option Addr} {g n k : Nat} (hF : F = some ⟨g, 0, none⟩) (hk : k < n) (w : World) :
    (Instr.indexAt 31 (.slice F n n) (.int .i64 (k : Int))).run Try.prog w = .ok (.pointer (some ⟨g, k * 2, none⟩)) w := by
  subst hF
  have : (k : Int) < (n : Int) := by omega
  go_simp

theorem info42 : (Try.prog.info? 42).map (fun i => (i.zero, i.size, i.bytes)) = some (some (.pointer none), 1, 8) := by kernel_rfl
theorem info43 : (Try.prog.info? 43).map (fun i => (i.zero, i.size, i.bytes)) = some (some (.pointer none), 1, 8) := by kernel_rfl
theorem info45 : (Try.prog.info? 45).map (fun i => (i.zero, i.size, i.bytes)) = some (some (.pointer none), 1, 8) := by kernel_rfl

theorem I3.drew {w2 : World} {m : Nat} {u : Nat → Option Addr} {r : Nat → Bool} {k : Nat} {wr : World} (h : I3 w2 m u r k wr) : I3 w2 m u r k wr.drew :=
  ⟨h.below.drew, h.size, h.cmds, h.fails, h.cfree, h.ffree, h.dev, h.cmd, h.recd, h.free⟩

/-- What buildRecover leaves, from block B on: the row of n pointers to Devices; the n Devices; the map; the rows of commands and failures; the commands and the failures in turn. 'q': the failures' flags. -/
structure St (B n m : Nat) (x d : Nat → Int) (q : Nat → Bool) (w : World) : Prop where
  devs : ∀ i, i < n → w.cell? ⟨B, i, none⟩ = some (.pointer (some ⟨B + 1 + i, 0, none⟩))
  devb : Devs w (B + 1) n
  map : w.heap[B + 1 + n]? = some (.map (ents (B + 1) x n).toArray (ents (B + 1) x n).length)
  cmds : ∀ i, i < m → w.cell? ⟨B + n + 2, i, none⟩ = some (.pointer (some ⟨B + n + 4 + 2 * i, 0, none⟩))
  fails : ∀ i, i < m → w.cell? ⟨B + n + 3, i, none⟩ = some (.pointer (some ⟨B + n + 5 + 2 * i, 0, none⟩))
  dev : ∀ i, i < m → w.cell? ⟨B + n + 4 + 2 * i, 0, none⟩ = some (.pointer (unitP (B + 1) n (d i)))
  cmd : ∀ i, i < m → w.cell? ⟨B + n + 5 + 2 * i, 0, none⟩ = some (.pointer (some ⟨B + n + 4 + 2 * i, 0, none⟩))
  recd : ∀ i, i < m → w.cell? ⟨B + n + 5 + 2 * i, 3, none⟩ = some (.bool (q i))
  free : ∀ i, i < m → w.frozen? ⟨B + n + 5 + 2 * i, 3, none⟩ = false

def Built (w : World) (n m : Nat) (x d : Nat → Int) (r : Nat → Bool) (e : Ending) (w' : World) : Prop :=
  e = .returned (.tuple #[.slice (some ⟨w.heap.size, 0, none⟩) n n, .slice (some ⟨w.heap.size + n + 2, 0, none⟩) m m, .slice (some ⟨w.heap.size + n + 3, 0, none⟩) m m, .map (some (w.heap.size + 1 + n))]) ∧
    Below w.heap.size w w' ∧ St w.heap.size n m x d r w'

theorem built_mk {w w1 w2 w3 : World} {n m : Nat} {x d : Nat → Int} {r : Nat → Bool} (h1 : I1 w n n w1) (h2 : I2 w1 (w.heap.size + 1) x n w2) (h3 : I3 w2 m (fun j => unitP (w.heap.size + 1) n (d j)) r m w3) :
    Built w n m x d r (.returned (.tuple #[.slice (some ⟨w.heap.size, 0, none⟩) n n, .slice (some ⟨w2.heap.size, 0, none⟩) m m, .slice (some ⟨w2.heap.size + 1, 0, none⟩) m m, .map (some w1.heap.size)])) w3 := by
  have s1 := h1.size
  have s2 := h2.size
  have e1 : w1.heap.size = w.heap.size + 1 + n := s1
  have e2 : w2.heap.size = w.heap.size + n + 2 := by omega
  refine ⟨by rw [e1, e2], ?_, ?_, ?_, ?_, ?_, ?_, ?_, ?_, ?_, ?_⟩
  · exact (h1.below.trans (h2.below.mono (by omega))).trans (h3.below.mono (by omega))
  · intro i hi
    rw [h3.below.cell (p := ⟨w.heap.size, i, none⟩) (by simp; omega), h2.below.cell (p := ⟨w.heap.size, i, none⟩) (by simp; omega), h1.cells i hi, if_pos hi]
  · intro i hi
    exact ⟨_, ((h3.below.block _ (by omega)).trans (h2.below.block _ (by omega))).trans (h1.devs i hi)⟩
  · rw [← e1, h3.below.block _ (by omega)]
    exact h2.map
  · intro i hi
    rw [← e2, h3.cmds i hi, if_pos hi, e2]
  · intro i hi
    rw [show w.heap.size + n + 3 = w2.heap.size + 1 by omega, h3.fails i hi, if_pos hi, e2]
  · intro i hi
    rw [show w.heap.size + n + 4 + 2 * i = w2.heap.size + 2 + 2 * i by omega, h3.dev i hi]
  · intro i hi
    rw [show w.heap.size + n + 5 + 2 * i = w2.heap.size + 3 + 2 * i by omega, h3.cmd i hi, e2]
  · intro i hi
    rw [show w.heap.size + n + 5 + 2 * i = w2.heap.size + 3 + 2 * i by omega, h3.recd i hi]
  · intro i hi
    rw [show w.heap.size + n + 5 + 2 * i = w2.heap.size + 3 + 2 * i by omega, h3.free i hi]

set_option maxHeartbeats 2000000 in
set_option maxRecDepth 100000 in
theorem build_calls (F R : Option Addr) (n m : Nat) (x d : Nat → Int) (r : Nat → Bool) (w : World) (hn : (n : Int) ≤ 65536) (hm : (m : Int) ≤ 65536) (hR : RowB w R n x) (hF : RowF w F m d r) :
    Calls Try.prog 15 #[.slice F m m, .slice R n n] w (Built w n m x d r) := by
  have hmk1 := run_make_row' (P := Try.prog) 34 42 (.pointer none) 8 Try.underlying34 info42 rfl .i64 .i64 n (by omega) (by omega) w
  have hmm := make_hint (n : Int)
  go_enter Try.func15, Try.ntmps15
  go_wp2
  clear hmk1
  go_loopw [9] (fun i wr => ∃ k : Nat, k ≤ n ∧ i = .int .i64 k ∧ I1 w n k wr) (fun i _ => n - (intOf i).toNat)
  case atStart => exact ⟨0, by omega, rfl, I1.start w n⟩
  case round =>
    obtain ⟨k, hk, rfl, h1⟩ := hrel
    by_cases hlt : k < n
    · have ck := h1.cells k hlt
      rw [if_neg (by omega)] at ck
      have fk := h1.free k
      have hsz : w.heap.size < wr.heap.size := by have := h1.size; omega
      go_wp2
      go_roundw
      case rel => exact ⟨k + 1, by omega, by go_num, h1.step hlt⟩
      case measure => simp [intOf]; omega
    · obtain rfl : n = k := by omega
      obtain ⟨w1, rfl⟩ : ∃ w1 : World, w1 = wr := ⟨_, rfl⟩
      go_wp2
      clear hmm
      go_loopw [11] (fun i wr => ∃ k : Nat, k ≤ n ∧ i = .int .i64 k ∧ I2 w1 (w.heap.size + 1) x k wr) (fun i _ => n - (intOf i).toNat)
      case atStart => exact ⟨0, by omega, rfl, I2.start w1 _ x⟩
      case round =>
        obtain ⟨k, hk', rfl, h2⟩ := hrel
        by_cases hlt2 : k < n
        · obtain ⟨g, hRg, hg, hcR⟩ := hR.resolve_left (by omega)
          have ix := idx22 hRg hlt2
          have HRg : Hid (R = some ⟨g, 0, none⟩) := hRg
          clear hRg
          have hs1 := h1.size
          have HS1 : Hid (w1.heap.size = w.heap.size + 1 + n) := hs1
          have hgw : g < w1.heap.size := by omega
          have hww : w.heap.size < w1.heap.size := by omega
          have cx : wr.cell? ⟨g, k, none⟩ = some (.int .u8 (x k)) := ((h2.below.cell (p := ⟨g, k, none⟩) hgw).trans (h1.below.cell (p := ⟨g, k, none⟩) hg)).trans (hcR k hlt2)
          have cd : wr.cell? ⟨w.heap.size, k, none⟩ = some (.pointer (some ⟨w.heap.size + 1 + k, 0, none⟩)) := by
            rw [h2.below.cell (p := ⟨w.heap.size, k, none⟩) hww, h1.cells k hlt2, if_pos hlt2]
          by_cases hx : x k = 0
          · have hx' : (x k != 0) = false := by simp [hx]
            have HX : Hid (x k = 0) := hx
            clear hx hs1
            go_wp2
            go_roundw
            case rel => exact ⟨k + 1, by omega, by go_num, h2.same HX.out⟩
            case measure => simp [intOf]; omega
          · have hx' : (x k != 0) = true := by simp [hx]
            have hd : Devs wr.drew (w.heap.size + 1) n := fun i hi => ⟨_, (h2.below.block _ (by omega)).trans (h1.devs i hi)⟩
            have hup := upd_put h2 hd hlt2 hx
            clear hx hd hs1
            have ik0 : (0 : Int) ≤ (k : Int) := by omega
            have ikn : (k : Int) < (n : Int) := by omega
            go_wp2
            go_region
            go_wp2
            go_roundw
            case rel => exact ⟨k + 1, by omega, by go_num, h2.put⟩
            case measure => simp [intOf]; omega
        · obtain rfl : n = k := by omega
          obtain ⟨w2, rfl⟩ : ∃ w2 : World, w2 = wr := ⟨_, rfl⟩
          have hmk2 := fun W => run_make_row' (P := Try.prog) 35 43 (.pointer none) 8 Try.underlying35 info43 rfl .i64 .i64 m (by omega) (by omega) W
          have hmk3 := fun W => run_make_row' (P := Try.prog) 36 45 (.pointer none) 8 Try.underlying36 info45 rfl .i64 .i64 m (by omega) (by omega) W
          go_wp2
          clear hmk2 hmk3
          go_loopw [14] (fun i wr => ∃ k : Nat, k ≤ m ∧ i = .int .i64 k ∧ I3 w2 m (fun j => unitP (w.heap.size + 1) n (d j)) r k wr) (fun i _ => m - (intOf i).toNat)
          case atStart => exact ⟨0, by omega, rfl, I3.start w2 m _ r⟩
          case round =>
            obtain ⟨k, hk3, rfl, h3⟩ := hrel
            by_cases hlt3 : k < m
            · obtain ⟨g, hFg, hg, hcF⟩ := hF.resolve_left (by omega)
              have ix := idx31 hFg hlt3
              clear hFg
              have hs1 := h1.size
              have hs2 := h2.size
              have hs3 := h3.size
              have hgw : g < w1.heap.size := by omega
              have hgw2 : g < w2.heap.size := by omega
              have hgw3 : g < wr.heap.size := by omega
              have hw3 : w2.heap.size < wr.heap.size := by omega
              have hw3' : w2.heap.size + 1 < wr.heap.size := by omega
              have cd0 : wr.cell? ⟨g, k * 2, none⟩ = some (.int .i64 (d k)) := (((h3.below.cell (p := ⟨g, k * 2, none⟩) hgw2).trans (h2.below.cell (p := ⟨g, k * 2, none⟩) hgw)).trans (h1.below.cell (p := ⟨g, k * 2, none⟩) hg)).trans (hcF k hlt3).1
              have cd1 : wr.cell? ⟨g, k * 2 + 1, none⟩ = some (.bool (r k)) := (((h3.below.cell (p := ⟨g, k * 2 + 1, none⟩) hgw2).trans (h2.below.cell (p := ⟨g, k * 2 + 1, none⟩) hgw)).trans (h1.below.cell (p := ⟨g, k * 2 + 1, none⟩) hg)).trans (hcF k hlt3).2
              have cc := h3.cmds k hlt3
              rw [if_neg (by omega)] at cc
              have cf := h3.fails k hlt3
              rw [if_neg (by omega)] at cf
              have fc := h3.cfree k
              have ff := h3.ffree k
              have hU : Hid (Calls Try.prog 18 #[.slice (some ⟨w.heap.size, 0, none⟩) n n, .int .i64 (d k)] wr fun e w' => e = .returned (.pointer (unitP (w.heap.size + 1) n (d k))) ∧ w' = wr) :=
                unitOf_calls w.heap.size n (w.heap.size + 1) (d k) wr (fun i hi => by
                  rw [h3.below.cell (p := ⟨w.heap.size, i, none⟩) (by simp; omega), h2.below.cell (p := ⟨w.heap.size, i, none⟩) (by simp; omega), h1.cells i hi, if_pos hi])
              obtain ⟨u, hu⟩ : ∃ u, unitP (w.heap.size + 1) n (d k) = u := ⟨_, rfl⟩
              have HU : Hid (unitP (w.heap.size + 1) n (d k) = u) := hu
              rw [hu] at hU
              clear hu hs1 hs2 hs3
              have ik0 : (0 : Int) ≤ (k : Int) := by omega
              have ikm : (k : Int) < (m : Int) := by omega
              go_wp2_with fail
              refine (hU.out).mono ?_
              rintro e w' ⟨rfl, rfl⟩
              go_wp2_with fail
              go_region_with (go_at_call 24; refine (newf_calls _ _ _).mono ?_; rintro e w' ⟨rfl, rfl⟩)
              all_goals
                go_wp2
                go_roundw
                case rel =>
                  refine ⟨k + 1, by omega, by go_num, (h3.step hlt3 _ ?_).drew⟩
                  show _ = some (Value.pointer (unitP _ n (d k)))
                  rw [HU.out]
                  rfl
                case measure => simp [intOf]; omega
            · obtain rfl : m = k := by omega
              go_wp2
              refine ⟨rfl, ?_⟩
              apply Exists.intro
              constructor
              · simp [results, Try.results15, go_sem]
                rfl
              · exact built_mk h1 h2 h3
end Go.Proofs.Qxb6605953a.Rec
