/-
  recoveredModel; the two clones in one contract each; what the law's comparers ask.
-/
import Derived.Test.Qxb6605953aRecD
import Derived.Test.Qxb6605953aClone
import Derived.WideLaws
namespace Go.Proofs.Qxb6605953a.Rec
open Go.RowKit Go.Deep

def modelB (n : Nat) (x : Nat → Int) (d : Int) (r : Bool) : Bool := r || (decide (0 ≤ d ∧ d < (n : Int)) && decide (2 ≤ x d.toNat))

theorem model_is (n : Nat) (x d : Nat → Int) (r : Nat → Bool) (i : Nat) : ((r i || lookU n x d i) || lookU n x d i) = modelB n x (d i) (r i) := by
  unfold lookU modelB lookB
  by_cases h : 0 ≤ d i ∧ d i < (n : Int)
  · have hn : (d i).toNat < n := by omega
    by_cases h2 : 2 ≤ x (d i).toNat
    · have : x (d i).toNat ≠ 0 := by omega
      cases r i <;> simp [h, hn, h2, this]
    · cases r i <;> simp [h, h2]
  · cases r i <;> simp [h]

set_option maxHeartbeats 1000000 in
set_option maxRecDepth 100000 in
theorem recm_calls (R : Option Addr) (n : Nat) (x : Nat → Int) (d : Int) (r : Bool) (w : World) (_hn : (n : Int) ≤ 65536) (hR : RowB w R n x) :
    Calls Try.prog 20 #[.agg #[.int .i64 d, .bool r], .slice R n n] w fun e w' => e = .returned (.bool (modelB n x d r)) ∧ w' = w.alloc (.cells #[.int .i64 d, .bool r] 67) := by
  cases r
  · by_cases h0 : 0 ≤ d
    · by_cases h1 : d < (n : Int)
      · have HM : Hid (modelB n x d false = decide (2 ≤ x d.toNat)) := by simp [Hid, modelB, h0, h1]
        obtain ⟨k, rfl⟩ := Int.eq_ofNat_of_zero_le h0
        obtain ⟨g, hRg, hg, hc⟩ := hR.resolve_left (by omega)
        have ix := idx22 (n := n) hRg (k := k) (by omega)
        have ck := hc k (by omega)
        clear hRg hc hR
        go_enter Try.func20, Try.ntmps20
        go_wp2
        go_ret
        rw [HM.out]
        exact ⟨rfl, rfl⟩
      · have HM : Hid (modelB n x d false = false) := by simp [Hid, modelB, h1]
        clear hR
        go_enter Try.func20, Try.ntmps20
        go_wp2
        go_ret
        rw [HM.out]
        exact ⟨rfl, rfl⟩
    · have HM : Hid (modelB n x d false = false) := by simp [Hid, modelB, h0]
      clear hR
      go_enter Try.func20, Try.ntmps20
      go_wp2
      go_ret
      rw [HM.out]
      exact ⟨rfl, rfl⟩
  · have HM : Hid (modelB n x d true = true) := by simp [Hid, modelB]
    clear hR
    go_enter Try.func20, Try.ntmps20
    go_wp2
    go_ret
    rw [HM.out]
    exact ⟨rfl, rfl⟩

/-- A slice of bytes as it came in. -/
def InB (w : World) (R : Option Addr) (n c : Nat) (x : Nat → Int) : Prop :=
  (R = none ∧ n = 0 ∧ c = 0) ∨ (n = 0 ∧ ∃ a, R = some a) ∨ (0 < n ∧ ∃ b off, R = some ⟨b, off, none⟩ ∧ b < w.heap.size ∧ ∀ i, i < n → w.cell? ⟨b, off + i, none⟩ = some (.int .u8 (x i)))
def InF (w : World) (F : Option Addr) (m c : Nat) (d : Nat → Int) (r : Nat → Bool) : Prop :=
  (F = none ∧ m = 0 ∧ c = 0) ∨ (m = 0 ∧ ∃ a, F = some a) ∨ (0 < m ∧ ∃ b off, F = some ⟨b, off, none⟩ ∧ b < w.heap.size ∧
    ∀ i, i < m → w.cell? ⟨b, off + i * 2, none⟩ = some (.int .i64 (d i)) ∧ w.cell? ⟨b, off + i * 2 + 1, none⟩ = some (.bool (r i)))

theorem clone_any (R : Option Addr) (n c : Nat) (x : Nat → Int) (w : World) (hn : (n : Int) ≤ 65536) (hR : InB w R n c x) :
    Calls Try.prog 10 #[.slice R n c] w fun e w' => ∃ R', e = .returned (.slice R' n n) ∧ Below w.heap.size w w' ∧ RowB w' R' n x := by
  rcases hR with ⟨rfl, rfl, rfl⟩ | ⟨rfl, a, rfl⟩ | ⟨h0, b, off, rfl, hb, hc⟩
  · exact (Clone.clone_nil w).mono fun e w' ⟨he, hw⟩ => ⟨none, he, by rw [hw]; exact Below.refl _ _, .inl rfl⟩
  · exact (Clone.clone_empty a c x w).mono fun e w' ⟨he, hw⟩ => ⟨_, he, by rw [hw]; exact (Below.refl _ _).alloc (Nat.le_refl _) _, .inl rfl⟩
  · exact (Clone.clone_full b off n c x w h0 (by omega) hb hc).mono fun e w' ⟨he, hw⟩ => ⟨_, he, by rw [hw]; exact (Below.refl _ _).alloc (Nat.le_refl _) _,
      .inr ⟨_, rfl, by rw [hw]; simp, fun i hi => by rw [hw, new_cell rfl, Clone.cl_at x n n i hi, if_pos hi]⟩⟩

theorem clonef_any (F : Option Addr) (m c : Nat) (d : Nat → Int) (r : Nat → Bool) (w : World) (hm : (m : Int) ≤ 65536) (hF : InF w F m c d r) :
    Calls Try.prog 14 #[.slice F m c] w fun e w' => ∃ F', e = .returned (.slice F' m m) ∧ Below w.heap.size w w' ∧ RowF w' F' m d r := by
  rcases hF with ⟨rfl, rfl, rfl⟩ | ⟨rfl, a, rfl⟩ | ⟨h0, b, off, rfl, hb, hc⟩
  · exact (clonef_nil w).mono fun e w' ⟨he, hw⟩ => ⟨none, he, by rw [hw]; exact Below.refl _ _, .inl rfl⟩
  · exact (clonef_empty a c d r w).mono fun e w' ⟨he, hw⟩ => ⟨_, he, by rw [hw]; exact (Below.refl _ _).alloc (Nat.le_refl _) _, .inl rfl⟩
  · exact (clonef_full b off m c d r w h0 (by omega) hb (fun i hi => (hc i hi).1) (fun i hi => (hc i hi).2)).mono fun e w' ⟨he, hw⟩ => ⟨_, he, by rw [hw]; exact (Below.refl _ _).alloc (Nat.le_refl _) _,
      .inr ⟨_, rfl, by rw [hw]; simp, fun i hi => ⟨by rw [hw, new_cell rfl, clf_at0 d r m m i hi, if_pos hi], by rw [hw, new_cell rfl, clf_at1 d r m m i hi, if_pos hi]⟩⟩⟩

theorem InB.later {w w' : World} {R : Option Addr} {n c : Nat} {x : Nat → Int} (h : InB w R n c x) (hb : Below w.heap.size w w') : InB w' R n c x := by
  rcases h with h | h | ⟨h0, b, off, hR, hlt, hc⟩
  · exact .inl h
  · exact .inr (.inl h)
  · exact .inr (.inr ⟨h0, b, off, hR, by have := hb.size; omega, fun i hi => (hb.cell (p := ⟨b, off + i, none⟩) hlt).trans (hc i hi)⟩)
theorem RowB.later {w w' : World} {R : Option Addr} {n B : Nat} {x : Nat → Int} (h : RowB w R n x) (hb : Below B w w') (hB : w.heap.size ≤ B) : RowB w' R n x := by
  rcases h with h | ⟨g, hR, hlt, hc⟩
  · exact .inl h
  · exact .inr ⟨g, hR, by have := hb.size; omega, fun i hi => (hb.cell (p := ⟨g, i, none⟩) (by simp; omega)).trans (hc i hi)⟩
theorem RowF.later {w w' : World} {F : Option Addr} {m B : Nat} {d : Nat → Int} {r : Nat → Bool} (h : RowF w F m d r) (hb : Below B w w') (hB : w.heap.size ≤ B) : RowF w' F m d r := by
  rcases h with h | ⟨g, hR, hlt, hc⟩
  · exact .inl h
  · exact .inr ⟨g, hR, by have := hb.size; omega, fun i hi => ⟨(hb.cell (p := ⟨g, i * 2, none⟩) (by simp; omega)).trans (hc i hi).1, (hb.cell (p := ⟨g, i * 2 + 1, none⟩) (by simp; omega)).trans (hc i hi).2⟩⟩
theorem St.later {B n m : Nat} {x d : Nat → Int} {q : Nat → Bool} {w w' : World} (h : St B n m x d q w) (hb : Below w.heap.size w w') : St B n m x d q w' := by
  have lt : ∀ {a : Addr} {v : Value}, w.cell? a = some v → w'.cell? a = some v := fun {a v} hc => (hb.cell (World.block_lt_of_cell? _ _ hc)).trans hc
  have lb : ∀ {i : Nat} {o : Obj}, w.heap[i]? = some o → w'.heap[i]? = some o := fun {i o} hc => (hb.block i (Array.getElem?_eq_some_iff.1 hc).1).trans hc
  exact ⟨fun i hi => lt (h.devs i hi), fun i hi => by obtain ⟨cs, hcs⟩ := h.devb i hi; exact ⟨cs, lb hcs⟩, lb h.map, fun i hi => lt (h.cmds i hi), fun i hi => lt (h.fails i hi), fun i hi => lt (h.dev i hi),
    fun i hi => lt (h.cmd i hi), fun i hi => lt (h.recd i hi), fun i hi => by rw [hb.frozen (World.block_lt_of_cell? _ _ (h.recd i hi))]; exact h.free i hi⟩

/-- '!=' of a pointer and itself. -/
theorem neq_same {t te : TypeId} (hp : Try.prog.underlying t = some (.pointer te)) (hi : ∃ j, Try.prog.info? te = some j) (p : Option Addr) (w : World) :
    (binOp .neq t (.pointer p) (.pointer p)).run Try.prog w = .ok (.bool false) w := by
  obtain ⟨j, hte⟩ := hi
  have h : ∀ dd : Nat, (Op.equalIn (dd + 1) t (.pointer p) (.pointer p)).run Try.prog w = .ok true w := fun dd => by
    cases p with
    | none => simp [Op.equalIn, run_underlying hp]
    | some a => simp [Op.equalIn, run_underlying hp, sizeOf, typeInfo, hte, run_sameAddr_same]
  simp only [binOp]
  simp [Op.equal, Op.maxDepth, h 9999]
theorem neq42 (p : Option Addr) (w : World) : (binOp .neq 42 (.pointer p) (.pointer p)).run Try.prog w = .ok (.bool false) w :=
  neq_same Try.underlying42 (by obtain ⟨j, h, _⟩ := info84; exact ⟨j, h⟩) p w
theorem neq43 (p : Option Addr) (w : World) : (binOp .neq 43 (.pointer p) (.pointer p)).run Try.prog w = .ok (.bool false) w := by
  refine neq_same Try.underlying43 ?_ p w
  have h : (Try.prog.info? 64).map (fun i => i.size) = some 31 := by kernel_rfl
  obtain ⟨j, hj, _⟩ := Option.map_eq_some_iff.1 h
  exact ⟨j, hj⟩

/-- How many units are in the map behind k. -/
theorem ents_len (B : Nat) (x : Nat → Int) (k : Nat) : (ents B x (k + 1)).length = (ents B x k).length + if x k = 0 then 0 else 1 := by
  by_cases h : x k = 0 <;> simp [ents, h]
theorem ents_le (B : Nat) (x : Nat → Int) : ∀ k, (ents B x k).length ≤ k
  | 0 => by simp [ents]
  | k + 1 => by rw [ents_len]; have := ents_le B x k; split <;> omega

theorem len_map {B n m : Nat} {x d : Nat → Int} {q : Nat → Bool} {w : World} (h : St B n m x d q w) :
    (Builtin.len_ #[37] 3 #[.map (some (B + 1 + n))]).run Try.prog w = .ok (.int .i64 ((ents (B + 1) x n).length : Int)) w := by
  simp [Builtin.len_, run_underlying Try.underlying37, MapKept.run_getObj_map h.map, goInt]
end Go.Proofs.Qxb6605953a.Rec
