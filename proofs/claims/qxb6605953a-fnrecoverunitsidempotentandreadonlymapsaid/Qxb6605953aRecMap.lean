/-
  A map keyed by pointers to Devices, the keys the heads of a row of blocks: what a store, a look-up and a make come to.
-/
import Derived.Test.Qxb6605953aProg
import Derived.KernelRfl
import Derived.LaidEqlPtr
import Derived.MapKept
import Derived.WalkKit
namespace Go.Proofs.Qxb6605953a.Rec
open Go.MapKept

theorem info84 : ∃ j, Try.prog.info? 84 = some j ∧ j.size ≠ 0 := by
  have h : (Try.prog.info? 84).map (fun i => i.size) = some 20 := by kernel_rfl
  obtain ⟨j, hj, hs⟩ := Option.map_eq_some_iff.1 h
  exact ⟨j, hj, by omega⟩

/-- The pointer to the i-th Device: they lie from block B on. -/
def dp (B i : Nat) : Value := .pointer (some ⟨B + i, 0, none⟩)

/-- The entries behind k units: unit i is there just if x i is not nought, and true just if x i is at least two. -/
def ents (B : Nat) (x : Nat → Int) : Nat → List MapEntry
  | 0 => []
  | k + 1 => if x k = 0 then ents B x k else ents B x k ++ [{ key := dp B k, val := .bool (decide (2 ≤ x k)), born := (ents B x k).length }]

/-- The n Devices lie there, from block B on. -/
def Devs (w : World) (B n : Nat) : Prop := ∀ i, i < n → ∃ cs, w.heap[B + i]? = some (.cells cs 84 (0, 0))

theorem eq_dp {w : World} {B n : Nat} (hd : Devs w B n) {i j : Nat} (hi : i < n) (hj : j < n) : (Op.equal 42 (dp B i) (dp B j)).run Try.prog w = .ok (i == j) w := by
  obtain ⟨t, ht, hsz⟩ := info84
  by_cases h : i = j
  · subst h
    have hh : ∀ d : Nat, (Op.equalIn (d + 1) 42 (.pointer (some ⟨B + i, 0, none⟩)) (.pointer (some ⟨B + i, 0, none⟩))).run Try.prog w = .ok true w := fun d => by
      simp [Op.equalIn, run_underlying Try.underlying42, sizeOf, typeInfo, ht, run_sameAddr_same]
    rw [beq_self_eq_true]
    exact hh 9999
  · obtain ⟨ci, hci⟩ := hd i hi
    obtain ⟨cj, hcj⟩ := hd j hj
    have hne : (⟨B + i, 0, none⟩ : Addr) ≠ ⟨B + j, 0, none⟩ := by intro e; injection e with e1; omega
    have hh : ∀ d : Nat, (Op.equalIn (d + 1) 42 (.pointer (some ⟨B + i, 0, none⟩)) (.pointer (some ⟨B + j, 0, none⟩))).run Try.prog w = .ok false w := fun d => by
      simp [Op.equalIn, run_underlying Try.underlying42, sizeOf, typeInfo, ht, hsz, run_sameAddr_other w hne hci hcj]
    rw [beq_eq_false_iff_ne.2 h]
    exact hh 9999

theorem eq_nil {w : World} {B j : Nat} : (Op.equal 42 (.pointer none) (dp B j)).run Try.prog w = .ok false w := by
  have hh : ∀ d : Nat, (Op.equalIn (d + 1) 42 (.pointer none) (.pointer (some ⟨B + j, 0, none⟩))).run Try.prog w = .ok false w := fun d => by
    simp [Op.equalIn, run_underlying Try.underlying42]
  exact hh 9999

/-- The search, with the comparer's answers told. -/
def findL (eqs : Value → Bool) : List MapEntry → Nat → Option (Nat × Value)
  | [], _ => none
  | e :: es, i => if eqs e.key then some (i, e.val) else findL eqs es (i + 1)

theorem find_run {w : World} {key : Value} (eqs : Value → Bool) : ∀ (l : List MapEntry) (i : Nat), (∀ e ∈ l, (Op.equal 42 key e.key).run Try.prog w = .ok (eqs e.key) w) →
    (Instr.findAsking 42 key l i).run Try.prog w = .ok (findL eqs l i) w
  | [], i, _ => rfl
  | e :: l, i, h => by
    have h1 := h e (by simp)
    have ih := find_run eqs l (i + 1) (fun e he => h e (by simp [he]))
    unfold Instr.findAsking findL
    rw [Sem.run_bind, h1]
    show (if eqs e.key = true then pure (some (i, e.val)) else Instr.findAsking 42 key l (i + 1) : Sem _).run Try.prog w = _
    cases eqs e.key
    · exact ih
    · rfl

theorem findL_append (eqs : Value → Bool) : ∀ (l l2 : List MapEntry) (i : Nat), findL eqs (l ++ l2) i = match findL eqs l i with | some r => some r | none => findL eqs l2 (i + l.length)
  | [], l2, i => by simp [findL]
  | e :: l, l2, i => by
    have ih := findL_append eqs l l2 (i + 1)
    simp only [List.cons_append, findL]
    cases eqs e.key
    · simp only [Bool.false_eq_true, if_false, ih, List.length_cons]
      rw [show i + 1 + l.length = i + (l.length + 1) by omega]
    · simp

theorem mem_ents {B : Nat} {x : Nat → Int} : ∀ {k : Nat} {e : MapEntry}, e ∈ ents B x k → ∃ i, i < k ∧ e.key = dp B i
  | 0, e, h => by simp [ents] at h
  | k + 1, e, h => by
    by_cases hx : x k = 0
    · rw [ents, if_pos hx] at h
      obtain ⟨i, hi, he⟩ := mem_ents h
      exact ⟨i, by omega, he⟩
    · rw [ents, if_neg hx] at h
      rcases List.mem_append.1 h with h | h
      · obtain ⟨i, hi, he⟩ := mem_ents h
        exact ⟨i, by omega, he⟩
      · simp at h; subst h
        exact ⟨k, by omega, rfl⟩

def isDp (B j : Nat) : Value → Bool
  | .pointer (some a) => a.block == B + j
  | _ => false
theorem isDp_dp (B i j : Nat) : isDp B j (dp B i) = (j == i) := by
  show (B + i == B + j) = (j == i)
  rw [Bool.eq_iff_iff, beq_iff_eq, beq_iff_eq]
  omega

theorem findL_dp (B : Nat) (x : Nat → Int) (j : Nat) : ∀ (k i : Nat), (findL (isDp B j) (ents B x k) i).map (·.2) = if j < k ∧ x j ≠ 0 then some (.bool (decide (2 ≤ x j))) else none
  | 0, i => by simp [ents, findL]
  | k + 1, i => by
    have ih := findL_dp B x j k i
    by_cases hx : x k = 0
    · rw [ents, if_pos hx, ih]
      by_cases hj : j = k
      · subst hj; simp [hx]
      · by_cases h : j < k
        · simp [h, show j < k + 1 by omega]
        · simp [h, show ¬ j < k + 1 by omega]
    · rw [ents, if_neg hx, findL_append]
      by_cases hjk : j < k ∧ x j ≠ 0
      · rw [if_pos hjk] at ih
        obtain ⟨r, hr, hr2⟩ := Option.map_eq_some_iff.1 ih
        rw [hr, if_pos ⟨by omega, hjk.2⟩]
        simp [hr2]
      · rw [if_neg hjk] at ih
        have hn : findL (isDp B j) (ents B x k) i = none := by simpa using ih
        rw [hn]
        simp only [findL, isDp_dp]
        by_cases hj : j = k
        · subst hj; simp [hx]
        · rw [if_neg (by simp [hj])]
          rw [if_neg (by rintro ⟨h1, h2⟩; exact hjk ⟨by omega, h2⟩)]
          rfl

theorem findL_no (B : Nat) (x : Nat → Int) : ∀ (k i : Nat), findL (fun _ => false) (ents B x k) i = none := by
  intro k i
  generalize ents B x k = l
  induction l generalizing i with
  | nil => rfl
  | cons e l ih => simp [findL, ih]

/-- The search for unit j among the entries behind k units. -/
theorem find_dp {w : World} {B n : Nat} {x : Nat → Int} (hd : Devs w B n) {j : Nat} (hj : j < n) (k : Nat) (hk : k ≤ n) :
    (Instr.findAsking 42 (dp B j) (ents B x k)).run Try.prog w = .ok (findL (isDp B j) (ents B x k) 0) w :=
  find_run (isDp B j) _ 0 (fun e he => by
    obtain ⟨i, hi, h⟩ := mem_ents he
    rw [h, eq_dp hd hj (by omega), isDp_dp])
theorem find_nil {w : World} {B : Nat} {x : Nat → Int} (k : Nat) :
    (Instr.findAsking 42 (.pointer none) (ents B x k)).run Try.prog w = .ok none w := by
  rw [find_run (fun _ => false) _ 0 (fun e he => by obtain ⟨i, _, h⟩ := mem_ents he; rw [h]; exact eq_nil), findL_no]

theorem run_findKey_ptr {w : World} (key : Value) (hk : ∃ p, key = .pointer p) (es : List MapEntry) : (Instr.findKey 42 key es).run Try.prog w = (Instr.findAsking 42 key es).run Try.prog w := by
  obtain ⟨p, rfl⟩ := hk
  cases es with
  | nil => simp [Instr.findKey, run_underlying Try.underlying42, Instr.findNow, Instr.findAsking]
  | cons e es =>
    have : Instr.findNow (.pointer 84) (.pointer p) (e :: es) 0 = none := by
      simp [Instr.findNow, Instr.sameNow]
    unfold Instr.findKey
    rw [Sem.run_bind, run_underlying Try.underlying42]
    simp [Result.andThen, this]

theorem check_ptr {w : World} (em : Bool) (p : Option Addr) : (Instr.checkKey em 10000 42 (.pointer p)).run Try.prog w = .ok () w := by
  have h : ∀ n : Nat, (Instr.checkKey em (n + 1) 42 (.pointer p)).run Try.prog w = .ok () w := fun n => by
    unfold Instr.checkKey
    simp only [Sem.run_bind, run_underlying Try.underlying42, Result.andThen]
    rfl
  exact h 9999

theorem zero4 (w : World) : (zeroValue 4).run Try.prog w = .ok (.bool false) w := by kernel_rfl

/-- What unit j reads as in the map behind k units. -/
def lookB (x : Nat → Int) (k j : Nat) : Bool := decide (j < k ∧ x j ≠ 0) && decide (2 ≤ x j)

theorem look_dp {w : World} {B n r c : Nat} {x : Nat → Int} (hd : Devs w B n) {j : Nat} (hj : j < n) (k : Nat) (hk : k ≤ n) (hm : w.heap[r]? = some (.map (ents B x k).toArray c)) (ok : Bool) :
    (Instr.lookup 37 (.map (some r)) (.pointer (some ⟨B + j, 0, none⟩)) ok).run Try.prog w = .ok (if ok then .tuple #[.bool (lookB x k j), .bool (decide (j < k ∧ x j ≠ 0))] else .bool (lookB x k j)) w := by
  have h1 := find_dp (x := x) hd hj k hk
  have h2 := findL_dp B x j k 0
  generalize findL (isDp B j) (ents B x k) 0 = f at h1 h2
  have h3 : (Instr.findKey 42 (.pointer (some ⟨B + j, 0, none⟩)) (ents B x k).toArray.toList).run Try.prog w = .ok f w := by
    rw [run_findKey_ptr _ ⟨_, rfl⟩]; exact h1
  have h4 := check_ptr (w := w) (ents B x k).toArray.isEmpty (some ⟨B + j, 0, none⟩)
  unfold Instr.lookup
  simp only [Sem.run_bind, run_underlying Try.underlying37, MapKept.run_getObj_map hm, Result.andThen, h4, Sem.run_pure, h3]
  by_cases hc : j < k ∧ x j ≠ 0
  · rw [if_pos hc] at h2
    obtain ⟨⟨i, v⟩, rfl, hv⟩ := Option.map_eq_some_iff.1 h2
    simp only at hv
    subst hv
    cases ok <;> simp [lookB, hc]
  · rw [if_neg hc] at h2
    obtain rfl : f = none := by simpa using h2
    simp only [zero4, Result.andThen, Sem.run_bind, Sem.run_pure]
    cases ok <;> simp [lookB, hc]

theorem look_nil {w : World} {B r c : Nat} {x : Nat → Int} (k : Nat) (hm : w.heap[r]? = some (.map (ents B x k).toArray c)) :
    (Instr.lookup 37 (.map (some r)) (.pointer none) false).run Try.prog w = .ok (.bool false) w := by
  have h3 : (Instr.findKey 42 (.pointer none) (ents B x k).toArray.toList).run Try.prog w = .ok none w := by
    rw [run_findKey_ptr _ ⟨_, rfl⟩]; exact find_nil k
  have h4 := check_ptr (w := w) (ents B x k).toArray.isEmpty none
  unfold Instr.lookup
  simp only [Sem.run_bind, run_underlying Try.underlying37, MapKept.run_getObj_map hm, Result.andThen, h4, Sem.run_pure, h3, zero4]
  rfl

/-- A store at a unit that is not there yet. -/
theorem upd_dp {w : World} {B n r : Nat} {x : Nat → Int} (hd : Devs w B n) {k : Nat} (hk : k < n) (hx : x k ≠ 0) (hm : w.heap[r]? = some (.map (ents B x k).toArray (ents B x k).length)) :
    (Instr.mapUpdate 37 (.map (some r)) (.pointer (some ⟨B + k, 0, none⟩)) (.bool (decide (2 ≤ x k)))).run Try.prog w =
      .ok () { w with heap := w.heap.setIfInBounds r (.map (ents B x (k + 1)).toArray (ents B x (k + 1)).length) } := by
  have h1 := find_dp (x := x) hd hk k (by omega)
  have h2 := findL_dp B x k k 0
  rw [if_neg (by omega)] at h2
  have h2' : findL (isDp B k) (ents B x k) 0 = none := by simpa using h2
  have h3 : (Instr.findKey 42 (.pointer (some ⟨B + k, 0, none⟩)) (ents B x k).toArray.toList).run Try.prog w = .ok none w := by
    rw [run_findKey_ptr _ ⟨_, rfl⟩, ← h2']; exact h1
  have h4 := check_ptr (w := w) false (some ⟨B + k, 0, none⟩)
  have e : ents B x (k + 1) = ents B x k ++ [{ key := dp B k, val := .bool (decide (2 ≤ x k)), born := (ents B x k).length }] := by rw [ents, if_neg hx]
  unfold Instr.mapUpdate
  simp only [Sem.run_bind, run_underlying Try.underlying37, MapKept.run_getObj_map hm, Result.andThen, h4, h3, MapKept.run_setObj_map _ hm]
  rw [e]
  simp [dp]

theorem make_hint (n : Int) (w : World) : (Instr.makeMap 37 (some (.int .i64 n))).run Try.prog w = .ok (.map (some w.heap.size)) (w.alloc (.map #[] 0)) := by
  simp [Instr.makeMap, run_underlying Try.underlying37, asInt]
  rfl
end Go.Proofs.Qxb6605953a.Rec
