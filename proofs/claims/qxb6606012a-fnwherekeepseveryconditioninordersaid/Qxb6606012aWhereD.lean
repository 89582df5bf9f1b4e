/-
  The query behind k options: its row, its conditions, their args.
-/
import Derived.Test.Qxb6606012aWhereB
import Derived.Test.Qxb6606012aWhereC
namespace Go.Proofs.Qxb6606012a.Whr
open Go.RowKit Go.Deep

/-- Behind k options: the query lies in block Q; its row holds the conditions c 0 .. c (k-1); the i-th has one arg, the int i. What lay below B is as it was. -/
structure Inv (B : Nat) (w : World) (Q k : Nat) (c : Nat → ByteArray) (wr : World) : Prop where
  below : Below B w wr
  hB : B ≤ w.heap.size
  hQ : B ≤ Q
  q : ∃ v xs, ∃ A : Nat → Nat, wr.heap[Q]? = some (.cells (qcells v) 41 (0, 0)) ∧ wr.ownsRow B 47 2 v k xs ∧
    ∀ i, i < k → xs[i * 2]? = some (.string (c i)) ∧ xs[i * 2 + 1]? = some (.slice (some ⟨A i, 0, none⟩) 1 1) ∧ wr.heap[A i]? = some (.cells #[.iface 3 (.int .i64 i)] 20 (0, 0))

theorem own_ty {w : World} {B k b : Nat} {v : Value} {xs : List Value} (h : w.ownsRow B 47 2 v k xs) (hb : v.ownBlock = some b) : ∃ cur, w.heap[b]? = some (.cells cur 47 (0, 0)) := by
  rcases h.2 with ⟨rfl, _⟩ | ⟨g, cap, cur, rfl, _, hg, _⟩
  · simp [Value.ownBlock] at hb
  · simp [Value.ownBlock] at hb
    subst hb
    exact ⟨cur, hg⟩
theorem own_ne {w : World} {B k b : Nat} {v : Value} {xs : List Value} (h : w.ownsRow B 47 2 v k xs) {cs : Array Value} {t : TypeId} {fr : Nat × Nat} (hb : w.heap[b]? = some (.cells cs t fr)) (ht : t ≠ 47) : v.ownBlock ≠ some b := fun e => by
  obtain ⟨cur, hc⟩ := own_ty h e
  rw [hb] at hc
  simp at hc
  exact ht hc.2.1
theorem lt_of_some {w : World} {b : Nat} {o : Obj} (h : w.heap[b]? = some o) : b < w.heap.size := by
  rcases Nat.lt_or_ge b w.heap.size with h' | h'
  · exact h'
  · rw [Array.getElem?_eq_none h'] at h; cases h

theorem Inv.start (w : World) (c : Nat → ByteArray) : Inv w.heap.size w w.heap.size 0 c (w.alloc (.cells (qcells (.slice none 0 0)) 41)) where
  below := (Below.refl _ _).alloc (Nat.le_refl _) _
  hB := Nat.le_refl _
  hQ := Nat.le_refl _
  q := ⟨_, [], fun _ => 0, heap_alloc_new w _, World.ownsRow_nil _ _ _ _, fun i hi => by omega⟩

theorem Inv.alloc {B : Nat} {w : World} {Q k : Nat} {c : Nat → ByteArray} {wr : World} (h : Inv B w Q k c wr) (o : Obj) : Inv B w Q k c (wr.alloc o) where
  below := h.below.alloc (Nat.le_trans h.hB h.below.size) _
  hB := h.hB
  hQ := h.hQ
  q := by
    obtain ⟨v, xs, A, h1, h2, h3⟩ := h.q
    exact ⟨v, xs, A, (Below.heap_alloc _ _ _ (lt_of_some h1)).trans h1, h2.alloc _, fun i hi => ⟨(h3 i hi).1, (h3 i hi).2.1, (Below.heap_alloc _ _ _ (lt_of_some (h3 i hi).2.2)).trans (h3 i hi).2.2⟩⟩

theorem Inv.heap {B : Nat} {w : World} {Q k : Nat} {c : Nat → ByteArray} {wr W : World} (h : Inv B w Q k c wr) (hh : W.heap = wr.heap) (h1 : W.os = wr.os) (h2 : W.tape = wr.tape) (h3 : W.output = wr.output) : Inv B w Q k c W where
  below := ⟨h1.trans h.below.os, h2.trans h.below.tape, h3.trans h.below.output, by rw [hh]; exact h.below.size, fun i hi => by rw [hh]; exact h.below.block i hi⟩
  hB := h.hB
  hQ := h.hQ
  q := by
    obtain ⟨v, xs, A, g1, g2, g3⟩ := h.q
    refine ⟨v, xs, A, by rw [hh]; exact g1, ?_, fun i hi => by rw [hh]; exact g3 i hi⟩
    unfold World.ownsRow at g2 ⊢
    rw [hh]; exact g2

theorem set_grown (w : World) (a : Addr) (u : Value) : w.grownBy (w.setCell a u) (some a.block) :=
  have h := (Below.refl 0 w).setCell (p := a) (Nat.zero_le _) u
  ⟨h.os, h.tape, h.output, h.size, fun k _ hne => Below.heap_setCell w a u k (fun e => hne (by rw [e]))⟩

theorem heap_set0 (w : World) (Q : Nat) (ov v : Value) (h : w.heap[Q]? = some (.cells (qcells ov) 41 (0, 0))) : (w.setCell ⟨Q, 0, none⟩ v).heap[Q]? = some (.cells (qcells v) 41 (0, 0)) := by
  have hl := lt_of_some h
  have hget : w.heap[Q] = .cells (qcells ov) 41 (0, 0) := by rw [Array.getElem?_eq_getElem hl] at h; injection h
  simp [World.setCell, hl, Array.getElem_modify, hget]
  simp [qcells]

theorem Inv.apply {B : Nat} {w : World} {Q k ib : Nat} {c : Nat → ByteArray} {wr : World} (h : Inv B w Q k c wr) (hk : k ≤ 65536) (hib : wr.cell? ⟨ib, 0, none⟩ = some (.int .i64 k)) :
    Calls Try.prog 12 #[.pointer (some ⟨Q, 0, none⟩), .string (c k), .slice (some ⟨ib, 0, none⟩) 1 1] wr fun e w' => e = .returned (.bool true) ∧ Inv B w Q (k + 1) c w' := by
  obtain ⟨v, xs, A, h1, h2, h3⟩ := h.q
  have hBr := Nat.le_trans h.hB h.below.size
  have aQ := own_ne h2 h1 (by decide)
  refine (apply1 Q ib B k (c k) v k xs wr h1 hib h2 hBr hk aQ).mono ?_
  rintro e w' ⟨rfl, v', w1, rfl, ho, hg, hq, hn⟩
  have aQ' := own_ne ho hq (by decide)
  have hs := set_grown w1 ⟨Q, 0, none⟩ v'
  have hxl : xs.length = k * 2 := h2.1
  refine ⟨rfl, ?_, h.hB, h.hQ, v', _, (fun i => if i < k then A i else wr.heap.size), heap_set0 w1 Q v v' hq, ho.kept hs (.inr aQ'), ?_⟩
  · exact (h.below.grown hg hBr (fun b hb => (h2.lt b hb).1)).setCell h.hQ _
  · intro i hi
    dsimp only
    by_cases hlt : i < k
    · obtain ⟨g1, g2, g3⟩ := h3 i hlt
      rw [List.getElem?_append_left (by omega), List.getElem?_append_left (by omega), if_pos hlt]
      refine ⟨g1, g2, ?_⟩
      have e1 : w1.heap[A i]? = some (.cells #[.iface 3 (.int .i64 i)] 20 (0, 0)) := (hg.block (A i) (lt_of_some g3) (Ne.symm (own_ne h2 g3 (by decide)))).trans g3
      refine (Below.heap_setCell w1 ⟨Q, 0, none⟩ v' (A i) ?_).trans e1
      intro e
      have e : A i = Q := e
      rw [e, hq] at e1
      simp at e1
    · obtain rfl : i = k := by omega
      rw [List.getElem?_append_right (by omega), List.getElem?_append_right (by omega), if_neg hlt, hxl]
      refine ⟨by simp, by simp, ?_⟩
      refine (Below.heap_setCell w1 ⟨Q, 0, none⟩ v' wr.heap.size ?_).trans hn
      intro e
      have e : wr.heap.size = Q := e
      have := lt_of_some h1
      omega

theorem Inv.count {B : Nat} {w : World} {Q k : Nat} {c : Nat → ByteArray} {wr : World} (h : Inv B w Q k c wr) : ∃ R cap, wr.cell? ⟨Q, 0, none⟩ = some (.slice R k cap) := by
  obtain ⟨v, xs, A, h1, h2, h3⟩ := h.q
  rcases h2.2 with ⟨rfl, rfl⟩ | ⟨g, cap, cur, rfl, _⟩
  · exact ⟨none, 0, (cell_of_row _ _ 0 _ 41 _ h1).trans rfl⟩
  · exact ⟨_, cap, (cell_of_row _ _ 0 _ 41 _ h1).trans rfl⟩

theorem Inv.read {B : Nat} {w : World} {Q k : Nat} {c : Nat → ByteArray} {wr : World} (h : Inv B w Q k c wr) {i : Nat} (hi : i < k) :
    ∃ g cap A, wr.cell? ⟨Q, 0, none⟩ = some (.slice (some ⟨g, 0, none⟩) k cap) ∧ wr.cell? ⟨g, i * 2, none⟩ = some (.string (c i)) ∧
      wr.cell? ⟨g, i * 2 + 1, none⟩ = some (.slice (some ⟨A, 0, none⟩) 1 1) ∧ wr.cell? ⟨A, 0, none⟩ = some (.iface 3 (.int .i64 i)) := by
  obtain ⟨v, xs, A, h1, h2, h3⟩ := h.q
  obtain ⟨g, cap, rfl, _, _⟩ := h2.form (by omega)
  have hc := h2.cells (g := g) rfl
  have add : ∀ j, (⟨g, 0, none⟩ : Addr).add j = ⟨g, j, none⟩ := fun j => by unfold Addr.add; split <;> simp_all
  refine ⟨g, cap, A i, (cell_of_row _ _ 0 _ 41 _ h1).trans rfl, ?_, ?_, (cell_of_row _ _ 0 _ 20 _ (h3 i hi).2.2).trans rfl⟩
  · have := hc _ _ (h3 i hi).1
    rwa [add] at this
  · have := hc _ _ (h3 i hi).2.1
    rwa [add] at this
end Go.Proofs.Qxb6606012a.Whr
