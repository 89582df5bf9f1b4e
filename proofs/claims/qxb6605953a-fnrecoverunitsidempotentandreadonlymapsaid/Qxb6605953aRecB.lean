/-
  What buildRecover's three loops have made behind k rounds, said of the world; each round's step; no Go text.
-/
import Derived.Test.Qxb6605953aRecMap
import Derived.Test.Qxb6605953aRecA
namespace Go.Proofs.Qxb6605953a.Rec
open Go.RowKit

theorem old_cell {w : World} {o : Obj} {b i : Nat} (h : b < w.heap.size) : (w.alloc o).cell? ⟨b, i, none⟩ = w.cell? ⟨b, i, none⟩ := World.cell?_alloc_past _ _ _ h
theorem new_cell {w : World} {c : Array Value} {t b i : Nat} (h : b = w.heap.size) : (w.alloc (.cells c t)).cell? ⟨b, i, none⟩ = c[i]? := World.cell?_alloc_at _ _ _ _ h
theorem old_free {w : World} {o : Obj} {b i : Nat} (h : b < w.heap.size) : (w.alloc o).frozen? ⟨b, i, none⟩ = w.frozen? ⟨b, i, none⟩ := World.frozen?_alloc_past _ _ _ h
theorem new_free {w : World} {c : Array Value} {t b i : Nat} (h : b = w.heap.size) : (w.alloc (.cells c t)).frozen? ⟨b, i, none⟩ = false := World.frozen?_alloc_at _ _ _ _ h
theorem set_block {w : World} {b i b' i' : Nat} {v : Value} (h : b' ≠ b) : (w.setCell ⟨b, i, none⟩ v).cell? ⟨b', i', none⟩ = w.cell? ⟨b', i', none⟩ :=
  World.cell?_setCell_other _ _ _ _ (fun e => h (by injection e with e1; exact e1.symm))
theorem set_off {w : World} {b i i' : Nat} {v : Value} (h : i' ≠ i) : (w.setCell ⟨b, i, none⟩ v).cell? ⟨b, i', none⟩ = w.cell? ⟨b, i', none⟩ :=
  World.cell?_setCell_other _ _ _ _ (fun e => h (by injection e with e1 e2; exact e2.symm))
theorem set_same {w : World} {b i : Nat} {v u : Value} (h : w.cell? ⟨b, i, none⟩ = some u) : (w.setCell ⟨b, i, none⟩ v).cell? ⟨b, i, none⟩ = some v := World.cell?_setCell_same _ _ _ h
theorem size_set {w : World} {a : Addr} {v : Value} : (w.setCell a v).heap.size = w.heap.size := by simp [World.setCell]

abbrev DevO : Obj := .cells #[.int .i64 0, .int .i64 0, .int .i64 0, .int .i64 0, .int .u8 0, .int .u8 0, .int .u8 0, .string ByteArray.empty, .string ByteArray.empty, .string ByteArray.empty, .pointer none, .bool false, .int .i64 0, .int .i64 0, .int .i64 0, .bool false, .int .u64 0, .int .i64 0, .pointer none, .int .i64 0] 84

/-! ### The first loop: the Devices -/
structure I1 (w : World) (n k : Nat) (wr : World) : Prop where
  below : Below w.heap.size w wr
  size : wr.heap.size = w.heap.size + 1 + k
  cells : ∀ i, i < n → wr.cell? ⟨w.heap.size, i, none⟩ = some (.pointer (if i < k then some ⟨w.heap.size + 1 + i, 0, none⟩ else none))
  free : ∀ i, wr.frozen? ⟨w.heap.size, i, none⟩ = false
  devs : ∀ i, i < k → wr.heap[w.heap.size + 1 + i]? = some DevO

theorem made_ptr (n i : Nat) (h : i < n) : (madeCells #[Value.pointer none] n)[i]? = some (.pointer none) := by
  simp [madeCells, Nat.mod_one, h]

theorem I1.start (w : World) (n : Nat) : I1 w n 0 (w.alloc (.cells (madeCells #[.pointer none] n) 42)) where
  below := (Below.refl _ _).alloc (Nat.le_refl _) _
  size := by simp
  cells := fun i hi => by rw [new_cell rfl, made_ptr n i hi]; simp
  free := fun i => new_free rfl
  devs := fun i hi => absurd hi (by omega)

theorem I1.step {w : World} {n k : Nat} {wr : World} (h : I1 w n k wr) (hk : k < n) : I1 w n (k + 1) ((wr.setCell ⟨w.heap.size, k, none⟩ (.pointer (some ⟨wr.heap.size, 0, none⟩))).alloc DevO) where
  below := by
    have hs := h.size
    exact (h.below.setCell (p := ⟨w.heap.size, k, none⟩) (Nat.le_refl _) _).alloc (by rw [size_set]; omega) _
  size := by rw [World.size_alloc, size_set, h.size]; omega
  cells := fun i hi => by
    have hs := h.size
    rw [old_cell (by rw [size_set]; omega)]
    by_cases e : i = k
    · subst e
      rw [set_same (h.cells i hi), if_pos (by omega), hs]
    · rw [set_off e, h.cells i hi]
      by_cases e' : i < k
      · rw [if_pos e', if_pos (by omega)]
      · rw [if_neg e', if_neg (by omega)]
  free := fun i => by
    have hs := h.size
    rw [old_free (by rw [size_set]; omega), World.frozen?_setCell]
    exact h.free i
  devs := fun i hi => by
    have hs := h.size
    by_cases e : i = k
    · subst e
      show (Array.push _ _)[_]? = _
      rw [Array.getElem?_push, if_pos (by rw [size_set]; omega)]
    · rw [Below.heap_alloc _ _ _ (by rw [size_set]; omega), Below.heap_setCell _ _ _ _ (by simp; omega)]
      exact h.devs i (by omega)

/-! ### The second loop: the map -/
def putMap (w : World) (r : Nat) (o : Obj) : World := { w with heap := w.heap.setIfInBounds r o }

structure I2 (w1 : World) (B : Nat) (x : Nat → Int) (k : Nat) (wr : World) : Prop where
  below : Below w1.heap.size w1 wr
  size : wr.heap.size = w1.heap.size + 1
  map : wr.heap[w1.heap.size]? = some (.map (ents B x k).toArray (ents B x k).length)

theorem I2.start (w1 : World) (B : Nat) (x : Nat → Int) : I2 w1 B x 0 (w1.alloc (.map #[] 0)) where
  below := (Below.refl _ _).alloc (Nat.le_refl _) _
  size := by simp
  map := by
    show (Array.push _ _)[_]? = _
    rw [Array.getElem?_push, if_pos rfl]; rfl

theorem I2.same {w1 : World} {B : Nat} {x : Nat → Int} {k : Nat} {wr : World} (h : I2 w1 B x k wr) (hx : x k = 0) : I2 w1 B x (k + 1) wr where
  below := h.below
  size := h.size
  map := by rw [h.map]; simp [ents, hx]

theorem I2.put {w1 : World} {B : Nat} {x : Nat → Int} {k : Nat} {wr : World} (h : I2 w1 B x k wr) : I2 w1 B x (k + 1) (putMap wr.drew w1.heap.size (.map (ents B x (k + 1)).toArray (ents B x (k + 1)).length)) where
  below := h.below.trans ⟨rfl, rfl, rfl, by simp [putMap], fun i hi => by
    show (wr.heap.setIfInBounds _ _)[i]? = _
    rw [Array.getElem?_setIfInBounds, if_neg (by omega)]⟩
  size := by simp [putMap, h.size]
  map := by
    show (wr.heap.setIfInBounds _ _)[_]? = _
    rw [Array.getElem?_setIfInBounds, if_pos rfl, if_pos (by rw [h.size]; omega)]

theorem upd_put {w1 : World} {B n : Nat} {x : Nat → Int} {k : Nat} {wr : World} (h : I2 w1 B x k wr) (hd : Devs wr.drew B n) (hk : k < n) (hx : x k ≠ 0) :
    (Instr.mapUpdate 37 (.map (some w1.heap.size)) (.pointer (some ⟨B + k, 0, none⟩)) (.bool (decide (2 ≤ x k)))).run Try.prog wr.drew = .ok () (putMap wr.drew w1.heap.size (.map (ents B x (k + 1)).toArray (ents B x (k + 1)).length)) :=
  upd_dp hd hk hx h.map

/-! ### The third loop: the commands and the failures -/
structure I3 (w2 : World) (m : Nat) (u : Nat → Option Addr) (r : Nat → Bool) (k : Nat) (wr : World) : Prop where
  below : Below w2.heap.size w2 wr
  size : wr.heap.size = w2.heap.size + 2 + 2 * k
  cmds : ∀ i, i < m → wr.cell? ⟨w2.heap.size, i, none⟩ = some (.pointer (if i < k then some ⟨w2.heap.size + 2 + 2 * i, 0, none⟩ else none))
  fails : ∀ i, i < m → wr.cell? ⟨w2.heap.size + 1, i, none⟩ = some (.pointer (if i < k then some ⟨w2.heap.size + 3 + 2 * i, 0, none⟩ else none))
  cfree : ∀ i, wr.frozen? ⟨w2.heap.size, i, none⟩ = false
  ffree : ∀ i, wr.frozen? ⟨w2.heap.size + 1, i, none⟩ = false
  dev : ∀ i, i < k → wr.cell? ⟨w2.heap.size + 2 + 2 * i, 0, none⟩ = some (.pointer (u i))
  cmd : ∀ i, i < k → wr.cell? ⟨w2.heap.size + 3 + 2 * i, 0, none⟩ = some (.pointer (some ⟨w2.heap.size + 2 + 2 * i, 0, none⟩))
  recd : ∀ i, i < k → wr.cell? ⟨w2.heap.size + 3 + 2 * i, 3, none⟩ = some (.bool (r i))
  free : ∀ i, i < k → wr.frozen? ⟨w2.heap.size + 3 + 2 * i, 3, none⟩ = false

theorem I3.start (w2 : World) (m : Nat) (u : Nat → Option Addr) (r : Nat → Bool) :
    I3 w2 m u r 0 ((w2.alloc (.cells (madeCells #[.pointer none] m) 43)).alloc (.cells (madeCells #[.pointer none] m) 45)) where
  below := ((Below.refl _ _).alloc (Nat.le_refl _) _).alloc (by simp) _
  size := by simp
  cmds := fun i hi => by rw [old_cell (by simp), new_cell rfl, made_ptr m i hi]; simp
  fails := fun i hi => by rw [new_cell (by simp), made_ptr m i hi]; simp
  cfree := fun i => by rw [old_free (by simp), new_free rfl]
  ffree := fun i => by rw [new_free (by simp)]
  dev := fun i hi => absurd hi (by omega)
  cmd := fun i hi => absurd hi (by omega)
  recd := fun i hi => absurd hi (by omega)
  free := fun i hi => absurd hi (by omega)

abbrev FailO (p : Option Addr) (b : Bool) : Obj := .cells #[.pointer p, .bool false, .bool false, .bool b, .pointer none, .bool false, .nilIface] 87

theorem I3.step {w2 : World} {m : Nat} {u : Nat → Option Addr} {r : Nat → Bool} {k : Nat} {wr : World} (h : I3 w2 m u r k wr) (hk : k < m) (c : Array Value) (hc : c[0]? = some (.pointer (u k))) :
    I3 w2 m u r (k + 1) ((((wr.setCell ⟨w2.heap.size, k, none⟩ (.pointer (some ⟨wr.heap.size, 0, none⟩))).setCell ⟨w2.heap.size + 1, k, none⟩ (.pointer (some ⟨wr.heap.size + 1, 0, none⟩))).alloc (.cells c 64)).alloc (FailO (some ⟨wr.heap.size, 0, none⟩) (r k))) := by
  have hs := h.size
  have z1 : ∀ a b (p q : Value), ((wr.setCell a p).setCell b q).heap.size = wr.heap.size := fun a b p q => by rw [size_set, size_set]
  refine ⟨?_, ?_, ?_, ?_, ?_, ?_, ?_, ?_, ?_, ?_⟩
  · refine Below.alloc (Below.alloc ?_ (by rw [z1]; omega) _) (by rw [World.size_alloc, z1]; omega) _
    exact (h.below.setCell (p := ⟨w2.heap.size, k, none⟩) (Nat.le_refl _) _).setCell (p := ⟨w2.heap.size + 1, k, none⟩) (Nat.le_succ _) _
  · rw [World.size_alloc, World.size_alloc, z1, hs]; omega
  · intro i hi
    rw [old_cell (by rw [World.size_alloc, z1]; omega), old_cell (by rw [z1]; omega), set_block (by omega)]
    by_cases e : i = k
    · subst e
      rw [set_same (h.cmds i hi), if_pos (by omega), hs]
    · rw [set_off e, h.cmds i hi]
      by_cases e' : i < k
      · rw [if_pos e', if_pos (by omega)]
      · rw [if_neg e', if_neg (by omega)]
  · intro i hi
    rw [old_cell (by rw [World.size_alloc, z1]; omega), old_cell (by rw [z1]; omega)]
    by_cases e : i = k
    · subst e
      rw [set_same (by rw [set_block (by omega)]; exact h.fails i hi), if_pos (by omega), hs, show w2.heap.size + 2 + 2 * i + 1 = w2.heap.size + 3 + 2 * i by omega]
    · rw [set_off e, set_block (by omega), h.fails i hi]
      by_cases e' : i < k
      · rw [if_pos e', if_pos (by omega)]
      · rw [if_neg e', if_neg (by omega)]
  · intro i
    rw [old_free (by rw [World.size_alloc, z1]; omega), old_free (by rw [z1]; omega), World.frozen?_setCell, World.frozen?_setCell]
    exact h.cfree i
  · intro i
    rw [old_free (by rw [World.size_alloc, z1]; omega), old_free (by rw [z1]; omega), World.frozen?_setCell, World.frozen?_setCell]
    exact h.ffree i
  · intro i hi
    by_cases e : i = k
    · subst e
      rw [old_cell (by rw [World.size_alloc, z1]; omega), new_cell (by rw [z1]; omega)]
      exact hc
    · rw [old_cell (by rw [World.size_alloc, z1]; omega), old_cell (by rw [z1]; omega), set_block (by omega), set_block (by omega)]
      exact h.dev i (by omega)
  · intro i hi
    by_cases e : i = k
    · subst e
      rw [new_cell (by rw [World.size_alloc, z1]; omega), hs]; rfl
    · rw [old_cell (by rw [World.size_alloc, z1]; omega), old_cell (by rw [z1]; omega), set_block (by omega), set_block (by omega)]
      exact h.cmd i (by omega)
  · intro i hi
    by_cases e : i = k
    · subst e
      rw [new_cell (by rw [World.size_alloc, z1]; omega)]; rfl
    · rw [old_cell (by rw [World.size_alloc, z1]; omega), old_cell (by rw [z1]; omega), set_block (by omega), set_block (by omega)]
      exact h.recd i (by omega)
  · intro i hi
    by_cases e : i = k
    · subst e
      rw [new_free (by rw [World.size_alloc, z1]; omega)]
    · rw [old_free (by rw [World.size_alloc, z1]; omega), old_free (by rw [z1]; omega), World.frozen?_setCell, World.frozen?_setCell]
      exact h.free i (by omega)
end Go.Proofs.Qxb6605953a.Rec
