/-
  The quoted text is built in one new block; then closingQuote is asked.
-/
import Derived.Test.Qxb6606012aQuoteW
import Derived.Test.Qxb6606012aQuoteE
import Derived.Lib.AppendStr
import Derived.Laws.IdiomStrings
import Derived.Maps.AppendAt
import Derived.KernelRfl
namespace Go.Proofs.Qxb6606012a.Quote
open Go.RowKit Go.Maps

theorem info5 : (Try.prog.info? 5).map (fun i => (i.zero, i.size, i.bytes)) = some (some (.int .u8 0), 1, 1) := by kernel_rfl

/-- Block B (the first that the call made) is a row with room for C bytes whose first n bytes are l. -/
structure BufQ (w : World) (C n : Nat) (l : List UInt8) (wr : World) : Prop where
  len : l.length = n
  below : Below w.heap.size w wr
  row : wr.ownsRow w.heap.size 5 1 (.slice (some ⟨w.heap.size, 0, none⟩) n C) n (l.map fun c => Value.int .u8 (c.toNat : Int))

theorem BufQ.start (w : World) (C : Nat) (hC : C ≤ maxLen) : BufQ w C 0 [] (w.alloc (.cells (madeCells #[.int .u8 0] C) 5)) where
  len := rfl
  below := (Below.refl _ _).alloc (Nat.le_refl _) _
  row := ⟨rfl, .inr ⟨w.heap.size, C, _, rfl, Nat.le_refl _, heap_alloc_new w _, Nat.zero_le _, hC, by simp [size_madeCells], by simp⟩⟩

theorem BufQ.grow {w : World} {C n m : Nat} {l l2 : List UInt8} {wr w1 : World} (h : BufQ w C n l wr) (hl : l2.length = m)
    (hrow : w1.ownsRow w.heap.size 5 1 (.slice (some ⟨w.heap.size, 0, none⟩) (n + m) C) (n + m) ((l.map fun c => Value.int .u8 (c.toNat : Int)) ++ (l2.map fun c => Value.int .u8 (c.toNat : Int))))
    (hg : wr.grownBy w1 (some w.heap.size)) : BufQ w C (n + m) (l ++ l2) w1 where
  len := by simp [h.len, hl]
  below := h.below.grown hg h.below.size (fun k hk => by cases hk; exact Nat.le_refl _)
  row := by simpa using hrow

/-- 'append(b, c)': the byte is first laid in a block of its own. -/
theorem BufQ.app1 {w : World} {C n : Nat} {l : List UInt8} {wr : World} (h : BufQ w C n l wr) (c : UInt8) (hroom : n + 1 ≤ C) :
    ∃ w1, (Builtin.append_ #[25, 25] 25 #[.slice (some ⟨w.heap.size, 0, none⟩) n C, .slice (some ⟨wr.heap.size, 0, none⟩) 1 1]).run Try.prog (wr.alloc (.cells #[.int .u8 (c.toNat : Int)] 5)) =
      .ok (.slice (some ⟨w.heap.size, 0, none⟩) (n + 1) C) w1 ∧ BufQ w C (n + 1) (l ++ [c]) w1 := by
  obtain ⟨i, hi, hz⟩ := Option.map_eq_some_iff.1 info5
  simp only [Prod.mk.injEq] at hz
  obtain ⟨w1, hr, hrow, hg⟩ := run_append_fits (P := Try.prog) (wr.alloc (.cells #[.int .u8 (c.toNat : Int)] 5)) w.heap.size 25 25 5 i 1 Try.underlying25 hi hz.2.1 w.heap.size n C _ (h.row.alloc _)
    ⟨wr.heap.size, 0, none⟩ 1 1 [.int .u8 (c.toNat : Int)] rfl (cell_one_new _ _ _) (by intro u hu; simp at hu; subst hu; rfl) hroom
  exact ⟨w1, hr, h.grow (l2 := [c]) rfl (by simpa using hrow) ((World.grownBy_alloc _ _ _).trans hg)⟩

/-- 'append(b, s...)', s a string. -/
theorem BufQ.appS {w : World} {C n : Nat} {l : List UInt8} {wr : World} (h : BufQ w C n l wr) (s : ByteArray) (hroom : n + s.size ≤ C) :
    ∃ w1, (Builtin.append_ #[25, 9] 25 #[.slice (some ⟨w.heap.size, 0, none⟩) n C, .string s]).run Try.prog wr = .ok (.slice (some ⟨w.heap.size, 0, none⟩) (n + s.size) C) w1 ∧ BufQ w C (n + s.size) (l ++ s.data.toList) w1 := by
  obtain ⟨i, hi, hz⟩ := Option.map_eq_some_iff.1 info5
  simp only [Prod.mk.injEq] at hz
  rcases h.row.2 with ⟨h', _⟩ | ⟨g', cap', cur, h', hb, hg, hnc, hcm, hcs, htake⟩
  · simp at h'
  simp only [Value.slice.injEq, Option.some.injEq, Addr.mk.injEq, and_true, true_and] at h'
  obtain ⟨rfl, rfl⟩ := h'
  have hcs' : cur.size = C := by simpa using hcs
  have hlen := h.row.1
  have hr := Lib.run_append_room_string (P := Try.prog) wr 25 9 25 5 i Try.underlying25 Try.underlying9 hi hz.2.1 w.heap.size n C cur hg s hroom (by omega)
  refine ⟨_, hr, h.grow (l2 := s.data.toList) (by rw [Array.length_toList]; rfl) ?_ ⟨rfl, rfl, rfl, by simp, fun k _ hk => setRow_other wr w.heap.size k _ (fun e => hk (by simp [e]))⟩⟩
  refine ⟨by simp [h.len], .inr ⟨w.heap.size, C, _, rfl, hb, setRow_heap wr w.heap.size cur _ 5 _ hg, hroom, hcm, ?_, ?_⟩⟩
  · simp only [List.size_toArray, List.length_append, List.length_take, List.length_drop, Array.length_toList, Lib.strCells_length]
    omega
  · have ht' : cur.toList.take n = l.map fun c => Value.int .u8 (c.toNat : Int) := by simpa using htake
    rw [ht']
    show ((l.map fun c => Value.int .u8 (c.toNat : Int)) ++ Lib.strCells s ++ _).take _ = _
    have e : (n + s.size) * 1 = ((l.map fun c => Value.int .u8 (c.toNat : Int)) ++ Lib.strCells s).length := by simp [h.len, Lib.strCells_length]
    rw [e, List.take_left]
    rfl

/-- 'string(b)'. -/
theorem BufQ.conv {w : World} {C n : Nat} {l : List UInt8} {wr : World} (h : BufQ w C n l wr) :
    (convert 25 9 (.slice (some ⟨w.heap.size, 0, none⟩) n C)).run Try.prog wr = .ok (.string ⟨l.toArray⟩) wr := by
  have hn := h.len
  subst hn
  exact run_convert_bytes_back (P := Try.prog) wr 25 9 5 ⟨w.heap.size, 0, none⟩ C l Try.underlying25 Try.underlying5 Try.underlying9 (fun j hj => by
    have := h.row.cells (g := w.heap.size) rfl j (.int .u8 (l[j].toNat : Int)) (by simp [hj])
    exact this)

/-- A built-in append whose run is known. -/
theorem wpList_append_run {P : Program} {w : World} {ops : Array Oper} {rest : List Oper} {o : Oper} {a : Act} {Q : Exit → Act → World → Prop} (hgd : o.guard = none) (sl x : Operand) (t u : TypeId)
    (ho : o.op = .call { callee := .builtin .append, args := #[sl, x], argTypes := #[t, u] }) (sv xv v : Value) (w1 : World) (hr : (Builtin.append_ #[t, u] o.type #[sv, xv]).run P w = .ok v w1) (hs : a.eval sl = sv) (hx : a.eval x = xv)
    (h : wpList P ops Q rest (a.put o.dst v) w1) : wpList P ops Q (o :: rest) a w := by
  refine wpList_plain hgd fun K hK => ?_
  unfold Oper.wp execOp
  simp only [ho, resolve, invoke, builtin, Sem.run_bind, Sem.run_pure, Result.andThen_ok, List.map_toArray, List.map_cons, List.map_nil, hs, hx, hr]
  exact hK _ _ h
end Go.Proofs.Qxb6606012a.Quote
