/-
  FnClosingQuoteFindsEndOfQuoted: the walk.
-/
import Derived.Test.Qxb6606012aQuoteF
import Derived.Deep.OwnRows
namespace Go.Proofs.Qxb6606012a.Quote
open Go.RowKit Go.Maps

def RetT (w : World) (e : Ending) (w' : World) : Prop := e = .returned (.bool true) ∧ Below w.heap.size w w'

theorem bytesQ_yes (a b c : ByteArray) (q : Int) (esc : Bool) (w : World) (h : (a.size : Int) + (b.size : Int) + (c.size : Int) ≤ 1048576) :
    Calls Try.prog 9 #[.string a, .int .u8 q, .string b, .string c, .bool esc] w fun e w' => e = .returned (.bool true) ∧ w' = w := by
  go_enter Try.func9, Try.ntmps9
  go_wp2
  go_ret
  exact ⟨rfl, rfl⟩
theorem bytesQ_no (a b c : ByteArray) (q : Int) (esc : Bool) (w : World) (h : ¬ (a.size : Int) + (b.size : Int) + (c.size : Int) ≤ 1048576) (ha : a.size ≤ maxLen) (hb : b.size ≤ maxLen) (hc : c.size ≤ maxLen) :
    Calls Try.prog 9 #[.string a, .int .u8 q, .string b, .string c, .bool esc] w fun e w' => e = .returned (.bool false) ∧ w' = w := by
  unfold maxLen at ha hb hc
  by_cases h1 : (a.size : Int) ≤ 1048576
  · by_cases h2 : (b.size : Int) ≤ 1048576
    · by_cases h3 : (a.size : Int) + (b.size : Int) ≤ 1048576
      · by_cases h4 : (c.size : Int) ≤ 1048576
        all_goals
          go_enter Try.func9, Try.ntmps9
          go_wp2
          go_ret
          exact ⟨rfl, rfl⟩
      · go_enter Try.func9, Try.ntmps9
        go_wp2
        go_ret
        exact ⟨rfl, rfl⟩
    · go_enter Try.func9, Try.ntmps9
      go_wp2
      go_ret
      exact ⟨rfl, rfl⟩
  · go_enter Try.func9, Try.ntmps9
    go_wp2
    go_ret
    exact ⟨rfl, rfl⟩

theorem take_snoc (s : ByteArray) (k : Nat) (h : k < s.size) : s.data.toList.take (k + 1) = s.data.toList.take k ++ [s[k]] := by
  rw [List.take_succ_eq_append_getElem (by simpa using h)]; rfl

/-- The text behind k bytes of s. -/
def textTo (lead s : ByteArray) (q : UInt8) (esc : Bool) (k : Nat) : List UInt8 := lead.data.toList ++ q :: encL esc q (s.data.toList.take k)
theorem textTo_succ (lead s : ByteArray) (q : UInt8) (esc : Bool) (k : Nat) (h : k < s.size) : textTo lead s q esc (k + 1) = textTo lead s q esc k ++ enc1 esc q s[k] := by
  unfold textTo
  rw [take_snoc s k h, encL_append]
  simp [encL]
theorem textTo_len (lead s : ByteArray) (q : UInt8) (esc : Bool) (k : Nat) : (textTo lead s q esc k).length ≤ lead.size + 1 + 2 * k := by
  have h1 := encL_len esc q (s.data.toList.take k)
  have h2 : (s.data.toList.take k).length ≤ k := List.length_take_le _ _
  have h3 : lead.data.toList.length = lead.size := by rw [Array.length_toList]; rfl
  unfold textTo
  simp only [List.length_append, List.length_cons, h3]
  omega

theorem textTo_all (lead s : ByteArray) (q : UInt8) (esc : Bool) : textTo lead s q esc s.size = lead.data.toList ++ q :: encL esc q s.data.toList := by
  unfold textTo
  rw [List.take_of_length_le (by rw [Array.length_toList]; exact Nat.le_refl _)]

/-- closingQuote at the whole text. -/
theorem end_calls (lead s rest : ByteArray) (q : UInt8) (esc : Bool) (nn : Nat) (w : World) (hesc : ¬ (esc = true ∧ q = 92)) (hrest : rest.data.toList.head? ≠ some q)
    (hnn : (textTo lead s q esc s.size).length = nn) (hsz : nn + 1 + rest.size ≤ 1048576) :
    Calls Try.prog 7 #[.string ⟨(textTo lead s q esc s.size ++ [q] ++ rest.data.toList).toArray⟩, .int .i64 lead.size, .bool esc] w fun e w' => e = .returned (.int .i64 ((nn : Int) + 1)) ∧ w' = w := by
  obtain ⟨T, hT⟩ : ∃ T, T = textTo lead s q esc s.size ++ [q] ++ rest.data.toList := ⟨_, rfl⟩
  rw [← hT]
  have hrl : rest.data.toList.length = rest.size := by rw [Array.length_toList]; rfl
  have hll : lead.data.toList.length = lead.size := by rw [Array.length_toList]; rfl
  have hlen : T.length = nn + 1 + rest.size := by rw [hT]; simp [hnn, hrl]; omega
  have hTe : T = lead.data.toList ++ q :: (encL esc q s.data.toList ++ q :: rest.data.toList) := by rw [hT, textTo_all]; simp
  have hen : nn = lead.size + 1 + (encL esc q s.data.toList).length := by rw [← hnn, textTo_all]; simp [hll]; omega
  have hfs : (ByteArray.mk T.toArray).size = T.length := by show T.toArray.size = _; simp
  have h := zzclosing_calls ⟨T.toArray⟩ (fun k => ((T.getD k 0).toNat : Int)) lead.size esc w (by rw [hfs]; omega) (by rw [hfs]; omega) (fun k hk => by
    have hk' : k < T.length := by rw [← hfs]; exact hk
    simp only [List.getD, List.getElem?_eq_getElem hk', Option.getD_some]
    rfl)
  have hq : (T.getD lead.size 0) = q := by rw [hTe, ← hll]; simp
  rw [hq, hfs] at h
  rw [cq_finds (fun k => ((T.getD k 0).toNat : Int)) T.length esc q rest.data.toList hesc hrest s.data.toList (lead.size + 1) (by rw [hTe]; simp [hll]; omega) (fun i hi => by
    have e : T.getD (lead.size + 1 + i) 0 = (encL esc q s.data.toList ++ q :: rest.data.toList)[i] := by
      rw [hTe, ← hll, List.getD, List.getElem?_append_right (by omega), show lead.data.toList.length + 1 + i - lead.data.toList.length = i + 1 by omega, List.getElem?_cons_succ, List.getElem?_eq_getElem hi]
      rfl
    rw [e])] at h
  rw [show ((lead.size + 1 + (encL esc q s.data.toList).length + 1 : Nat) : Int) = (nn : Int) + 1 by omega] at h
  exact h

set_option maxHeartbeats 8000000 in
set_option maxRecDepth 100000 in
theorem finds_false (lead s rest : ByteArray) (q : UInt8) (w : World) (hl : (lead.size : Int) ≤ 131072) (hs : (s.size : Int) ≤ 262144) (hr : (rest.size : Int) ≤ 131072)
    (hsum : (lead.size : Int) + (s.size : Int) + (rest.size : Int) ≤ 1048576) (hrest : rest.data.toList.head? ≠ some q) :
    Calls Try.prog 4 #[.string lead, .int .u8 (q.toNat : Int), .string s, .string rest, .bool false] w (RetT w) := by
  have dl : decide ((131072 : Int) < (lead.size : Int)) = false := decide_eq_false (by omega)
  have ds : decide ((262144 : Int) < (s.size : Int)) = false := decide_eq_false (by omega)
  have dr : decide ((131072 : Int) < (rest.size : Int)) = false := decide_eq_false (by omega)
  have hq256 : (q.toNat : Int) < 256 := by have := q.toNat_lt; omega
  obtain ⟨C, hC⟩ : ∃ C : Nat, C = lead.size + 2 * s.size + 2 + rest.size := ⟨_, rfl⟩
  have HC : Hid (C = lead.size + 2 * s.size + 2 + rest.size) := hC
  have hC8 : C ≤ 1048576 := by omega
  have hmk : (Instr.makeSlice 25 (.int .i64 0) (.int .i64 ((lead.size : Int) + 2 * (s.size : Int) + 2 + (rest.size : Int)))).run Try.prog w = .ok (.slice (some ⟨w.heap.size, 0, none⟩) 0 C) (w.alloc (.cells (madeCells #[.int .u8 0] C) 5)) := by
    obtain ⟨i, hi, hz⟩ := Option.map_eq_some_iff.1 info5
    simp only [Prod.mk.injEq] at hz
    have := run_make (P := Try.prog) w 25 5 i _ Try.underlying25 hi hz.1 .i64 .i64 0 (C : Int) (by omega) (by omega) (by rw [hz.2.2]; omega) (by omega)
    rw [show ((lead.size : Int) + 2 * (s.size : Int) + 2 + (rest.size : Int)) = (C : Int) by omega, this]
    simp [hz.2.1, Value.cells]
  have b0 := BufQ.start w C (by unfold maxLen; omega)
  obtain ⟨w1, hr1, b1⟩ := b0.appS lead (by omega)
  obtain ⟨w2, hr2, b2⟩ := b1.app1 q (by omega)
  simp only [Nat.zero_add, List.nil_append] at hr1 b1 hr2 b2
  have HB2 : Hid (BufQ w C (lead.size + 1) (textTo lead s q false 0) w2) := by simpa [Hid, textTo, encL] using b2
  clear hC b0 b1 b2

  have HR : Hid (rest.data.toList.head? ≠ some q) := hrest
  clear hrest
  by_cases hr0 : 0 < rest.size
  · have hne : (((rest[0]'hr0).toNat : Int) == (q.toNat : Int)) = false := by
      have hne : ((rest[0]'hr0).toNat : Int) ≠ (q.toNat : Int) := by
        refine u8_toNat_ne (fun e => HR.out ?_)
        rw [List.head?_eq_getElem?, List.getElem?_eq_getElem (by simpa using hr0)]
        exact congrArg some e
      simpa using hne
    have hri : (0 : Int) < (rest.size : Int) := by omega
    go_enter Try.func4, Try.ntmps4
    go_wp2_with fail
    refine (bytesQ_yes _ _ _ _ _ _ hsum).mono ?_
    rintro e w' ⟨rfl, rfl⟩
    go_wp2_with (first | (at_builtin; refine wpList_append_run rfl _ _ _ _ rfl _ _ _ _ hr1 rfl rfl ?_; clear hr1) | (at_builtin; refine wpList_append_run rfl _ _ _ _ rfl _ _ _ _ hr2 rfl rfl ?_; clear hr2))
    clear hmk
    go_loopw [11, 12] (fun v i wr => ∃ k nn : Nat, k ≤ s.size ∧ i = .int .i64 k ∧ v = .slice (some ⟨w'.heap.size, 0, none⟩) nn C ∧ BufQ w' C nn (textTo lead s q false k) wr) (fun _ i _ => s.size - (intOf i).toNat)
    case atStart => exact ⟨0, lead.size + 1, by omega, rfl, rfl, HB2.out⟩
    case round =>
      obtain ⟨k, nn, hk, rfl, rfl, hb⟩ := hrel
      have hnl : nn ≤ lead.size + 1 + 2 * k := by have := hb.len; have := textTo_len lead s q false k; omega
      have hCe := HC.out
      by_cases hlt : k < s.size
      · have hroom : nn + 2 ≤ C := by omega
        have hlti : (k : Int) < (s.size : Int) := by omega
        clear hCe
        by_cases hq : s[k] = q
        · have hq' : (((s[k]'hlt).toNat : Int) == (q.toNat : Int)) = true := by rw [hq]; simp
          have HT : Hid (enc1 false q s[k] = [q, q]) := by simp [Hid, enc1, hq]
          clear hq
          obtain ⟨wa, ha, ba⟩ := hb.app1 q (by omega)
          obtain ⟨wb, hb2, bb⟩ := ba.app1 q (by omega)
          skip
          have HB : Hid (BufQ w' C (nn + 1 + 1) (textTo lead s q false (k + 1)) wb) := by
            unfold Hid
            rw [textTo_succ lead s q false k hlt, HT.out]
            simpa using bb
          clear hb ba bb
          go_wp2_with (first | (at_builtin; refine wpList_append_run rfl _ _ _ _ rfl _ _ _ _ ha rfl rfl ?_; clear ha) | (at_builtin; refine wpList_append_run rfl _ _ _ _ rfl _ _ _ _ hb2 rfl rfl ?_; clear hb2))
          go_roundw
          case rel => exact ⟨k + 1, nn + 1 + 1, by omega, by go_num, rfl, HB.out⟩
          case measure => simp [intOf]; omega
        · have hq' : (((s[k]'hlt).toNat : Int) == (q.toNat : Int)) = false := by
            have := u8_toNat_ne hq
            simpa using this
          have HT : Hid (enc1 false q s[k] = [s[k]]) := by simp [Hid, enc1, hq]
          clear hq
          obtain ⟨wa, ha, ba⟩ := hb.app1 (s[k]'hlt) (by omega)
          have HB : Hid (BufQ w' C (nn + 1) (textTo lead s q false (k + 1)) wa) := by
            unfold Hid
            rw [textTo_succ lead s q false k hlt, HT.out]
            exact ba
          clear hb ba
          go_wp2_with (at_builtin; refine wpList_append_run rfl _ _ _ _ rfl _ _ _ _ ha rfl rfl ?_; clear ha)
          go_roundw
          case rel => exact ⟨k + 1, nn + 1, by omega, by go_num, rfl, HB.out⟩
          case measure => simp [intOf]; omega
      · obtain rfl : k = s.size := by omega
        obtain ⟨wa, ha, ba⟩ := hb.app1 q (by omega)
        obtain ⟨wb, hb2, bb⟩ := ba.appS rest (by omega)
        have hcv := bb.conv
        have HE7 : Hid (∀ W, Calls Try.prog 7 #[.string ⟨(textTo lead s q false s.size ++ [q] ++ rest.data.toList).toArray⟩, .int .i64 lead.size, .bool false] W fun e w' => e = .returned (.int .i64 ((nn : Int) + 1)) ∧ w' = W) :=
          fun W => end_calls lead s rest q false nn W (by simp) HR.out hb.len (by omega)
        have HBB : Hid (BufQ w' C (nn + 1 + rest.size) (textTo lead s q false s.size ++ [q] ++ rest.data.toList) wb) := bb
        generalize (textTo lead s q false s.size ++ [q] ++ rest.data.toList) = T at hcv HE7 HBB
        clear hb ba bb hCe
        go_wp2_with (first | (at_builtin; refine wpList_append_run rfl _ _ _ _ rfl _ _ _ _ ha rfl rfl ?_; clear ha) | (at_builtin; refine wpList_append_run rfl _ _ _ _ rfl _ _ _ _ hb2 rfl rfl ?_; clear hb2) | (go_at_call 7; refine (HE7.out _).mono ?_; rintro e w' ⟨rfl, rfl⟩))
        go_ret
        exact ⟨by simp, HBB.out.below⟩
  · have hri : decide (0 < rest.size) = false := decide_eq_false hr0
    go_enter Try.func4, Try.ntmps4
    go_wp2_with fail
    refine (bytesQ_yes _ _ _ _ _ _ hsum).mono ?_
    rintro e w' ⟨rfl, rfl⟩
    go_wp2_with (first | (at_builtin; refine wpList_append_run rfl _ _ _ _ rfl _ _ _ _ hr1 rfl rfl ?_; clear hr1) | (at_builtin; refine wpList_append_run rfl _ _ _ _ rfl _ _ _ _ hr2 rfl rfl ?_; clear hr2))
    clear hmk
    go_loopw [11, 12] (fun v i wr => ∃ k nn : Nat, k ≤ s.size ∧ i = .int .i64 k ∧ v = .slice (some ⟨w'.heap.size, 0, none⟩) nn C ∧ BufQ w' C nn (textTo lead s q false k) wr) (fun _ i _ => s.size - (intOf i).toNat)
    case atStart => exact ⟨0, lead.size + 1, by omega, rfl, rfl, HB2.out⟩
    case round =>
      obtain ⟨k, nn, hk, rfl, rfl, hb⟩ := hrel
      have hnl : nn ≤ lead.size + 1 + 2 * k := by have := hb.len; have := textTo_len lead s q false k; omega
      have hCe := HC.out
      by_cases hlt : k < s.size
      · have hroom : nn + 2 ≤ C := by omega
        have hlti : (k : Int) < (s.size : Int) := by omega
        clear hCe
        by_cases hq : s[k] = q
        · have hq' : (((s[k]'hlt).toNat : Int) == (q.toNat : Int)) = true := by rw [hq]; simp
          have HT : Hid (enc1 false q s[k] = [q, q]) := by simp [Hid, enc1, hq]
          clear hq
          obtain ⟨wa, ha, ba⟩ := hb.app1 q (by omega)
          obtain ⟨wb, hb2, bb⟩ := ba.app1 q (by omega)
          skip
          have HB : Hid (BufQ w' C (nn + 1 + 1) (textTo lead s q false (k + 1)) wb) := by
            unfold Hid
            rw [textTo_succ lead s q false k hlt, HT.out]
            simpa using bb
          clear hb ba bb
          go_wp2_with (first | (at_builtin; refine wpList_append_run rfl _ _ _ _ rfl _ _ _ _ ha rfl rfl ?_; clear ha) | (at_builtin; refine wpList_append_run rfl _ _ _ _ rfl _ _ _ _ hb2 rfl rfl ?_; clear hb2))
          go_roundw
          case rel => exact ⟨k + 1, nn + 1 + 1, by omega, by go_num, rfl, HB.out⟩
          case measure => simp [intOf]; omega
        · have hq' : (((s[k]'hlt).toNat : Int) == (q.toNat : Int)) = false := by
            have := u8_toNat_ne hq
            simpa using this
          have HT : Hid (enc1 false q s[k] = [s[k]]) := by simp [Hid, enc1, hq]
          clear hq
          obtain ⟨wa, ha, ba⟩ := hb.app1 (s[k]'hlt) (by omega)
          have HB : Hid (BufQ w' C (nn + 1) (textTo lead s q false (k + 1)) wa) := by
            unfold Hid
            rw [textTo_succ lead s q false k hlt, HT.out]
            exact ba
          clear hb ba
          go_wp2_with (at_builtin; refine wpList_append_run rfl _ _ _ _ rfl _ _ _ _ ha rfl rfl ?_; clear ha)
          go_roundw
          case rel => exact ⟨k + 1, nn + 1, by omega, by go_num, rfl, HB.out⟩
          case measure => simp [intOf]; omega
      · obtain rfl : k = s.size := by omega
        obtain ⟨wa, ha, ba⟩ := hb.app1 q (by omega)
        obtain ⟨wb, hb2, bb⟩ := ba.appS rest (by omega)
        have hcv := bb.conv
        have HE7 : Hid (∀ W, Calls Try.prog 7 #[.string ⟨(textTo lead s q false s.size ++ [q] ++ rest.data.toList).toArray⟩, .int .i64 lead.size, .bool false] W fun e w' => e = .returned (.int .i64 ((nn : Int) + 1)) ∧ w' = W) :=
          fun W => end_calls lead s rest q false nn W (by simp) HR.out hb.len (by omega)
        have HBB : Hid (BufQ w' C (nn + 1 + rest.size) (textTo lead s q false s.size ++ [q] ++ rest.data.toList) wb) := bb
        generalize (textTo lead s q false s.size ++ [q] ++ rest.data.toList) = T at hcv HE7 HBB
        clear hb ba bb hCe
        go_wp2_with (first | (at_builtin; refine wpList_append_run rfl _ _ _ _ rfl _ _ _ _ ha rfl rfl ?_; clear ha) | (at_builtin; refine wpList_append_run rfl _ _ _ _ rfl _ _ _ _ hb2 rfl rfl ?_; clear hb2) | (go_at_call 7; refine (HE7.out _).mono ?_; rintro e w' ⟨rfl, rfl⟩))
        go_ret
        exact ⟨by simp, HBB.out.below⟩

set_option maxHeartbeats 8000000 in
set_option maxRecDepth 100000 in
theorem finds_true (lead s rest : ByteArray) (q : UInt8) (w : World) (hl : (lead.size : Int) ≤ 131072) (hs : (s.size : Int) ≤ 262144) (hr : (rest.size : Int) ≤ 131072)
    (hsum : (lead.size : Int) + (s.size : Int) + (rest.size : Int) ≤ 1048576) (hq92 : q ≠ 92) (hrest : rest.data.toList.head? ≠ some q) :
    Calls Try.prog 4 #[.string lead, .int .u8 (q.toNat : Int), .string s, .string rest, .bool true] w (RetT w) := by
  have hd1 : ((q.toNat : Int) == 92) = false := by
    have := u8_toNat_ne hq92
    simpa using this
  have dl : decide ((131072 : Int) < (lead.size : Int)) = false := decide_eq_false (by omega)
  have ds : decide ((262144 : Int) < (s.size : Int)) = false := decide_eq_false (by omega)
  have dr : decide ((131072 : Int) < (rest.size : Int)) = false := decide_eq_false (by omega)
  have hq256 : (q.toNat : Int) < 256 := by have := q.toNat_lt; omega
  obtain ⟨C, hC⟩ : ∃ C : Nat, C = lead.size + 2 * s.size + 2 + rest.size := ⟨_, rfl⟩
  have HC : Hid (C = lead.size + 2 * s.size + 2 + rest.size) := hC
  have hC8 : C ≤ 1048576 := by omega
  have hmk : (Instr.makeSlice 25 (.int .i64 0) (.int .i64 ((lead.size : Int) + 2 * (s.size : Int) + 2 + (rest.size : Int)))).run Try.prog w = .ok (.slice (some ⟨w.heap.size, 0, none⟩) 0 C) (w.alloc (.cells (madeCells #[.int .u8 0] C) 5)) := by
    obtain ⟨i, hi, hz⟩ := Option.map_eq_some_iff.1 info5
    simp only [Prod.mk.injEq] at hz
    have := run_make (P := Try.prog) w 25 5 i _ Try.underlying25 hi hz.1 .i64 .i64 0 (C : Int) (by omega) (by omega) (by rw [hz.2.2]; omega) (by omega)
    rw [show ((lead.size : Int) + 2 * (s.size : Int) + 2 + (rest.size : Int)) = (C : Int) by omega, this]
    simp [hz.2.1, Value.cells]
  have b0 := BufQ.start w C (by unfold maxLen; omega)
  obtain ⟨w1, hr1, b1⟩ := b0.appS lead (by omega)
  obtain ⟨w2, hr2, b2⟩ := b1.app1 q (by omega)
  simp only [Nat.zero_add, List.nil_append] at hr1 b1 hr2 b2
  have HB2 : Hid (BufQ w C (lead.size + 1) (textTo lead s q true 0) w2) := by simpa [Hid, textTo, encL] using b2
  clear hC b0 b1 b2
  have HE : Hid (q ≠ 92) := hq92
  have HR : Hid (rest.data.toList.head? ≠ some q) := hrest
  clear hq92 hrest
  by_cases hr0 : 0 < rest.size
  · have hne : (((rest[0]'hr0).toNat : Int) == (q.toNat : Int)) = false := by
      have hne : ((rest[0]'hr0).toNat : Int) ≠ (q.toNat : Int) := by
        refine u8_toNat_ne (fun e => HR.out ?_)
        rw [List.head?_eq_getElem?, List.getElem?_eq_getElem (by simpa using hr0)]
        exact congrArg some e
      simpa using hne
    have hri : (0 : Int) < (rest.size : Int) := by omega
    go_enter Try.func4, Try.ntmps4
    go_wp2_with fail
    refine (bytesQ_yes _ _ _ _ _ _ hsum).mono ?_
    rintro e w' ⟨rfl, rfl⟩
    go_wp2_with (first | (at_builtin; refine wpList_append_run rfl _ _ _ _ rfl _ _ _ _ hr1 rfl rfl ?_; clear hr1) | (at_builtin; refine wpList_append_run rfl _ _ _ _ rfl _ _ _ _ hr2 rfl rfl ?_; clear hr2))
    clear hmk
    go_loopw [11, 12] (fun v i wr => ∃ k nn : Nat, k ≤ s.size ∧ i = .int .i64 k ∧ v = .slice (some ⟨w'.heap.size, 0, none⟩) nn C ∧ BufQ w' C nn (textTo lead s q true k) wr) (fun _ i _ => s.size - (intOf i).toNat)
    case atStart => exact ⟨0, lead.size + 1, by omega, rfl, rfl, HB2.out⟩
    case round =>
      obtain ⟨k, nn, hk, rfl, rfl, hb⟩ := hrel
      have hnl : nn ≤ lead.size + 1 + 2 * k := by have := hb.len; have := textTo_len lead s q true k; omega
      have hCe := HC.out
      by_cases hlt : k < s.size
      · have hroom : nn + 2 ≤ C := by omega
        have hlti : (k : Int) < (s.size : Int) := by omega
        clear hCe
        by_cases h92 : s[k] = 92
        · have h92' : (((s[k]'hlt).toNat : Int) == 92) = true := by rw [h92]; rfl
          have HT : Hid (enc1 true q s[k] = [92, 92]) := by simp [Hid, enc1, h92]
          clear h92
          obtain ⟨wa, ha, ba⟩ := hb.app1 92 (by omega)
          obtain ⟨wb, hb2, bb⟩ := ba.app1 92 (by omega)
          rw [show (((92 : UInt8).toNat : Nat) : Int) = 92 from rfl] at ha hb2
          have HB : Hid (BufQ w' C (nn + 1 + 1) (textTo lead s q true (k + 1)) wb) := by
            unfold Hid
            rw [textTo_succ lead s q true k hlt, HT.out]
            simpa using bb
          clear hb ba bb
          go_wp2_with (first | (at_builtin; refine wpList_append_run rfl _ _ _ _ rfl _ _ _ _ ha rfl rfl ?_; clear ha) | (at_builtin; refine wpList_append_run rfl _ _ _ _ rfl _ _ _ _ hb2 rfl rfl ?_; clear hb2))
          go_roundw
          case rel => exact ⟨k + 1, nn + 1 + 1, by omega, by go_num, rfl, HB.out⟩
          case measure => simp [intOf]; omega
        have h92' : (((s[k]'hlt).toNat : Int) == 92) = false := by
          have := u8_toNat_ne h92
          simpa using this
        by_cases hq : s[k] = q
        · have hq' : (((s[k]'hlt).toNat : Int) == (q.toNat : Int)) = true := by rw [hq]; simp
          have HT : Hid (enc1 true q s[k] = [q, q]) := by simp [Hid, enc1, ← hq, h92]
          clear hq h92
          obtain ⟨wa, ha, ba⟩ := hb.app1 q (by omega)
          obtain ⟨wb, hb2, bb⟩ := ba.app1 q (by omega)
          skip
          have HB : Hid (BufQ w' C (nn + 1 + 1) (textTo lead s q true (k + 1)) wb) := by
            unfold Hid
            rw [textTo_succ lead s q true k hlt, HT.out]
            simpa using bb
          clear hb ba bb
          go_wp2_with (first | (at_builtin; refine wpList_append_run rfl _ _ _ _ rfl _ _ _ _ ha rfl rfl ?_; clear ha) | (at_builtin; refine wpList_append_run rfl _ _ _ _ rfl _ _ _ _ hb2 rfl rfl ?_; clear hb2))
          go_roundw
          case rel => exact ⟨k + 1, nn + 1 + 1, by omega, by go_num, rfl, HB.out⟩
          case measure => simp [intOf]; omega
        · have hq' : (((s[k]'hlt).toNat : Int) == (q.toNat : Int)) = false := by
            have := u8_toNat_ne hq
            simpa using this
          have HT : Hid (enc1 true q s[k] = [s[k]]) := by simp [Hid, enc1, hq, h92]
          clear hq h92
          obtain ⟨wa, ha, ba⟩ := hb.app1 (s[k]'hlt) (by omega)
          have HB : Hid (BufQ w' C (nn + 1) (textTo lead s q true (k + 1)) wa) := by
            unfold Hid
            rw [textTo_succ lead s q true k hlt, HT.out]
            exact ba
          clear hb ba
          go_wp2_with (at_builtin; refine wpList_append_run rfl _ _ _ _ rfl _ _ _ _ ha rfl rfl ?_; clear ha)
          go_roundw
          case rel => exact ⟨k + 1, nn + 1, by omega, by go_num, rfl, HB.out⟩
          case measure => simp [intOf]; omega
      · obtain rfl : k = s.size := by omega
        obtain ⟨wa, ha, ba⟩ := hb.app1 q (by omega)
        obtain ⟨wb, hb2, bb⟩ := ba.appS rest (by omega)
        have hcv := bb.conv
        have HE7 : Hid (∀ W, Calls Try.prog 7 #[.string ⟨(textTo lead s q true s.size ++ [q] ++ rest.data.toList).toArray⟩, .int .i64 lead.size, .bool true] W fun e w' => e = .returned (.int .i64 ((nn : Int) + 1)) ∧ w' = W) :=
          fun W => end_calls lead s rest q true nn W (fun h => HE.out h.2) HR.out hb.len (by omega)
        have HBB : Hid (BufQ w' C (nn + 1 + rest.size) (textTo lead s q true s.size ++ [q] ++ rest.data.toList) wb) := bb
        generalize (textTo lead s q true s.size ++ [q] ++ rest.data.toList) = T at hcv HE7 HBB
        clear hb ba bb hCe
        go_wp2_with (first | (at_builtin; refine wpList_append_run rfl _ _ _ _ rfl _ _ _ _ ha rfl rfl ?_; clear ha) | (at_builtin; refine wpList_append_run rfl _ _ _ _ rfl _ _ _ _ hb2 rfl rfl ?_; clear hb2) | (go_at_call 7; refine (HE7.out _).mono ?_; rintro e w' ⟨rfl, rfl⟩))
        go_ret
        exact ⟨by simp, HBB.out.below⟩
  · have hri : decide (0 < rest.size) = false := decide_eq_false hr0
    go_enter Try.func4, Try.ntmps4
    go_wp2_with fail
    refine (bytesQ_yes _ _ _ _ _ _ hsum).mono ?_
    rintro e w' ⟨rfl, rfl⟩
    go_wp2_with (first | (at_builtin; refine wpList_append_run rfl _ _ _ _ rfl _ _ _ _ hr1 rfl rfl ?_; clear hr1) | (at_builtin; refine wpList_append_run rfl _ _ _ _ rfl _ _ _ _ hr2 rfl rfl ?_; clear hr2))
    clear hmk
    go_loopw [11, 12] (fun v i wr => ∃ k nn : Nat, k ≤ s.size ∧ i = .int .i64 k ∧ v = .slice (some ⟨w'.heap.size, 0, none⟩) nn C ∧ BufQ w' C nn (textTo lead s q true k) wr) (fun _ i _ => s.size - (intOf i).toNat)
    case atStart => exact ⟨0, lead.size + 1, by omega, rfl, rfl, HB2.out⟩
    case round =>
      obtain ⟨k, nn, hk, rfl, rfl, hb⟩ := hrel
      have hnl : nn ≤ lead.size + 1 + 2 * k := by have := hb.len; have := textTo_len lead s q true k; omega
      have hCe := HC.out
      by_cases hlt : k < s.size
      · have hroom : nn + 2 ≤ C := by omega
        have hlti : (k : Int) < (s.size : Int) := by omega
        clear hCe
        by_cases h92 : s[k] = 92
        · have h92' : (((s[k]'hlt).toNat : Int) == 92) = true := by rw [h92]; rfl
          have HT : Hid (enc1 true q s[k] = [92, 92]) := by simp [Hid, enc1, h92]
          clear h92
          obtain ⟨wa, ha, ba⟩ := hb.app1 92 (by omega)
          obtain ⟨wb, hb2, bb⟩ := ba.app1 92 (by omega)
          rw [show (((92 : UInt8).toNat : Nat) : Int) = 92 from rfl] at ha hb2
          have HB : Hid (BufQ w' C (nn + 1 + 1) (textTo lead s q true (k + 1)) wb) := by
            unfold Hid
            rw [textTo_succ lead s q true k hlt, HT.out]
            simpa using bb
          clear hb ba bb
          go_wp2_with (first | (at_builtin; refine wpList_append_run rfl _ _ _ _ rfl _ _ _ _ ha rfl rfl ?_; clear ha) | (at_builtin; refine wpList_append_run rfl _ _ _ _ rfl _ _ _ _ hb2 rfl rfl ?_; clear hb2))
          go_roundw
          case rel => exact ⟨k + 1, nn + 1 + 1, by omega, by go_num, rfl, HB.out⟩
          case measure => simp [intOf]; omega
        have h92' : (((s[k]'hlt).toNat : Int) == 92) = false := by
          have := u8_toNat_ne h92
          simpa using this
        by_cases hq : s[k] = q
        · have hq' : (((s[k]'hlt).toNat : Int) == (q.toNat : Int)) = true := by rw [hq]; simp
          have HT : Hid (enc1 true q s[k] = [q, q]) := by simp [Hid, enc1, ← hq, h92]
          clear hq h92
          obtain ⟨wa, ha, ba⟩ := hb.app1 q (by omega)
          obtain ⟨wb, hb2, bb⟩ := ba.app1 q (by omega)
          skip
          have HB : Hid (BufQ w' C (nn + 1 + 1) (textTo lead s q true (k + 1)) wb) := by
            unfold Hid
            rw [textTo_succ lead s q true k hlt, HT.out]
            simpa using bb
          clear hb ba bb
          go_wp2_with (first | (at_builtin; refine wpList_append_run rfl _ _ _ _ rfl _ _ _ _ ha rfl rfl ?_; clear ha) | (at_builtin; refine wpList_append_run rfl _ _ _ _ rfl _ _ _ _ hb2 rfl rfl ?_; clear hb2))
          go_roundw
          case rel => exact ⟨k + 1, nn + 1 + 1, by omega, by go_num, rfl, HB.out⟩
          case measure => simp [intOf]; omega
        · have hq' : (((s[k]'hlt).toNat : Int) == (q.toNat : Int)) = false := by
            have := u8_toNat_ne hq
            simpa using this
          have HT : Hid (enc1 true q s[k] = [s[k]]) := by simp [Hid, enc1, hq, h92]
          clear hq h92
          obtain ⟨wa, ha, ba⟩ := hb.app1 (s[k]'hlt) (by omega)
          have HB : Hid (BufQ w' C (nn + 1) (textTo lead s q true (k + 1)) wa) := by
            unfold Hid
            rw [textTo_succ lead s q true k hlt, HT.out]
            exact ba
          clear hb ba
          go_wp2_with (at_builtin; refine wpList_append_run rfl _ _ _ _ rfl _ _ _ _ ha rfl rfl ?_; clear ha)
          go_roundw
          case rel => exact ⟨k + 1, nn + 1, by omega, by go_num, rfl, HB.out⟩
          case measure => simp [intOf]; omega
      · obtain rfl : k = s.size := by omega
        obtain ⟨wa, ha, ba⟩ := hb.app1 q (by omega)
        obtain ⟨wb, hb2, bb⟩ := ba.appS rest (by omega)
        have hcv := bb.conv
        have HE7 : Hid (∀ W, Calls Try.prog 7 #[.string ⟨(textTo lead s q true s.size ++ [q] ++ rest.data.toList).toArray⟩, .int .i64 lead.size, .bool true] W fun e w' => e = .returned (.int .i64 ((nn : Int) + 1)) ∧ w' = W) :=
          fun W => end_calls lead s rest q true nn W (fun h => HE.out h.2) HR.out hb.len (by omega)
        have HBB : Hid (BufQ w' C (nn + 1 + rest.size) (textTo lead s q true s.size ++ [q] ++ rest.data.toList) wb) := bb
        generalize (textTo lead s q true s.size ++ [q] ++ rest.data.toList) = T at hcv HE7 HBB
        clear hb ba bb hCe
        go_wp2_with (first | (at_builtin; refine wpList_append_run rfl _ _ _ _ rfl _ _ _ _ ha rfl rfl ?_; clear ha) | (at_builtin; refine wpList_append_run rfl _ _ _ _ rfl _ _ _ _ hb2 rfl rfl ?_; clear hb2) | (go_at_call 7; refine (HE7.out _).mono ?_; rintro e w' ⟨rfl, rfl⟩))
        go_ret
        exact ⟨by simp, HBB.out.below⟩

/-! ### The ways on which the law answers at once -/
theorem finds_far (a0 : ByteArray) (a1 : Int) (a2 a3 : ByteArray) (a4 : Bool) (w : World) (h0 : a0.size ≤ maxLen) (h2 : a2.size ≤ maxLen) (h3 : a3.size ≤ maxLen) (h : ¬ (a0.size : Int) + (a2.size : Int) + (a3.size : Int) ≤ 1048576) :
    Calls Try.prog 4 #[.string a0, .int .u8 a1, .string a2, .string a3, .bool a4] w (RetT w) := by
  go_enter Try.func4, Try.ntmps4
  go_wp2_with (go_at_call 9; refine (bytesQ_no _ _ _ _ _ _ h h0 h2 h3).mono ?_; rintro e w' ⟨rfl, rfl⟩)
  go_ret
  exact ⟨rfl, Below.refl _ _⟩

theorem finds_lead (a0 : ByteArray) (a1 : Int) (a2 a3 : ByteArray) (a4 : Bool) (w : World) (h : (a0.size : Int) + (a2.size : Int) + (a3.size : Int) ≤ 1048576) (hl : ¬ (a0.size : Int) ≤ 131072) :
    Calls Try.prog 4 #[.string a0, .int .u8 a1, .string a2, .string a3, .bool a4] w (RetT w) := by
  go_enter Try.func4, Try.ntmps4
  go_wp2_with (go_at_call 9; refine (bytesQ_yes _ _ _ _ _ _ h).mono ?_; rintro e w' ⟨rfl, rfl⟩)
  go_ret
  exact ⟨rfl, Below.refl _ _⟩

theorem finds_s (a0 : ByteArray) (a1 : Int) (a2 a3 : ByteArray) (a4 : Bool) (w : World) (h : (a0.size : Int) + (a2.size : Int) + (a3.size : Int) ≤ 1048576) (hl : (a0.size : Int) ≤ 131072) (hs : ¬ (a2.size : Int) ≤ 262144) :
    Calls Try.prog 4 #[.string a0, .int .u8 a1, .string a2, .string a3, .bool a4] w (RetT w) := by
  go_enter Try.func4, Try.ntmps4
  go_wp2_with (go_at_call 9; refine (bytesQ_yes _ _ _ _ _ _ h).mono ?_; rintro e w' ⟨rfl, rfl⟩)
  go_ret
  exact ⟨rfl, Below.refl _ _⟩

theorem finds_rest (a0 : ByteArray) (a1 : Int) (a2 a3 : ByteArray) (a4 : Bool) (w : World) (h : (a0.size : Int) + (a2.size : Int) + (a3.size : Int) ≤ 1048576) (hl : (a0.size : Int) ≤ 131072) (hs : (a2.size : Int) ≤ 262144) (hr : ¬ (a3.size : Int) ≤ 131072) :
    Calls Try.prog 4 #[.string a0, .int .u8 a1, .string a2, .string a3, .bool a4] w (RetT w) := by
  go_enter Try.func4, Try.ntmps4
  go_wp2_with (go_at_call 9; refine (bytesQ_yes _ _ _ _ _ _ h).mono ?_; rintro e w' ⟨rfl, rfl⟩)
  go_ret
  exact ⟨rfl, Below.refl _ _⟩

theorem finds_slash (a0 : ByteArray) (a1 : Int) (a2 a3 : ByteArray) (w : World) (h : (a0.size : Int) + (a2.size : Int) + (a3.size : Int) ≤ 1048576) (hl : (a0.size : Int) ≤ 131072) (hs : (a2.size : Int) ≤ 262144) (hr : (a3.size : Int) ≤ 131072) (hq : (a1 == 92) = true) :
    Calls Try.prog 4 #[.string a0, .int .u8 a1, .string a2, .string a3, .bool true] w (RetT w) := by
  go_enter Try.func4, Try.ntmps4
  go_wp2_with (go_at_call 9; refine (bytesQ_yes _ _ _ _ _ _ h).mono ?_; rintro e w' ⟨rfl, rfl⟩)
  go_ret
  exact ⟨rfl, Below.refl _ _⟩

theorem finds_opens (a0 : ByteArray) (q : UInt8) (a2 a3 : ByteArray) (a4 : Bool) (w : World) (h : (a0.size : Int) + (a2.size : Int) + (a3.size : Int) ≤ 1048576) (hl : (a0.size : Int) ≤ 131072) (hs : (a2.size : Int) ≤ 262144) (hr : (a3.size : Int) ≤ 131072)
    (hq : ¬ (a4 = true ∧ q = 92)) (h0 : 0 < a3.size) (he : (((a3[0]'h0).toNat : Int) == (q.toNat : Int)) = true) :
    Calls Try.prog 4 #[.string a0, .int .u8 (q.toNat : Int), .string a2, .string a3, .bool a4] w (RetT w) := by
  have hri : (0 : Int) < (a3.size : Int) := by omega
  cases a4
  · clear hq
    go_enter Try.func4, Try.ntmps4
    go_wp2_with (go_at_call 9; refine (bytesQ_yes _ _ _ _ _ _ h).mono ?_; rintro e w' ⟨rfl, rfl⟩)
    go_ret
    exact ⟨rfl, Below.refl _ _⟩
  · have hd : ((q.toNat : Int) == 92) = false := by
      have := u8_toNat_ne (fun e => hq ⟨rfl, e⟩ : q ≠ 92)
      simpa using this
    clear hq
    go_enter Try.func4, Try.ntmps4
    go_wp2_with (go_at_call 9; refine (bytesQ_yes _ _ _ _ _ _ h).mono ?_; rintro e w' ⟨rfl, rfl⟩)
    go_ret
    exact ⟨rfl, Below.refl _ _⟩
end Go.Proofs.Qxb6606012a.Quote
