/-
  THE WALK of FnHex4ReadsFourHexDigits (seat b6619375a).
-/
import Derived.Test.Qxb6619375aHexZ
import Derived.Deep.OwnRows
import Derived.Laws.CopyRow
namespace Go.Proofs.Qxb6619375a
open Go.RowKit
set_option linter.unusedVariables false

theorem bytes8_true (a : Option Addr) (len cap : Nat) (n1 n2 n3 n4 : Int) (h : len ≤ 1048576) (w : World) :
    Calls Try.prog 8 #[.slice a len cap, .int .i64 n1, .int .i64 n2, .int .i64 n3, .int .i64 n4] w fun e w' => e = .returned (.bool true) ∧ w' = w := by
  go_enter Try.func8, Try.ntmps8
  go_wp2
  go_ret
  exact ⟨rfl, rfl⟩
theorem bytes8_false (a : Option Addr) (len cap : Nat) (n1 n2 n3 n4 : Int) (h0 : len ≤ 9223372036854775807) (h : 1048576 < len) (w : World) :
    Calls Try.prog 8 #[.slice a len cap, .int .i64 n1, .int .i64 n2, .int .i64 n3, .int .i64 n4] w fun e w' => e = .returned (.bool false) ∧ w' = w := by
  go_enter Try.func8, Try.ntmps8
  go_wp2
  go_ret
  exact ⟨rfl, rfl⟩

/-- Too long: it returns true at once. -/
theorem law_long (a : Option Addr) (len cap : Nat) (off line col coff : Int) (h0 : len ≤ 9223372036854775807) (h : 1048576 < len) (w : World) :
    Calls Try.prog 3 #[.slice a len cap, .int .i64 off, .int .i64 line, .int .i64 col, .int .i64 coff] w fun e w' => e = .returned (.bool true) ∧ Below w.heap.size w w' := by
  go_enter Try.func3, Try.ntmps3
  go_wp2_with (go_at_call 8; refine (bytes8_false _ _ _ _ _ _ _ h0 h _).mono ?_; rintro e w' ⟨rfl, rfl⟩)
  go_ret
  exact ⟨rfl, Below.refl _ _⟩
/-- A negative offset: it returns true at once. -/
theorem law_neg (a : Option Addr) (len cap : Nat) (off line col coff : Int) (h : len ≤ 1048576) (ho : off < 0) (w : World) :
    Calls Try.prog 3 #[.slice a len cap, .int .i64 off, .int .i64 line, .int .i64 col, .int .i64 coff] w fun e w' => e = .returned (.bool true) ∧ Below w.heap.size w w' := by
  go_enter Try.func3, Try.ntmps3
  go_wp2_with (go_at_call 8; refine (bytes8_true _ _ _ _ _ _ _ h _).mono ?_; rintro e w' ⟨rfl, rfl⟩)
  go_ret
  exact ⟨rfl, Below.refl _ _⟩
set_option maxRecDepth 100000 in
set_option maxHeartbeats 1000000 in
/-- No bytes at all: nil. -/
theorem law_nil (off line col coff : Int) (h0 : 0 ≤ off) (h1 : off ≤ 9223372036854775807) (w : World) :
    Calls Try.prog 3 #[.slice none 0 0, .int .i64 off, .int .i64 line, .int .i64 col, .int .i64 coff] w fun e w' => e = .returned (.bool true) ∧ Below w.heap.size w w' := by
  have hnn := fun w => run_neq_slice_nil_any (P := Try.prog) w 22 5 none 0 0 0 0 Try.underlying22
  have hd : decide ((4 : Int) ≤ -off) = false := by rw [decide_eq_false_iff_not]; omega
  have HZ : Hid (∀ w, Calls Try.prog 9 #[.slice none 0 0, .int .i64 off, .int .i64 line, .int .i64 col, .int .i64 coff] w fun e w' => e = .returned (six 0 false off line col coff) ∧ Below w.heap.size w w') := fun w => zhex_short none 0 0 off line col coff w h0 h1 (by omega) (by omega)
  go_enter Try.func3, Try.ntmps3
  go_wp2_with fail
  refine (bytes8_true _ _ _ _ _ _ _ (by omega) _).mono ?_
  rintro e w' ⟨rfl, rfl⟩
  go_wp2_with fail
  refine (HZ.out _).mono ?_
  rintro e w1 ⟨rfl, hb⟩
  unfold six
  go_wp2_with fail
  go_ret
  exact ⟨rfl, hb⟩

/-- 'make' and 'copy': the bytes lie in a new block. -/
theorem Try.info5 : (Try.prog.info? 5).map (fun i => (i.zero, i.size, i.bytes)) = some (some (.int .u8 0), 1, 1) := by kernel_rfl
theorem made (len : Nat) (h : len ≤ 1048576) (w : World) : (Instr.makeSlice 22 (.int .i64 (len : Int)) (.int .i64 (len : Int))).run Try.prog w = .ok (.slice (some ⟨w.heap.size, 0, none⟩) len len) (w.alloc (.cells (madeCells #[.int .u8 0] len) 5)) :=
  run_make_row' (P := Try.prog) 22 5 (.int .u8 0) 1 Try.underlying22 Try.info5 rfl .i64 .i64 len (by omega) (by omega) w
theorem alloc_setRow (w : World) (c d : Array Value) (t : TypeId) : (w.alloc (.cells c t)).setRow w.heap.size d = w.alloc (.cells d t) := by
  have hm : ∀ (a : Array Obj) (x : Obj) (f : Obj → Obj), (a.push x).modify a.size f = a.push (f x) := by
    intro a x f
    apply Array.ext
    · simp
    · intro i h1 h2
      simp only [Array.getElem_modify, Array.getElem_push]
      by_cases h : a.size = i
      · subst h
        simp
      · have hi : i < a.size := by simp at h1; omega
        simp [h, hi]
  show ({ w.alloc (.cells c t) with heap := (w.heap.push (.cells c t)).modify w.heap.size _ } : World) = _
  rw [hm]
  rfl
theorem copied (ty len cap : Nat) (x : Addr) (zs : List Int) (w : World) (hlz : len ≤ zs.length) (hz : ∀ i, i < zs.length → w.cell? (x.add i) = some (.int .u8 (zs.getD i 0))) :
    (Builtin.copy_ #[22, 22] ty #[.slice (some ⟨w.heap.size, 0, none⟩) len len, .slice (some x) len cap]).run Try.prog (w.alloc (.cells (madeCells #[.int .u8 0] len) 5)) = .ok (.int .i64 len) (w.alloc (.cells ((zs.take len).map (Value.int .u8)).toArray 5)) := by
  have hl : ((zs.take len).map (Value.int .u8)).length = len := by simp; omega
  have := run_copy_row (P := Try.prog) (w.alloc (.cells (madeCells #[.int .u8 0] len) 5)) 22 22 ty 5 w.heap.size 0 len len x len cap (madeCells #[.int .u8 0] len) 5 ((zs.take len).map (Value.int .u8)) Try.underlying22 (by kernel_rfl)
    (by show (w.heap.push _)[w.heap.size]? = _; simp) (by rw [hl]; simp)
    (fun j v hj => by
      have hjl : j < len := by
        have := (List.getElem?_eq_some_iff.1 hj).1
        rw [hl] at this; exact this
      rw [cell_later ((Below.refl _ _).alloc (Nat.le_refl _) _) (hz j (by omega)), ← hj]
      simp [hjl, List.getElem?_eq_getElem (show j < zs.length by omega)])
    (by rw [hl, size_madeCells]; omega)
    (fun v hv => by
      simp only [List.mem_map] at hv
      obtain ⟨n, _, rfl⟩ := hv
      rfl)
  rw [this, hl, alloc_setRow]
  have e : (madeCells #[.int .u8 0] len).toList.drop (0 + len) = [] := List.drop_eq_nil_of_le (by rw [Array.length_toList, size_madeCells]; omega)
  rw [e]
  simp [goInt]

set_option maxRecDepth 100000 in
set_option maxHeartbeats 1000000 in
/-- Too few bytes are left. -/
theorem law_short (x : Addr) (len cap : Nat) (off line col coff : Int) (zs : List Int) (h : len ≤ 1048576) (h0 : 0 ≤ off) (h1 : off ≤ 9223372036854775807) (hs : (len : Int) - off < 4) (w : World)
    (hlz : len ≤ zs.length) (hz : ∀ i, i < zs.length → w.cell? (x.add i) = some (.int .u8 (zs.getD i 0))) :
    Calls Try.prog 3 #[.slice (some x) len cap, .int .i64 off, .int .i64 line, .int .i64 col, .int .i64 coff] w fun e w' => e = .returned (.bool true) ∧ Below w.heap.size w w' := by
  have hnn := fun w => run_neq_slice_nil_any (P := Try.prog) w 22 5 (some x) len cap 0 0 Try.underlying22
  have hd : decide ((4 : Int) ≤ (len : Int) - off) = false := by rw [decide_eq_false_iff_not]; omega
  have HZ : Hid (∀ w g, Calls Try.prog 9 #[.slice (some ⟨g, 0, none⟩) len len, .int .i64 off, .int .i64 line, .int .i64 col, .int .i64 coff] w fun e w' => e = .returned (six 0 false off line col coff) ∧ Below w.heap.size w w') := fun w g => zhex_short (some ⟨g, 0, none⟩) len len off line col coff w h0 h1 h hs
  have hmk := made len h w
  have hcp := fun ty => copied ty len cap x zs w hlz hz
  clear hz
  generalize madeCells #[.int .u8 0] len = C0 at *
  generalize ((zs.take len).map (Value.int .u8)).toArray = C1 at *
  go_enter Try.func3, Try.ntmps3
  go_wp2_with fail
  refine (bytes8_true _ _ _ _ _ _ _ h _).mono ?_
  rintro e w ⟨rfl, hw'⟩
  subst hw'
  go_wp2_with fail
  refine (HZ.out _ _).mono ?_
  rintro e w1 ⟨rfl, hb⟩
  unfold six
  go_wp2_with fail
  go_ret
  exact ⟨rfl, ((Below.refl _ _).alloc (Nat.le_refl _) _).trans (hb.mono (by simp))⟩

theorem four_bound {zs : List Int} (hb : ∀ n ∈ zs, 0 ≤ n ∧ n ≤ 255) {off i : Nat} (h : off + i < zs.length) : 0 ≤ (zs.drop off).getD i 0 ∧ (zs.drop off).getD i 0 ≤ 255 := by
  have e : (zs.drop off).getD i 0 = zs[off + i] := by
    rw [List.getD_eq_getElem?_getD, List.getElem?_drop, List.getElem?_eq_getElem h]; rfl
  rw [e]
  exact hb _ (List.getElem_mem h)
theorem four_cell {zs : List Int} {w : World} {len off i : Nat} (hlz : len ≤ zs.length) (h : off + i < len) :
    (w.alloc (.cells ((zs.take len).map (Value.int .u8)).toArray 5)).cell? ⟨w.heap.size, off + i, none⟩ = some (.int .u8 ((zs.drop off).getD i 0)) := by
  rw [World.cell?_alloc_new]
  simp only [List.getElem?_toArray, List.getElem?_map, List.getElem?_take, if_pos h]
  rw [List.getD_eq_getElem?_getD, List.getElem?_drop, List.getElem?_eq_getElem (show off + i < zs.length by omega)]
  rfl

set_option maxRecDepth 100000 in
set_option maxHeartbeats 1000000 in
/-- One of the four bytes is no hex digit. -/
theorem law_no (x : Addr) (len cap off : Nat) (line col coff : Int) (zs : List Int) (h : len ≤ 1048576) (hs : off + 4 ≤ len) (w : World)
    (hlz : len ≤ zs.length) (hz : ∀ i, i < zs.length → w.cell? (x.add i) = some (.int .u8 (zs.getD i 0))) (hb : ∀ n ∈ zs, 0 ≤ n ∧ n ≤ 255) (hall : allHex (zs.drop off) 4 = false) :
    Calls Try.prog 3 #[.slice (some x) len cap, .int .i64 off, .int .i64 line, .int .i64 col, .int .i64 coff] w fun e w' => e = .returned (.bool true) ∧ Below w.heap.size w w' := by
  have hnn := fun w => run_neq_slice_nil_any (P := Try.prog) w 22 5 (some x) len cap 0 0 Try.underlying22
  have hd : decide ((4 : Int) ≤ (len : Int) - (off : Int)) = true := by rw [decide_eq_true_eq]; omega
  have hmk := made len h w
  have hcp := fun ty => copied ty len cap x zs w hlz hz
  have hbd : Hid (∀ i, i < 4 → 0 ≤ (zs.drop off).getD i 0 ∧ (zs.drop off).getD i 0 ≤ 255) := fun i hi => four_bound hb (by omega)
  have hC : ∀ i, i < 4 → (w.alloc (.cells ((zs.take len).map (Value.int .u8)).toArray 5)).cell? ⟨w.heap.size, off + i, none⟩ = some (.int .u8 ((zs.drop off).getD i 0)) := fun i hi => four_cell hlz (by omega)
  have HC : Hid (∀ i, i < 4 → (w.alloc (.cells ((zs.take len).map (Value.int .u8)).toArray 5)).cell? ⟨w.heap.size, off + i, none⟩ = some (.int .u8 ((zs.drop off).getD i 0))) := hC
  have HZ : Hid (Calls Try.prog 9 #[.slice (some ⟨w.heap.size, 0, none⟩) len len, .int .i64 off, .int .i64 line, .int .i64 col, .int .i64 coff] (w.alloc (.cells ((zs.take len).map (Value.int .u8)).toArray 5)) fun e w' => e = .returned (six 0 false off line col coff) ∧ Below (w.heap.size + 1) (w.alloc (.cells ((zs.take len).map (Value.int .u8)).toArray 5)) w') := by
    have := zhex_no w.heap.size len len off line col coff (zs.drop off) (w.alloc (.cells ((zs.take len).map (Value.int .u8)).toArray 5)) (by simp) h (Nat.le_refl _) (by omega) hs hC hbd.out hall
    refine this.mono ?_
    rintro e w' ⟨he, hb⟩
    exact ⟨he, by simpa using hb⟩
  have HA : Hid (allHex (zs.drop off) 4 = false) := hall
  clear hz hC hall hb
  generalize madeCells #[.int .u8 0] len = C0 at *
  generalize ((zs.take len).map (Value.int .u8)).toArray = C1 at *
  generalize zs.drop off = ws at *
  go_enter Try.func3, Try.ntmps3
  go_wp2_with fail
  refine (bytes8_true _ _ _ _ _ _ _ h _).mono ?_
  rintro e w ⟨rfl, hw'⟩
  subst hw'
  go_wp2_with fail
  refine HZ.out.mono ?_
  rintro e w1 ⟨rfl, hb⟩
  unfold six
  have HC1 : Hid (∀ i, i < 4 → w1.cell? ⟨w.heap.size, off + i, none⟩ = some (.int .u8 (ws.getD i 0))) := fun i hi => (hb.cell (p := ⟨w.heap.size, off + i, none⟩) (by simp)).trans (HC.out i hi)
  clear HZ HC hmk hcp
  go_wp2_with fail
  go_loop [18, 19] (fun o i => ∃ k : Nat, k ≤ 4 ∧ i = .int .i64 k ∧ o = .bool (allHex ws k)) (fun _ i => 4 - (intOf i).toNat)
  case atStart => exact ⟨0, Nat.zero_le _, rfl, rfl⟩
  case round =>
    obtain ⟨k, hk, rfl, rfl⟩ := hrel
    by_cases hlt : k < 4
    · have hcell := HC1.out k hlt
      have hbk := hbd.out k hlt
      have HN : Hid (allHex ws (k + 1) = (allHex ws k && isHex (ws.getD k 0))) := rfl
      generalize ws.getD k 0 = d at *
      cases hx : isHex d
      all_goals
        go_wp2_with (go_at_call 10; refine (isHex_any _ hbk.1 hbk.2 _).mono ?_; rintro e w' ⟨rfl, rfl⟩)
        go_round
        case rel => exact ⟨k + 1, by omega, by go_num, by rw [HN.out, hx]; simp⟩
        case measure => simp [intOf]; omega
    · obtain rfl : k = 4 := by omega
      have hf := HA.out
      go_wp2
      go_ret
      exact ⟨by simp, ((Below.refl _ _).alloc (Nat.le_refl _) _).trans (hb.mono (by simp))⟩
end Go.Proofs.Qxb6619375a
