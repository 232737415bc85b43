/-
  THE CONTRACTS of zzThreeDigits, zzDecimal, count and ZZcount (seat b6619242aD). strconv.Itoa's is taken as a hypothesis here ('ItoaSaid'); the shelf pays it (Qxb6619242aDoorItoa).
-/
import Derived.Test.Qxb6619242aDoorRows
import Derived.Test.Qxb6619242aDoorPlain
import Derived.WalkKit
import Derived.ProofKit
import Derived.WalkLawsBesides
import Derived.WalkSpells
import Derived.Deep.QuietTactic
import Derived.BigQuiet
import Derived.Laws.IdiomStrings
import Derived.Lib.AppendIntMem
namespace Go.Proofs.Qxb6619242aDoor
open Go.RowKit

/-- The listed table's name, off the row's own list. -/
def powName : String := match Rows.fnCountGroupsByThousandsRow.laid with | [_, _, x] => x.1 | _ => ""
/-- What strconv.Itoa does, at a number that is not negative. -/
def ItoaSaid : Prop := ∀ (n : Nat), n ≤ 9223372036854775807 → ∀ (w : World), Lib.TabIs Tryd.prog w powName .u64 Lib.pow10Tab →
  Calls Tryd.prog 8 #[.int .i64 n] w fun e w' => e = .returned (.string ⟨(Lib.decDigits n).toArray⟩) ∧ Below w.heap.size w w'

theorem addr_add (b o j : Nat) : (⟨b, o, none⟩ : Addr).add j = ⟨b, o + j, none⟩ := by
  cases j <;> simp [Addr.add]

/-! ### zzThreeDigits -/
set_option maxHeartbeats 400000 in
theorem three_any (k : Nat) (hk : k < 1000) (w : World) :
    Calls Tryd.prog 6 #[.int .i64 k] w fun e w' => e = .returned (.string ⟨(three k).toArray⟩) ∧ Below w.heap.size w w' := by
  have hc : (convert 25 9 (.slice (some ⟨w.heap.size, 0, none⟩) 3 3)).run Tryd.prog
      (w.alloc (.cells #[.int .u8 (48 + (k : Int) / 100), .int .u8 (48 + (k : Int) / 10 % 10), .int .u8 (48 + (k : Int) % 10)] 26))
      = .ok (.string ⟨(three k).toArray⟩) (w.alloc (.cells #[.int .u8 (48 + (k : Int) / 100), .int .u8 (48 + (k : Int) / 10 % 10), .int .u8 (48 + (k : Int) % 10)] 26)) := by
    refine run_convert_bytes_back _ 25 9 5 ⟨w.heap.size, 0, none⟩ 3 (three k) Tryd.underlying25 Tryd.underlying5 Tryd.underlying9 ?_
    intro j hj
    have hj3 : j < 3 := hj
    match j, hj3 with
    | 0, _ => simp only [three, List.getElem_cons_zero]; rw [ofNat_toNat _ (by omega)]; simp [Addr.add]
    | 1, _ => simp only [three, List.getElem_cons_zero, List.getElem_cons_succ]; rw [ofNat_toNat _ (by omega)]; simp [Addr.add]
    | 2, _ => simp only [three, List.getElem_cons_zero, List.getElem_cons_succ]; rw [ofNat_toNat _ (by omega)]; simp [Addr.add]
  go_enter Tryd.func6, Tryd.ntmps6
  go_wp2
  go_ret
  exact ⟨rfl, (Below.refl _ _).alloc (Nat.le_refl _) _⟩

/-! ### zzDecimal -/
/-- What the loop of zzDecimal keeps. -/
def Dec (n m k : Nat) (ds : List UInt8) (C : Array Value) : Prop :=
  k + ds.length = 24 ∧ C.size = 24 ∧ m < 10 ^ k ∧ dd n = dd m ++ ds ∧ (∀ j (h : j < ds.length), C[k + j]? = some (.int .u8 ds[j].toNat))
theorem Dec.start (n : Nat) (h1 : n ≤ 9223372036854775807) (C : Array Value) (hC : C.size = 24) : Dec n n 24 [] C :=
  ⟨rfl, hC, Nat.lt_of_le_of_lt h1 (by decide), by simp, fun j h => by simp at h⟩
theorem Dec.pos {n m k : Nat} {ds : List UInt8} {C : Array Value} (h : Dec n m k ds C) (hm : 0 < m) : 1 ≤ k := by
  obtain ⟨_, _, h3, _, _⟩ := h
  rcases k with _ | k
  · simp at h3; omega
  · omega
theorem Dec.next {n m k : Nat} {ds : List UInt8} {C : Array Value} (h : Dec n m k ds C) (hm : 0 < m) (hk : 1 ≤ k) :
    Dec n (m / 10) (k - 1) (UInt8.ofNat (48 + m % 10) :: ds) (C.setIfInBounds (k - 1) (.int .u8 (48 + (m : Int) % 10))) := by
  obtain ⟨h1, h2, h3, h4, h5⟩ := h
  refine ⟨by simp; omega, by simpa using h2, ?_, ?_, ?_⟩
  · obtain ⟨k', rfl⟩ : ∃ k', k = k' + 1 := ⟨k - 1, by omega⟩
    rw [Nat.pow_succ] at h3
    simp only [Nat.add_sub_cancel]
    omega
  · rw [h4, dd_step m hm]; simp
  · intro j hj
    rcases j with _ | j
    · simp only [Nat.add_zero, List.getElem_cons_zero]
      rw [Array.getElem?_setIfInBounds_self_of_lt (by omega), ofNat_toNat _ (by omega)]
      simp
    · simp only [List.length_cons] at hj
      simp only [List.getElem_cons_succ]
      rw [Array.getElem?_setIfInBounds_ne (by omega), ← h5 j (by omega)]
      congr 1; omega
theorem Dec.last {n m k : Nat} {ds : List UInt8} {C : Array Value} (h : Dec n m k ds C) (h0 : 0 < n) (hm : ¬ 0 < m) : Lib.decDigits n = ds ∧ k < 24 := by
  obtain ⟨h1, _, _, h4, _⟩ := h
  obtain rfl : m = 0 := by omega
  have e : dd n = Lib.decDigits n := by unfold dd; rw [if_neg (by omega)]
  have e0 : dd 0 = [] := rfl
  rw [e, e0, List.nil_append] at h4
  refine ⟨h4, ?_⟩
  have hl : 0 < (Lib.decDigits n).length := by rw [Lib.decDigits_length]; exact Lib.nDigits_pos n
  rw [h4] at hl
  omega
theorem Tryd.arr24 : Tryd.prog.arrayLen 24 = 24 := by kernel_rfl
theorem Tryd.size24 (w : World) : (sizeOf (Tryd.prog.elem 24)).run Tryd.prog w = .ok 1 w := by kernel_rfl
set_option maxHeartbeats 400000 in
theorem decimal_pos (n : Nat) (h0 : 0 < n) (h1 : n ≤ 9223372036854775807) (w : World) :
    Calls Tryd.prog 5 #[.int .i64 n] w fun e w' => e = .returned (.string ⟨(Lib.decDigits n).toArray⟩) ∧ Below w.heap.size w w' := by
  have hn0 : ((n : Int) == 0) = false := beq_eq_false_iff_ne.2 (by omega)
  go_enter Tryd.func5, Tryd.ntmps5
  go_wp2
  go_loopw [0, 4] (fun n' i wr => ∃ (m k : Nat) (ds : List UInt8) (C : Array Value), n' = .int .i64 m ∧ i = .int .i64 k ∧ k ≤ 24 ∧ m ≤ n ∧ Dec n m k ds C ∧ wr = w.alloc (.cells C 24)) (fun n' _ _ => (intOf n').toNat)
  case atStart => exact ⟨n, 24, [], _, rfl, rfl, Nat.le_refl _, Nat.le_refl _, Dec.start n h1 _ rfl, rfl⟩
  case round =>
    obtain ⟨m, k, ds, C, rfl, rfl, hk, hm, H, rfl⟩ := hrel
    by_cases hp : 0 < m
    · have hk1 : 1 ≤ k := H.pos hp
      obtain ⟨v, hv⟩ : ∃ v, C[k - 1]? = some v := ⟨_, Array.getElem?_eq_getElem (by have := H.2.1; omega)⟩
      go_wp2
      go_roundw
      case rel => exact ⟨m / 10, k - 1, _, _, by go_num, by go_num, by omega, by omega, H.next hp hk1, rfl⟩
      case measure => simp [intOf]; omega
    · obtain ⟨hd, hk24⟩ := H.last h0 hp
      have HD : Hid (Lib.decDigits n = ds) := hd
      clear hd
      have hsl : (Instr.sliceAt 24 (.pointer (some ⟨w.heap.size, 0, none⟩)) (some (.int .i64 k)) none none).run Tryd.prog (w.alloc (.cells C 24)) = .ok (.slice (some ⟨w.heap.size, k, none⟩) (24 - k) (24 - k)) (w.alloc (.cells C 24)) := by
        rw [run_sliceAt_array_l (P := Tryd.prog) (w.alloc (.cells C 24)) 24 ⟨w.heap.size, 0, none⟩ (by kernel_rfl) .i64 k (by omega) (by rw [Tryd.arr24]; omega), Tryd.size24, Tryd.arr24]
        simp only [Result.andThen, slicedAt, Int.toNat_natCast, Nat.mul_one]
        rw [if_neg (by omega), addr_add, Nat.zero_add]
      have hcv : (convert 25 9 (.slice (some ⟨w.heap.size, k, none⟩) (24 - k) (24 - k))).run Tryd.prog (w.alloc (.cells C 24)) = .ok (.string ⟨ds.toArray⟩) (w.alloc (.cells C 24)) := by
        have hl : 24 - k = ds.length := by have := H.1; omega
        rw [hl]
        refine run_convert_bytes_back _ 25 9 5 ⟨w.heap.size, k, none⟩ _ ds Tryd.underlying25 Tryd.underlying5 Tryd.underlying9 ?_
        intro j hj
        rw [← H.2.2.2.2 j hj, addr_add]
        simp
      go_wp2
      go_ret
      exact ⟨by rw [HD.out]; rfl, (Below.refl _ _).alloc (Nat.le_refl _) _⟩
theorem decimal_zero (w : World) : Calls Tryd.prog 5 #[.int .i64 0] w fun e w' => e = .returned (.string ⟨#[48]⟩) ∧ Below w.heap.size w w' := by
  go_enter Tryd.func5, Tryd.ntmps5
  go_wp2
  go_ret
  exact ⟨rfl, Below.refl _ _⟩
theorem decimal_any (n : Nat) (h1 : n ≤ 9223372036854775807) (w : World) :
    Calls Tryd.prog 5 #[.int .i64 n] w fun e w' => e = .returned (.string ⟨(Lib.decDigits n).toArray⟩) ∧ Below w.heap.size w w' := by
  by_cases h : 0 < n
  · exact decimal_pos n h h1 w
  · obtain rfl : n = 0 := by omega
    rw [Lib.decDigits_one (by omega)]
    exact decimal_zero w

/-! ### count -/
theorem below_drewN {B : Nat} {a w : World} (h : Below B a w) (q : Nat) : Below B a (w.drewN q) := ⟨h.os, h.tape, h.output, h.size, h.block⟩
set_option maxHeartbeats 400000 in
theorem count_any (I : ItoaSaid) (n : Nat) (h1 : n ≤ 9223372036854775807) (w : World) (htab : Lib.TabIs Tryd.prog w powName .u64 Lib.pow10Tab) :
    Calls Tryd.prog 7 #[.int .i64 n] w fun e w' => e = .returned (.string ⟨(cnt n).toArray⟩) ∧ Below w.heap.size w w' := by
  have HI : Hid (Calls Tryd.prog 8 #[.int .i64 n] w fun e w' => e = .returned (.string ⟨(Lib.decDigits n).toArray⟩) ∧ Below w.heap.size w w') := I n h1 w htab
  clear htab
  have hlen := digits_le n h1
  have hpos : 1 ≤ (Lib.decDigits n).length := by rw [Lib.decDigits_length]; exact Lib.nDigits_pos n
  have hsz : (⟨(Lib.decDigits n).toArray⟩ : ByteArray).size = (Lib.decDigits n).length := by simp [ByteArray.size]
  have H0 : Hid (grp ((Lib.decDigits n).length - 3) (Lib.decDigits n) = cnt n) := rfl
  generalize hB : (⟨(Lib.decDigits n).toArray⟩ : ByteArray) = B at *
  have eB : B.data.toList = Lib.decDigits n := by rw [← hB]
  rw [← hsz] at hlen hpos H0
  rw [← eB] at H0
  clear hsz hB eB
  go_enter Tryd.func7, Tryd.ntmps7
  go_wp2_with (go_at_call 8; refine HI.out.mono ?_; rintro e w1 ⟨rfl, hb⟩)
  go_loopw [3, 4] (fun s i wr => ∃ (b : ByteArray) (j : Int) (q : Nat), s = .string b ∧ i = .int .i64 j ∧ -3 < j ∧ j ≤ b.size ∧ b.size + j ≤ 42 ∧ Hid (grp j.toNat b.data.toList = cnt n) ∧ wr = w1.drewN q) (fun _ i _ => (intOf i).toNat)
  case atStart =>
    exact ⟨B, _, 0, rfl, rfl, by omega, by omega, by omega, by rw [show ((B.size : Int) - 3).toNat = B.size - 3 by omega]; exact H0, rfl⟩
  case round =>
    obtain ⟨b, j, q, rfl, rfl, hj1, hj2, hj3, H, rfl⟩ := hrel
    by_cases hp : 0 < j
    · have hj4 : 0 ≤ j := by omega
      go_wp2
      go_quiet (fail)
      go_wp2
      go_roundw
      case rel => exact ⟨_, _, q + nq, rfl, rfl, by omega, by rw [ins_size b j.toNat]; omega, by rw [ins_size b j.toNat]; omega, by rw [show (j - 3).toNat = j.toNat - 3 by omega, ins_list b j.toNat, ← grp_pos _ _ (by omega)]; exact H, by simp [World.drewN]⟩
      case measure => simp [intOf]; omega
    · go_wp2
      go_ret
      refine ⟨?_, below_drewN hb _⟩
      have := H.out
      rw [show j.toNat = 0 by omega, grp_zero] at this
      rw [← this, Lib.mk_data]
      rfl
theorem zcount_any (I : ItoaSaid) (n : Nat) (h1 : n ≤ 9223372036854775807) (w : World) (htab : Lib.TabIs Tryd.prog w powName .u64 Lib.pow10Tab) :
    Calls Tryd.prog 4 #[.int .i64 n] w fun e w' => e = .returned (.string ⟨(cnt n).toArray⟩) ∧ Below w.heap.size w w' := by
  have HC : Hid (Calls Tryd.prog 7 #[.int .i64 n] w fun e w' => e = .returned (.string ⟨(cnt n).toArray⟩) ∧ Below w.heap.size w w') := count_any I n h1 w htab
  clear htab
  go_enter Tryd.func4, Tryd.ntmps4
  go_wp2_with (go_at_call 7; refine HC.out.mono ?_; rintro e w1 ⟨rfl, hb⟩)
  go_ret
  exact ⟨rfl, hb⟩
end Go.Proofs.Qxb6619242aDoor
