/-
  THE WALK of FnCountGroupsByThousands (seat b6619242aD).
-/
import Derived.Test.Qxb6619242aDoorItoa
namespace Go.Proofs.Qxb6619242aDoor
open Go.RowKit

theorem size_mk (l : List UInt8) : (⟨l.toArray⟩ : ByteArray).size = l.length := by simp [ByteArray.size]
theorem fn_neg (n : Int) (h : n < 0) (w : World) : Calls Tryd.prog 3 #[.int .i64 n] w fun e w' => e = .returned (.bool true) ∧ Below w.heap.size w w' := by
  go_enter Tryd.func3, Tryd.ntmps3
  go_wp2
  go_ret
  exact ⟨rfl, Below.refl _ _⟩
set_option maxRecDepth 100000 in
set_option maxHeartbeats 400000 in
theorem fn_small (n : Nat) (h : n < 1000) (w : World) (htab : Lib.TabIs Tryd.prog w powName .u64 Lib.pow10Tab) :
    Calls Tryd.prog 3 #[.int .i64 n] w fun e w' => e = .returned (.bool true) ∧ Below w.heap.size w w' := by
  have HC : Hid (Calls Tryd.prog 4 #[.int .i64 n] w fun e w' => e = .returned (.string ⟨(cnt n).toArray⟩) ∧ Below w.heap.size w w') := zcount_any itoa_said n (by omega) w htab
  have HD : Hid (∀ w, Calls Tryd.prog 5 #[.int .i64 n] w fun e w' => e = .returned (.string ⟨(Lib.decDigits n).toArray⟩) ∧ Below w.heap.size w w') := fun w => decimal_any n (by omega) w
  rw [cnt_small n h] at HC
  clear htab
  generalize (⟨(Lib.decDigits n).toArray⟩ : ByteArray) = c at *
  go_enter Tryd.func3, Tryd.ntmps3
  go_wp2_with (first | (go_at_call 4; refine HC.out.mono ?_; rintro e w1 ⟨rfl, hb1⟩) | (go_at_call 5; refine (HD.out _).mono ?_; rintro e w2 ⟨rfl, hb2⟩))
  go_ret
  exact ⟨by simp, hb1.trans (hb2.mono hb1.size)⟩
set_option maxRecDepth 100000 in
set_option maxHeartbeats 400000 in
theorem fn_big (n : Nat) (h : 1000 ≤ n) (h1 : n ≤ 9223372036854775807) (w : World) (htab : Lib.TabIs Tryd.prog w powName .u64 Lib.pow10Tab) :
    Calls Tryd.prog 3 #[.int .i64 n] w fun e w' => e = .returned (.bool true) ∧ Below w.heap.size w w' := by
  have hT : Hid (Lib.TabBelow Tryd.prog w.heap.size w powName .u64 Lib.pow10Tab) := Lib.tabBelow_of_tabIs htab
  have HC : Hid (Calls Tryd.prog 4 #[.int .i64 n] w fun e w' => e = .returned (.string ⟨(cnt n).toArray⟩) ∧ Below w.heap.size w w') := zcount_any itoa_said n h1 w htab
  have HC2 : Hid (∀ w, Lib.TabIs Tryd.prog w powName .u64 Lib.pow10Tab → Calls Tryd.prog 4 #[.int .i64 ((n : Int) / 1000)] w fun e w' => e = .returned (.string ⟨(cnt (n / 1000)).toArray⟩) ∧ Below w.heap.size w w') := fun w ht => zcount_any itoa_said (n / 1000) (by omega) w ht
  have H3 : Hid (∀ w, Calls Tryd.prog 6 #[.int .i64 ((n : Int) % 1000)] w fun e w' => e = .returned (.string ⟨(three (n % 1000)).toArray⟩) ∧ Below w.heap.size w w') := fun w => three_any (n % 1000) (by omega) w
  have s1 : (⟨(cnt (n / 1000)).toArray⟩ : ByteArray).size ≤ 42 := by rw [size_mk]; exact cnt_length _ (by omega)
  have s2 : (⟨(three (n % 1000)).toArray⟩ : ByteArray).size ≤ 3 := by rw [size_mk]; exact Nat.le_refl _
  have heq : ((⟨(cnt n).toArray⟩ : ByteArray).toList == ((⟨(cnt (n / 1000)).toArray⟩ : ByteArray) ++ ⟨#[44]⟩ ++ (⟨(three (n % 1000)).toArray⟩ : ByteArray)).toList) = true := by
    rw [beq_iff_eq, Lib.toList_data, Lib.toList_data, cnt_big n h]
    simp
  clear htab
  generalize (⟨(cnt n).toArray⟩ : ByteArray) = c at *
  generalize (⟨(cnt (n / 1000)).toArray⟩ : ByteArray) = c1 at *
  generalize (⟨(three (n % 1000)).toArray⟩ : ByteArray) = c3 at *
  go_enter Tryd.func3, Tryd.ntmps3
  go_wp2_with fail
  refine HC.out.mono ?_
  rintro e w1 ⟨rfl, hb1⟩
  go_wp2_with fail
  refine (HC2.out _ (hT.out _ hb1)).mono ?_
  rintro e w2 ⟨rfl, hb2⟩
  go_wp2_with fail
  refine (H3.out _).mono ?_
  rintro e w3 ⟨rfl, hb3⟩
  go_wp2_with fail
  go_ret
  exact ⟨rfl, (hb1.trans (hb2.mono hb1.size)).trans (hb3.mono (Nat.le_trans hb1.size hb2.size))⟩
theorem fn_any (n : Int) (hn : n ≤ 9223372036854775807) (w : World) (htab : Lib.TabIs Tryd.prog w powName .u64 Lib.pow10Tab) :
    Calls Tryd.prog 3 #[.int .i64 n] w fun e w' => e = .returned (.bool true) ∧ Below w.heap.size w w' := by
  by_cases h : n < 0
  · exact fn_neg n h w
  · obtain ⟨m, rfl⟩ : ∃ m : Nat, n = m := ⟨n.toNat, by omega⟩
    by_cases h2 : m < 1000
    · exact fn_small m h2 w htab
    · exact fn_big m (by omega) (by omega) w htab
end Go.Proofs.Qxb6619242aDoor
