/-
  THE WALK of FnHex4ReadsFourHexDigits where four hex digits are read (seat b6619375a).
-/
import Derived.Test.Qxb6619375aHexLaw
namespace Go.Proofs.Qxb6619375a
open Go.RowKit
set_option linter.unusedVariables false
theorem digit_at (x d : Int) (h0 : 0 ≤ x) (h1 : x < 2147483648) (hx : x % 16 = hexv d) (hd0 : 0 ≤ d) (hd1 : d ≤ 255) (hh : isHex d = true) :
    ∃ m : Nat, ∃ hm : m < 16, bits .and .i32 x 15 = (m : Int) ∧ ((hexLower[m]'hm).toNat : Int) = lower d := by
  have hr := hexv_range d hh
  refine ⟨(hexv d).toNat, by omega, ?_, hex_back d hd0 hd1 hh _⟩
  rw [and15 x h0 h1, hx]
  omega
theorem hval4 (ws : List Int) : hval ws 4 = ((hexv (ws.getD 0 0) * 16 + hexv (ws.getD 1 0)) * 16 + hexv (ws.getD 2 0)) * 16 + hexv (ws.getD 3 0) := by
  have e : hval ws 4 = (((0 * 16 + hexv (ws.getD 0 0)) * 16 + hexv (ws.getD 1 0)) * 16 + hexv (ws.getD 2 0)) * 16 + hexv (ws.getD 3 0) := rfl
  rw [e]; omega
set_option maxRecDepth 100000 in
set_option maxHeartbeats 2000000 in
/-- Four hex digits. -/
theorem law_yes (x : Addr) (len cap off : Nat) (line col coff : Int) (zs : List Int) (h : len ≤ 1048576) (hs : off + 4 ≤ len) (w : World)
    (hlz : len ≤ zs.length) (hz : ∀ i, i < zs.length → w.cell? (x.add i) = some (.int .u8 (zs.getD i 0))) (hb : ∀ n ∈ zs, 0 ≤ n ∧ n ≤ 255) (hall : allHex (zs.drop off) 4 = true) :
    Calls Try.prog 3 #[.slice (some x) len cap, .int .i64 off, .int .i64 line, .int .i64 col, .int .i64 coff] w fun e w' => e = .returned (.bool true) ∧ Below w.heap.size w w' := by
  have hnn := fun w => run_neq_slice_nil_any (P := Try.prog) w 22 5 (some x) len cap 0 0 Try.underlying22
  have hd : decide ((4 : Int) ≤ (len : Int) - (off : Int)) = true := by rw [decide_eq_true_eq]; omega
  have hmk := made len h w
  have hcp := fun ty => copied ty len cap x zs w hlz hz
  have hbd : Hid (∀ i, i < 4 → 0 ≤ (zs.drop off).getD i 0 ∧ (zs.drop off).getD i 0 ≤ 255) := fun i hi => four_bound hb (by omega)
  have hC : ∀ i, i < 4 → (w.alloc (.cells ((zs.take len).map (Value.int .u8)).toArray 5)).cell? ⟨w.heap.size, off + i, none⟩ = some (.int .u8 ((zs.drop off).getD i 0)) := fun i hi => four_cell hlz (by omega)
  have HC : Hid (∀ i, i < 4 → (w.alloc (.cells ((zs.take len).map (Value.int .u8)).toArray 5)).cell? ⟨w.heap.size, off + i, none⟩ = some (.int .u8 ((zs.drop off).getD i 0))) := hC
  have HZ : Hid (Calls Try.prog 9 #[.slice (some ⟨w.heap.size, 0, none⟩) len len, .int .i64 off, .int .i64 line, .int .i64 col, .int .i64 coff] (w.alloc (.cells ((zs.take len).map (Value.int .u8)).toArray 5)) fun e w' => e = .returned (six (hval (zs.drop off) 4) true ((off : Int) + 4) line col coff) ∧ Below (w.heap.size + 1) (w.alloc (.cells ((zs.take len).map (Value.int .u8)).toArray 5)) w') := by
    have := zhex_yes w.heap.size len len off line col coff (zs.drop off) (w.alloc (.cells ((zs.take len).map (Value.int .u8)).toArray 5)) (by simp) h (Nat.le_refl _) (by omega) hs hC hbd.out hall
    refine this.mono ?_
    rintro e w' ⟨he, hb⟩
    exact ⟨he, by simpa using hb⟩
  have HA : Hid (allHex (zs.drop off) 4 = true) := hall
  clear hz hC hall hb
  generalize madeCells #[.int .u8 0] len = C0 at *
  generalize ((zs.take len).map (Value.int .u8)).toArray = C1 at *
  generalize zs.drop off = ws at *
  go_enter Try.func3, Try.ntmps3
  go_wp2_with fail
  refine (bytes8_true _ _ _ _ _ _ _ h _).mono ?_
  rintro e w ⟨rfl, hw'⟩
  subst hw'
  go_wp2_with fail
  refine HZ.out.mono ?_
  rintro e w1 ⟨rfl, hb⟩
  unfold six
  have HC1 : Hid (∀ i, i < 4 → w1.cell? ⟨w.heap.size, off + i, none⟩ = some (.int .u8 (ws.getD i 0))) := fun i hi => (hb.cell (p := ⟨w.heap.size, off + i, none⟩) (by simp)).trans (HC.out i hi)
  clear HZ HC hmk hcp
  go_wp2_with fail
  go_loop [18, 19] (fun o i => ∃ k : Nat, k ≤ 4 ∧ i = .int .i64 k ∧ o = .bool true) (fun _ i => 4 - (intOf i).toNat)
  case atStart => exact ⟨0, Nat.zero_le _, rfl, rfl⟩
  case round =>
    obtain ⟨k, hk, rfl, rfl⟩ := hrel
    by_cases hlt : k < 4
    · have hcell := HC1.out k hlt
      have hbk := hbd.out k hlt
      have hx := allHex_lt HA.out hlt
      generalize ws.getD k 0 = d at *
      go_wp2_with (go_at_call 10; refine (isHex_any _ hbk.1 hbk.2 _).mono ?_; rintro e w' ⟨rfl, rfl⟩)
      go_round
      case rel => exact ⟨k + 1, by omega, by go_num, rfl⟩
      case measure => simp [intOf]; omega
    · obtain rfl : k = 4 := by omega
      have hr := hval_range HA.out
      have hv0 : 0 ≤ hval ws 4 := hr.1
      have hv1 : hval ws 4 ≤ 65535 := by have := hr.2; simp at this; omega
      clear hr
      have HV : Hid (hval ws 4 = ((hexv (ws.getD 0 0) * 16 + hexv (ws.getD 1 0)) * 16 + hexv (ws.getD 2 0)) * 16 + hexv (ws.getD 3 0)) := hval4 ws
      generalize hval ws 4 = c at *
      go_wp2_with fail
      go_loop [20] (fun i => ∃ k : Nat, k ≤ 4 ∧ i = .int .i64 k) (fun i => 4 - (intOf i).toNat)
      case atStart => exact ⟨0, Nat.zero_le _, rfl⟩
      case round =>
        obtain ⟨k, hk, rfl⟩ := hrel
        by_cases hlt : k < 4
        · rcases (show k = 0 ∨ k = 1 ∨ k = 2 ∨ k = 3 by omega) with rfl | rfl | rfl | rfl
          · have hcell : w1.cell? ⟨w.heap.size, off, none⟩ = some (.int .u8 (ws.getD 0 0)) := HC1.out 0 (by omega)
            have hbk := hbd.out 0 (by omega)
            obtain ⟨m, hm, hbit, ht⟩ := digit_at (c / 4096) (ws.getD 0 0) (by omega) (by omega) (by rw [HV.out]; have r0 := hexv_range _ (allHex_lt HA.out (show 0 < 4 by omega)); have r1 := hexv_range _ (allHex_lt HA.out (show 1 < 4 by omega)); have r2 := hexv_range _ (allHex_lt HA.out (show 2 < 4 by omega)); have r3 := hexv_range _ (allHex_lt HA.out (show 3 < 4 by omega)); omega) hbk.1 hbk.2 (allHex_lt HA.out (show 0 < 4 by omega))
            generalize ws.getD 0 0 = d at *
            by_cases hu : 65 ≤ d ∧ d ≤ 70
            · obtain ⟨hu1, hu2⟩ := hu
              have ht' : (((hexLower[m]'hm).toNat : Int) != d - 65 + 97) = false := by rw [ht, lower, if_pos ⟨hu1, hu2⟩]; simp; omega
              clear ht
              unfold hexLower at ht'
              go_wp2
              go_round
              case rel => exact ⟨1, by omega, by go_num⟩
              case measure => simp [intOf]
            · have ht' : (((hexLower[m]'hm).toNat : Int) != d) = false := by rw [ht, lower, if_neg hu]; simp
              clear ht
              unfold hexLower at ht'
              rcases (show d < 65 ∨ 70 < d by omega) with hu1 | hu1
              all_goals
                go_wp2
                go_round
                case rel => exact ⟨1, by omega, by go_num⟩
                case measure => simp [intOf]
          · have hcell : w1.cell? ⟨w.heap.size, off + 1, none⟩ = some (.int .u8 (ws.getD 1 0)) := HC1.out 1 (by omega)
            have hbk := hbd.out 1 (by omega)
            obtain ⟨m, hm, hbit, ht⟩ := digit_at (c / 256) (ws.getD 1 0) (by omega) (by omega) (by rw [HV.out]; have r0 := hexv_range _ (allHex_lt HA.out (show 0 < 4 by omega)); have r1 := hexv_range _ (allHex_lt HA.out (show 1 < 4 by omega)); have r2 := hexv_range _ (allHex_lt HA.out (show 2 < 4 by omega)); have r3 := hexv_range _ (allHex_lt HA.out (show 3 < 4 by omega)); omega) hbk.1 hbk.2 (allHex_lt HA.out (show 1 < 4 by omega))
            generalize ws.getD 1 0 = d at *
            by_cases hu : 65 ≤ d ∧ d ≤ 70
            · obtain ⟨hu1, hu2⟩ := hu
              have ht' : (((hexLower[m]'hm).toNat : Int) != d - 65 + 97) = false := by rw [ht, lower, if_pos ⟨hu1, hu2⟩]; simp; omega
              clear ht
              unfold hexLower at ht'
              go_wp2
              go_round
              case rel => exact ⟨2, by omega, by go_num⟩
              case measure => simp [intOf]
            · have ht' : (((hexLower[m]'hm).toNat : Int) != d) = false := by rw [ht, lower, if_neg hu]; simp
              clear ht
              unfold hexLower at ht'
              rcases (show d < 65 ∨ 70 < d by omega) with hu1 | hu1
              all_goals
                go_wp2
                go_round
                case rel => exact ⟨2, by omega, by go_num⟩
                case measure => simp [intOf]
          · have hcell : w1.cell? ⟨w.heap.size, off + 2, none⟩ = some (.int .u8 (ws.getD 2 0)) := HC1.out 2 (by omega)
            have hbk := hbd.out 2 (by omega)
            obtain ⟨m, hm, hbit, ht⟩ := digit_at (c / 16) (ws.getD 2 0) (by omega) (by omega) (by rw [HV.out]; have r0 := hexv_range _ (allHex_lt HA.out (show 0 < 4 by omega)); have r1 := hexv_range _ (allHex_lt HA.out (show 1 < 4 by omega)); have r2 := hexv_range _ (allHex_lt HA.out (show 2 < 4 by omega)); have r3 := hexv_range _ (allHex_lt HA.out (show 3 < 4 by omega)); omega) hbk.1 hbk.2 (allHex_lt HA.out (show 2 < 4 by omega))
            generalize ws.getD 2 0 = d at *
            by_cases hu : 65 ≤ d ∧ d ≤ 70
            · obtain ⟨hu1, hu2⟩ := hu
              have ht' : (((hexLower[m]'hm).toNat : Int) != d - 65 + 97) = false := by rw [ht, lower, if_pos ⟨hu1, hu2⟩]; simp; omega
              clear ht
              unfold hexLower at ht'
              go_wp2
              go_round
              case rel => exact ⟨3, by omega, by go_num⟩
              case measure => simp [intOf]
            · have ht' : (((hexLower[m]'hm).toNat : Int) != d) = false := by rw [ht, lower, if_neg hu]; simp
              clear ht
              unfold hexLower at ht'
              rcases (show d < 65 ∨ 70 < d by omega) with hu1 | hu1
              all_goals
                go_wp2
                go_round
                case rel => exact ⟨3, by omega, by go_num⟩
                case measure => simp [intOf]
          · have hcell : w1.cell? ⟨w.heap.size, off + 3, none⟩ = some (.int .u8 (ws.getD 3 0)) := HC1.out 3 (by omega)
            have hbk := hbd.out 3 (by omega)
            obtain ⟨m, hm, hbit, ht⟩ := digit_at (c) (ws.getD 3 0) (by omega) (by omega) (by rw [HV.out]; have r0 := hexv_range _ (allHex_lt HA.out (show 0 < 4 by omega)); have r1 := hexv_range _ (allHex_lt HA.out (show 1 < 4 by omega)); have r2 := hexv_range _ (allHex_lt HA.out (show 2 < 4 by omega)); have r3 := hexv_range _ (allHex_lt HA.out (show 3 < 4 by omega)); omega) hbk.1 hbk.2 (allHex_lt HA.out (show 3 < 4 by omega))
            generalize ws.getD 3 0 = d at *
            by_cases hu : 65 ≤ d ∧ d ≤ 70
            · obtain ⟨hu1, hu2⟩ := hu
              have ht' : (((hexLower[m]'hm).toNat : Int) != d - 65 + 97) = false := by rw [ht, lower, if_pos ⟨hu1, hu2⟩]; simp; omega
              clear ht
              unfold hexLower at ht'
              go_wp2
              go_round
              case rel => exact ⟨4, by omega, by go_num⟩
              case measure => simp [intOf]
            · have ht' : (((hexLower[m]'hm).toNat : Int) != d) = false := by rw [ht, lower, if_neg hu]; simp
              clear ht
              unfold hexLower at ht'
              rcases (show d < 65 ∨ 70 < d by omega) with hu1 | hu1
              all_goals
                go_wp2
                go_round
                case rel => exact ⟨4, by omega, by go_num⟩
                case measure => simp [intOf]
        · go_wp2
          go_ret
          exact ⟨rfl, ((Below.refl _ _).alloc (Nat.le_refl _) _).trans (hb.mono (by simp))⟩
end Go.Proofs.Qxb6619375a
