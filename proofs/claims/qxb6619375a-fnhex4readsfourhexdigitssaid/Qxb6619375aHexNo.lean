/-
  THE CONTRACT of hex4 where one of the four bytes is no hex digit (seat b6619375a).
-/
import Derived.Test.Qxb6619375aHex
namespace Go.Proofs.Qxb6619375a
open Go.RowKit
set_option linter.unusedVariables false
/-- What the loop of hex4 keeps, till a byte is no hex digit. -/
def Rel27n (zs : List Int) (c i : Value) : Prop := ∃ (k : Nat) (v : Int), k ≤ 4 ∧ i = .int .i64 k ∧ c = .int .i32 v ∧ Hid (v = hval zs k ∧ allHex zs k = true)
theorem Rel27n.next {zs : List Int} {k : Nat} {v d e : Int} (hk : k < 4) (hn : hval zs (k + 1) = v * 16 + hexv d) (ha : allHex zs (k + 1) = true) (he : hexv d = e) (h0 : 0 ≤ v) (h1 : v < 4096) (h2 : 0 ≤ e) (h3 : e < 16) :
    Rel27n zs (.int .i32 (bits .or .i32 (v * 16) e)) (.int .i64 ((k : Int) + 1)) :=
  ⟨k + 1, _, by omega, by go_num, rfl, show _ ∧ _ from ⟨by rw [or16 v e h0 h1 h2 h3, hn, he], ha⟩⟩
set_option maxRecDepth 100000 in
set_option maxHeartbeats 1000000 in
theorem hex4_no (b len cap g off : Nat) (zs : List Int) (w : World) (hc0 : w.cell? ⟨b, 0, none⟩ = some (.slice (some ⟨g, 0, none⟩) len cap)) (hc1 : w.cell? ⟨b, 1, none⟩ = some (.int .i64 off)) (hf1 : w.frozen? ⟨b, 1, none⟩ = false)
    (hl : len ≤ 1048576) (hlc : len ≤ cap) (hcm : cap ≤ 9223372036854775807) (hs : off + 4 ≤ len) (hz : ∀ i, i < 4 → w.cell? ⟨g, off + i, none⟩ = some (.int .u8 (zs.getD i 0)))
    (hb : ∀ i, i < 4 → 0 ≤ zs.getD i 0 ∧ zs.getD i 0 ≤ 255) (hall : allHex zs 4 = false) :
    Calls Try.prog 27 #[.pointer (some ⟨b, 0, none⟩)] w fun e w' => e = .returned (.tuple #[.int .i32 0, .bool false]) ∧ ∃ n, w' = w.drewN n := by
  have b1 : (0 : Int) ≤ (off : Int) := by omega
  have b2 : (off : Int) ≤ (off : Int) + 4 := by omega
  have b3 : (off : Int) + 4 ≤ (cap : Int) := by omega
  have H : Hid ((∀ i, i < 4 → w.cell? ⟨g, off + i, none⟩ = some (.int .u8 (zs.getD i 0))) ∧ (∀ i, i < 4 → 0 ≤ zs.getD i 0 ∧ zs.getD i 0 ≤ 255) ∧ allHex zs 4 = false) := ⟨hz, hb, hall⟩
  clear hz hb hall
  go_enter Try.func27, Try.ntmps27
  go_wp2
  go_quiet (fail)
  go_wp2
  go_quiet (fail)
  go_wp2
  go_loop [2, 3, 4, 6, 33] (fun _ _ c _ i => Rel27n zs c i) (fun _ _ _ _ i => 4 - (intOf i).toNat)
  case atStart => exact ⟨0, 0, Nat.zero_le _, rfl, rfl, show _ ∧ _ from ⟨rfl, rfl⟩⟩
  case round =>
    obtain ⟨k, v, hk, rfl, rfl, hv⟩ := hrel
    by_cases hlt : k < 4
    · have hcell := H.out.1 k hlt
      have hbd := H.out.2.1 k hlt
      have hr := hval_range4 hv.out.2 (by omega)
      have HN : Hid (hval zs (k + 1) = v * 16 + hexv (zs.getD k 0)) := by rw [hv.out.1]; rfl
      have HA0 : Hid (isHex (zs.getD k 0) = true → allHex zs (k + 1) = true) := fun h => by simp only [allHex, Bool.and_eq_true]; exact ⟨hv.out.2, h⟩
      rw [← hv.out.1] at hr
      obtain ⟨hr0, hr1⟩ := hr
      generalize zs.getD k 0 = d at *
      cases hx : isHex d
      · have hx' : ¬ ((48 ≤ d ∧ d ≤ 57) ∨ (97 ≤ d ∧ d ≤ 102) ∨ (65 ≤ d ∧ d ≤ 70)) := by rw [← isHex_iff, hx]; decide
        rcases (show d < 48 ∨ (57 < d ∧ d < 65) ∨ (70 < d ∧ d < 97) ∨ 102 < d by omega) with y | ⟨y1, y2⟩ | ⟨y1, y2⟩ | y
        all_goals
          clear hx hx'
          go_wp2
          go_ret2
          exact ⟨rfl, _, rfl⟩
      have HA : Hid (allHex zs (k + 1) = true) := HA0.out hx
      rw [isHex_iff] at hx
      rcases hx with ⟨x1, x2⟩ | ⟨x1, x2⟩ | ⟨x1, x2⟩
      · have R : Hid (Rel27n zs (.int .i32 (bits .or .i32 (v * 16) (d - 48))) (.int .i64 ((k : Int) + 1))) := Rel27n.next hlt HN.out HA.out (hexv_dig d x1 x2) hr0 hr1 (by omega) (by omega)
        go_wp2
        go_round
        case rel => first | exact R.out | exact ⟨_, _, _, _, _, R.out, rfl, rfl, rfl, rfl, rfl⟩
        case measure => simp [intOf]; omega
      · have R : Hid (Rel27n zs (.int .i32 (bits .or .i32 (v * 16) (d - 97 + 10))) (.int .i64 ((k : Int) + 1))) := Rel27n.next hlt HN.out HA.out (hexv_low d x1 x2) hr0 hr1 (by omega) (by omega)
        go_wp2
        go_round
        case rel => first | exact R.out | exact ⟨_, _, _, _, _, R.out, rfl, rfl, rfl, rfl, rfl⟩
        case measure => simp [intOf]; omega
      · have R : Hid (Rel27n zs (.int .i32 (bits .or .i32 (v * 16) (d - 65 + 10))) (.int .i64 ((k : Int) + 1))) := Rel27n.next hlt HN.out HA.out (hexv_up d x1 x2) hr0 hr1 (by omega) (by omega)
        go_wp2
        go_round
        case rel => first | exact R.out | exact ⟨_, _, _, _, _, R.out, rfl, rfl, rfl, rfl, rfl⟩
        case measure => simp [intOf]; omega
    · obtain rfl : k = 4 := by omega
      have := hv.out.2
      rw [H.out.2.2] at this
      cases this
end Go.Proofs.Qxb6619375a
