/-
  THE CONTRACTS of isHexByte, hex4 and ZZHex4 (seat b6619375a).
-/
import Derived.Test.Qxb6619375aRows
import Derived.Test.Qxb6619375aHexPlain
import Derived.WalkKit
import Derived.ProofKit
import Derived.WalkLawsBesides
import Derived.WalkSpells
import Derived.Deep.QuietTactic
import Derived.BigQuiet
import Derived.Laws.BitsLemmas
namespace Go.Proofs.Qxb6619375a
open Go.RowKit
set_option linter.unusedVariables false

theorem or16 (x y : Int) (h0 : 0 ≤ x) (h1 : x < 4096) (h2 : 0 ≤ y) (h3 : y < 16) : bits .or .i32 (x * 16) y = x * 16 + y :=
  bits_join .i32 31 (by decide) wraps_i32 4 (x * 16) y (by omega) (by omega) (by omega) h2 h3 (by omega)
theorem and15 (x : Int) (h0 : 0 ≤ x) (h1 : x < 2147483648) : bits .and .i32 x 15 = x % 16 :=
  bits_mask .i32 31 (by decide) wraps_i32 4 (by decide) x h0 h1

set_option maxRecDepth 100000 in
set_option maxHeartbeats 400000 in
theorem isHex_any (b : Int) (h0 : 0 ≤ b) (h1 : b ≤ 255) (w : World) :
    Calls Try.prog 10 #[.int .u8 b] w fun e w' => e = .returned (.bool (isHex b)) ∧ w' = w := by
  go_enter Try.func10, Try.ntmps10
  go_wp2
  go_loop [3] (fun i => ∃ k : Nat, k ≤ 22 ∧ i = .int .i64 k ∧ Hid (∀ j (_ : j < k) (hj : j < 22), (((hexAll[j]'hj).toNat : Int) == b) = false)) (fun i => 22 - (intOf i).toNat)
  case atStart => exact ⟨0, Nat.zero_le _, rfl, fun j hj => by omega⟩
  case round =>
    obtain ⟨k, hk, rfl, H⟩ := hrel
    by_cases hlt : k < 22
    · cases ht : (((hexAll[k]'hlt).toNat : Int) == b)
      · have HT : Hid ((((hexAll[k]'hlt).toNat : Int) == b) = false) := ht
        unfold hexAll at ht
        go_wp2
        go_round
        case rel =>
          refine ⟨k + 1, by omega, by go_num, ?_⟩
          intro j hj hj2
          by_cases e : j < k
          · exact H.out j e hj2
          · obtain rfl : j = k := by omega
            exact HT
        case measure => simp [intOf]; omega
      · have HT : Hid (isHex b = true) := hex_hit k hlt b ht
        unfold hexAll at ht
        go_wp2
        go_ret
        exact ⟨by rw [HT.out]; rfl, rfl⟩
    · have HT : Hid (isHex b = false) := hex_none b h0 h1 (fun j hj => H.out j (by omega) hj)
      go_wp2
      go_ret
      exact ⟨by rw [HT.out]; rfl, rfl⟩

set_option maxRecDepth 100000 in
set_option maxHeartbeats 400000 in
theorem hex4_short (b len cap : Nat) (a : Option Addr) (off : Int) (w : World) (hc0 : w.cell? ⟨b, 0, none⟩ = some (.slice a len cap)) (hc1 : w.cell? ⟨b, 1, none⟩ = some (.int .i64 off))
    (h0 : 0 ≤ off) (h1 : off ≤ 9223372036854775807) (hl : len ≤ 1048576) (hs : (len : Int) - off < 4) :
    Calls Try.prog 27 #[.pointer (some ⟨b, 0, none⟩)] w fun e w' => e = .returned (.tuple #[.int .i32 0, .bool false]) ∧ ∃ n, w' = w.drewN n := by
  go_enter Try.func27, Try.ntmps27
  go_wp2
  go_quiet (fail)
  go_wp2
  go_ret2
  exact ⟨rfl, _, rfl⟩

/-- What the loop of hex4 keeps. -/
def Rel27 (zs : List Int) (c i : Value) : Prop := ∃ (k : Nat) (v : Int), k ≤ 4 ∧ i = .int .i64 k ∧ c = .int .i32 v ∧ Hid (v = hval zs k)
theorem Rel27.next {zs : List Int} {k : Nat} {v d e : Int} (hk : k < 4) (hn : hval zs (k + 1) = v * 16 + hexv d) (he : hexv d = e) (h0 : 0 ≤ v) (h1 : v < 4096) (h2 : 0 ≤ e) (h3 : e < 16) :
    Rel27 zs (.int .i32 (bits .or .i32 (v * 16) e)) (.int .i64 ((k : Int) + 1)) :=
  ⟨k + 1, _, by omega, by go_num, rfl, show _ = _ by rw [or16 v e h0 h1 h2 h3, hn, he]⟩
set_option maxRecDepth 100000 in
set_option maxHeartbeats 1000000 in
theorem hex4_yes (b len cap g off : Nat) (zs : List Int) (w : World) (hc0 : w.cell? ⟨b, 0, none⟩ = some (.slice (some ⟨g, 0, none⟩) len cap)) (hc1 : w.cell? ⟨b, 1, none⟩ = some (.int .i64 off)) (hf1 : w.frozen? ⟨b, 1, none⟩ = false)
    (hl : len ≤ 1048576) (hlc : len ≤ cap) (hcm : cap ≤ 9223372036854775807) (hs : off + 4 ≤ len) (hz : ∀ i, i < 4 → w.cell? ⟨g, off + i, none⟩ = some (.int .u8 (zs.getD i 0)))
    (hb : ∀ i, i < 4 → 0 ≤ zs.getD i 0 ∧ zs.getD i 0 ≤ 255) (hall : allHex zs 4 = true) :
    Calls Try.prog 27 #[.pointer (some ⟨b, 0, none⟩)] w fun e w' => e = .returned (.tuple #[.int .i32 (hval zs 4), .bool true]) ∧ ∃ n, w' = (w.setCell ⟨b, 1, none⟩ (.int .i64 ((off : Int) + 4))).drewN n := by
  have b1 : (0 : Int) ≤ (off : Int) := by omega
  have b2 : (off : Int) ≤ (off : Int) + 4 := by omega
  have b3 : (off : Int) + 4 ≤ (cap : Int) := by omega
  have H : Hid ((∀ i, i < 4 → w.cell? ⟨g, off + i, none⟩ = some (.int .u8 (zs.getD i 0))) ∧ (∀ i, i < 4 → 0 ≤ zs.getD i 0 ∧ zs.getD i 0 ≤ 255) ∧ allHex zs 4 = true) := ⟨hz, hb, hall⟩
  clear hz hb hall
  go_enter Try.func27, Try.ntmps27
  go_wp2
  go_quiet (fail)
  go_wp2
  go_quiet (fail)
  go_wp2
  go_loop [2, 3, 4, 6, 33] (fun _ _ c _ i => Rel27 zs c i) (fun _ _ _ _ i => 4 - (intOf i).toNat)
  case atStart => exact ⟨0, 0, Nat.zero_le _, rfl, rfl, rfl⟩
  case round =>
    obtain ⟨k, v, hk, rfl, rfl, hv⟩ := hrel
    by_cases hlt : k < 4
    · have hcell := H.out.1 k hlt
      have hbd := H.out.2.1 k hlt
      have hr := hval_range4 (allHex_le H.out.2.2 (show k ≤ 4 by omega)) (by omega)
      have hx := allHex_lt H.out.2.2 hlt
      have HN : Hid (hval zs (k + 1) = v * 16 + hexv (zs.getD k 0)) := by rw [hv.out]; rfl
      rw [← hv.out] at hr
      obtain ⟨hr0, hr1⟩ := hr
      generalize zs.getD k 0 = d at *
      rw [isHex_iff] at hx
      rcases hx with ⟨x1, x2⟩ | ⟨x1, x2⟩ | ⟨x1, x2⟩
      · have R : Hid (Rel27 zs (.int .i32 (bits .or .i32 (v * 16) (d - 48))) (.int .i64 ((k : Int) + 1))) := Rel27.next hlt HN.out (hexv_dig d x1 x2) hr0 hr1 (by omega) (by omega)
        go_wp2
        go_round
        case rel => first | exact R.out | exact ⟨_, _, _, _, _, R.out, rfl, rfl, rfl, rfl, rfl⟩
        case measure => simp [intOf]; omega
      · have R : Hid (Rel27 zs (.int .i32 (bits .or .i32 (v * 16) (d - 97 + 10))) (.int .i64 ((k : Int) + 1))) := Rel27.next hlt HN.out (hexv_low d x1 x2) hr0 hr1 (by omega) (by omega)
        go_wp2
        go_round
        case rel => first | exact R.out | exact ⟨_, _, _, _, _, R.out, rfl, rfl, rfl, rfl, rfl⟩
        case measure => simp [intOf]; omega
      · have R : Hid (Rel27 zs (.int .i32 (bits .or .i32 (v * 16) (d - 65 + 10))) (.int .i64 ((k : Int) + 1))) := Rel27.next hlt HN.out (hexv_up d x1 x2) hr0 hr1 (by omega) (by omega)
        go_wp2
        go_round
        case rel => first | exact R.out | exact ⟨_, _, _, _, _, R.out, rfl, rfl, rfl, rfl, rfl⟩
        case measure => simp [intOf]; omega
    · obtain rfl : k = 4 := by omega
      go_wp2
      go_ret2
      exact ⟨by rw [← hv.out]; rfl, _, rfl⟩
end Go.Proofs.Qxb6619375a
