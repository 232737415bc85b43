/-
  THE CONTRACTS of the functions on the road of the three laws on 'join' (seat b6619251a), and the plain facts on strings that they want.
-/
import Derived.Test.Qxb6619251aRows
import Derived.WalkKit
import Derived.ProofKit
import Derived.WalkLawsBesides
import Derived.WalkSpells
import Derived.Deep.QuietTactic
import Derived.BigQuiet
import Derived.Lib.Strings
namespace Go.Proofs.Qxb6619251a
open Go.RowKit

/-! ### plain -/
/-- Does s end in a slash? -/
def endsB (s : ByteArray) : Bool := s.data.toList.getLast? == some 47
/-- What 'join' answers. -/
def joinB (s t : ByteArray) : ByteArray := if endsB s = true then s ++ t else s ++ ⟨#[47]⟩ ++ t

theorem eqB {s t : ByteArray} (h : s = t) : (s.toList == t.toList) = true := by rw [h]; simp
theorem ext_list {s t : ByteArray} (h : s.data.toList = t.data.toList) : s = t := by
  cases s; cases t; simp at h; rw [h]
theorem size_list (s : ByteArray) : s.data.toList.length = s.size := (Lib.size_eq s).symm
theorem at_list (s : ByteArray) (k : Nat) (h : k < s.size) : s.data.toList[k]? = some s[k] := by
  rw [List.getElem?_eq_getElem (by rw [size_list]; exact h)]; rfl
theorem append_list (s t : ByteArray) : (s ++ t).data.toList = s.data.toList ++ t.data.toList := by simp
theorem size_append (s t : ByteArray) : (s ++ t).size = s.size + t.size := ByteArray.size_append

theorem last_list (s : ByteArray) (h : 0 < s.size) : s.data.toList.getLast? = some s[s.size - 1] := by
  rw [List.getLast?_eq_getElem?, size_list, at_list s (s.size - 1) (by omega)]
theorem ends_last (s : ByteArray) (h : 0 < s.size) : (((s[s.size - 1]).toNat : Int) == 47) = endsB s := by
  unfold endsB
  rw [last_list s h, Bool.eq_iff_iff]
  simp only [beq_iff_eq, Option.some.injEq]
  constructor
  · intro e; apply UInt8.toNat_inj.1; show _ = 47; omega
  · intro e; rw [e]; rfl
theorem ends_ext (s : ByteArray) (h : 0 < s.size) : ((s.extract (s.size - 1) s.size).toList == [47]) = endsB s := by
  unfold endsB
  rw [last_list s h, Lib.extract_toList, List.take_of_length_le (by rw [List.length_drop, size_list]; exact Nat.le_refl _)]
  have e : s.data.toList.drop (s.size - 1) = [s[s.size - 1]] := by
    rw [List.drop_eq_getElem_cons (by rw [size_list]; omega), List.drop_eq_nil_of_le (by rw [size_list]; omega)]; rfl
  rw [e, Bool.eq_iff_iff]
  simp
theorem ends_none (s : ByteArray) (h : ¬ 0 < s.size) : endsB s = false := by
  have : s.data.toList = [] := by
    apply List.eq_nil_of_length_eq_zero
    rw [size_list]; omega
  unfold endsB; rw [this]; rfl
theorem ends_pos {s : ByteArray} (h : endsB s = true) : 0 < s.size := by
  apply Classical.byContradiction
  intro hn
  rw [ends_none s hn] at h
  cases h

/-! ### the walks -/
set_option maxHeartbeats 400000 in
theorem ends_any (s : ByteArray) (hs : s.size ≤ 9223372036854775807) (w : World) :
    Calls Try.prog 10 #[.string s] w fun e w' => e = .returned (.bool (endsB s)) ∧ w' = w := by
  by_cases h0 : 0 < s.size
  · have he := ends_last s h0
    go_enter Try.func10, Try.ntmps10
    go_wp2
    go_ret
    exact ⟨rfl, rfl⟩
  · have he := ends_none s h0
    go_enter Try.func10, Try.ntmps10
    go_wp2
    go_ret
    exact ⟨by rw [he]; rfl, rfl⟩

set_option maxHeartbeats 400000 in
theorem join_any (s t : ByteArray) (hs : s.size ≤ 4000000) (ht : t.size ≤ 4000000) (w : World) :
    Calls Try.prog 13 #[.string s, .string t] w fun e w' => e = .returned (.string (joinB s t)) ∧ w' = w := by
  by_cases h0 : 0 < s.size
  · by_cases he : endsB s = true
    · have hx := (ends_ext s h0).trans he
      have hj : Hid (joinB s t = s ++ t) := by unfold joinB; rw [if_pos he]; rfl
      go_enter Try.func13, Try.ntmps13
      go_wp2
      go_ret
      exact ⟨by rw [hj.out]; rfl, rfl⟩
    · have he' : endsB s = false := by simpa using he
      have hx := (ends_ext s h0).trans he'
      have hj : Hid (joinB s t = s ++ ⟨#[47]⟩ ++ t) := by unfold joinB; rw [if_neg he]; rfl
      go_enter Try.func13, Try.ntmps13
      go_wp2
      go_ret
      exact ⟨by rw [hj.out]; rfl, rfl⟩
  · have he := ends_none s h0
    have hj : Hid (joinB s t = s ++ ⟨#[47]⟩ ++ t) := by unfold joinB; rw [if_neg (by rw [he]; decide)]; rfl
    go_enter Try.func13, Try.ntmps13
    go_wp2
    go_ret
    exact ⟨by rw [hj.out]; rfl, rfl⟩

theorem zjoin_any (s t : ByteArray) (hs : s.size ≤ 4000000) (ht : t.size ≤ 4000000) (w : World) :
    Calls Try.prog 7 #[.string s, .string t] w fun e w' => e = .returned (.string (joinB s t)) ∧ w' = w := by
  go_enter Try.func7, Try.ntmps7
  go_wp2_with (go_at_call 13; refine (join_any _ _ hs ht _).mono ?_; rintro e w' ⟨rfl, rfl⟩)
  go_ret
  exact ⟨rfl, rfl⟩

set_option maxHeartbeats 400000 in
theorem prefix_true (s p : ByteArray) (hs : s.size ≤ 9223372036854775807) (hp : p.size ≤ s.size) (hall : ∀ j (h : j < p.size), s[j] = p[j]) (w : World) :
    Calls Try.prog 14 #[.string s, .string p] w fun e w' => e = .returned (.bool true) ∧ ∃ n, w' = w.drewN n := by
  have H : Hid (∀ j (h : j < p.size), s[j] = p[j]) := hall
  clear hall
  go_enter Try.func14, Try.ntmps14
  go_wp2
  go_loopw [5] (fun i wr => ∃ k n : Nat, k ≤ p.size ∧ i = .int .i64 k ∧ wr = w.drewN n) (fun i _ => p.size - (intOf i).toNat)
  case atStart => exact ⟨0, 0, Nat.zero_le _, rfl, rfl⟩
  case round =>
    obtain ⟨k, n, hk, rfl, rfl⟩ := hrel
    by_cases hlt : k < p.size
    · have hks : k < s.size := by omega
      have e := H.out k hlt
      have hne : (((s[k]).toNat : Int) != ((p[k]).toNat : Int)) = false := by rw [e]; simp
      clear e
      go_wp2
      go_quiet (fail)
      go_wp2
      go_roundw
      case rel => exact ⟨k + 1, _, by omega, by go_num, rfl⟩
      case measure => simp [intOf]; omega
    · go_wp2
      go_ret
      exact ⟨rfl, n, rfl⟩

set_option maxHeartbeats 400000 in
theorem suffix_true (s p : ByteArray) (hs : s.size ≤ 9223372036854775807) (hp : p.size ≤ s.size) (hall : ∀ j (h : j < p.size), s[s.size - p.size + j] = p[j]) (w : World) :
    Calls Try.prog 15 #[.string s, .string p] w fun e w' => e = .returned (.bool true) ∧ ∃ n, w' = w.drewN n := by
  have H : Hid (∀ j (h : j < p.size), s[s.size - p.size + j] = p[j]) := hall
  clear hall
  go_enter Try.func15, Try.ntmps15
  go_wp2
  go_loopw [6] (fun i wr => ∃ k n : Nat, k ≤ p.size ∧ i = .int .i64 k ∧ wr = w.drewN n) (fun i _ => p.size - (intOf i).toNat)
  case atStart => exact ⟨0, 0, Nat.zero_le _, rfl, rfl⟩
  case round =>
    obtain ⟨k, n, hk, rfl, rfl⟩ := hrel
    by_cases hlt : k < p.size
    · have hks : s.size - p.size + k < s.size := by omega
      have e := H.out k hlt
      have hne : (((s[s.size - p.size + k]).toNat : Int) != ((p[k]).toNat : Int)) = false := by rw [e]; simp
      clear e
      have b1 : (0 : Int) ≤ (s.size : Int) - (p.size : Int) + (k : Int) := by omega
      have b2 : (s.size : Int) - (p.size : Int) + (k : Int) < (s.size : Int) := by omega
      have hwr : IntKind.i64.wrap ((s.size : Int) - (p.size : Int) + (k : Int)) = (s.size : Int) - (p.size : Int) + (k : Int) :=
        IntWalk.i64_in ((s.size : Int) - (p.size : Int) + (k : Int)) ⟨by omega, by omega⟩
      go_wp2
      go_quiet (fail)
      go_wp2
      go_roundw
      case rel => exact ⟨k + 1, _, by omega, by go_num, rfl⟩
      case measure => simp [intOf]; omega
    · go_wp2
      go_ret
      exact ⟨rfl, n, rfl⟩

set_option maxHeartbeats 400000 in
theorem isJoin_true (p dir name : ByteArray) (hs : p.size ≤ 9000000) (hp1 : dir.size + name.size ≤ p.size)
    (h1 : endsB dir = true → p.size = dir.size + name.size) (h2 : endsB dir = false → p.size = dir.size + name.size + 1)
    (hpre : ∀ j (h : j < dir.size), p[j] = dir[j]) (hsuf : ∀ j (h : j < name.size), p[p.size - name.size + j] = name[j])
    (hpos : 0 < p.size - name.size) (hat : p[p.size - name.size - 1] = 47) (w : World) :
    Calls Try.prog 8 #[.string p, .string dir, .string name] w fun e w' => e = .returned (.bool true) ∧ ∃ n, w' = w.drewN n := by
  have hat' : (((p[p.size - name.size - 1]).toNat : Int) == 47) = true := by rw [hat]; rfl
  have H1 : Hid (∀ j (h : j < dir.size), p[j] = dir[j]) := hpre
  have H2 : Hid (∀ j (h : j < name.size), p[p.size - name.size + j] = name[j]) := hsuf
  clear hpre hsuf hat
  cases he : endsB dir
  all_goals
    rw [he] at h1 h2
    simp at h1 h2
    first | (have hz1 : p.size ≤ dir.size + name.size + 1 := by omega) | skip
    first | (have hz2 : dir.size + name.size + 1 ≤ p.size := by omega) | skip
    first | (have hz3 : p.size ≤ dir.size + name.size := by omega) | skip
    clear h1 h2
    go_enter Try.func8, Try.ntmps8
    go_wp2_with (first | (go_at_call 10; refine (ends_any _ (by omega) _).mono ?_; rintro e w' ⟨rfl, rfl⟩) | (go_at_call 14; refine (prefix_true _ _ (by omega) (by omega) H1.out _).mono ?_; rintro e w' ⟨rfl, n, rfl⟩) | (go_at_call 15; refine (suffix_true _ _ (by omega) (by omega) H2.out _).mono ?_; rintro e w' ⟨rfl, m, rfl⟩))
    go_ret
    exact ⟨rfl, _, rfl⟩
end Go.Proofs.Qxb6619251a
