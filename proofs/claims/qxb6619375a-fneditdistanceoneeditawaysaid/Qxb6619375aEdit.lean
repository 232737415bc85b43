/-
  WHAT THE THREE LAWS ON editDistance SHARE (seat b6619375a): the bounds, min3, validRune, strings made of runes.
-/
import Derived.Test.Qxb6619375aDist
namespace Go.Proofs.Qxb6619375a
open Go.RowKit
set_option linter.unusedVariables false

/-- The distance of two strings, as ZZEditDistance gives it. -/
def dl (s t : ByteArray) : Int := (Lev.lev (runes s) (runes t) : Nat)
theorem dl_range (s t : ByteArray) (hs : s.size ≤ 100000) (ht : t.size ≤ 100000) : 0 ≤ dl s t ∧ dl s t ≤ 200000 := by
  have h := Lev.lev_le_max (runes s) (runes t)
  have h1 := runes_length s
  have h2 := runes_length t
  unfold dl
  omega
theorem zdl (s t : ByteArray) (hs : s.size ≤ 100000) (ht : t.size ≤ 100000) (w : World) :
    Calls Try.prog 20 #[.string s, .string t] w fun e w' => e = .returned (.int .i64 (dl s t)) ∧ Below w.heap.size w w' := zdist_any s t hs ht w

theorem bytes19_true (a b : ByteArray) (h : a.size + b.size ≤ 1048576) (w : World) :
    Calls Try.prog 19 #[.string a, .string b] w fun e w' => e = .returned (.bool true) ∧ w' = w := by
  go_enter Try.func19, Try.ntmps19
  go_wp2
  go_ret
  exact ⟨rfl, rfl⟩
theorem bytes19_false (a b : ByteArray) (ha : a.size ≤ 9223372036854775807) (hb : b.size ≤ 9223372036854775807) (h : 1048576 < a.size + b.size) (w : World) :
    Calls Try.prog 19 #[.string a, .string b] w fun e w' => e = .returned (.bool false) ∧ w' = w := by
  go_enter Try.func19, Try.ntmps19
  go_wp2
  all_goals
    go_ret
    exact ⟨rfl, rfl⟩
theorem bytes22_true (a : ByteArray) (k x : Int) (h : a.size ≤ 1048576) (w : World) :
    Calls Try.prog 22 #[.string a, .int .i64 k, .int .i32 x] w fun e w' => e = .returned (.bool true) ∧ w' = w := by
  go_enter Try.func22, Try.ntmps22
  go_wp2
  go_ret
  exact ⟨rfl, rfl⟩
theorem bytes22_false (a : ByteArray) (k x : Int) (ha : a.size ≤ 9223372036854775807) (h : 1048576 < a.size) (w : World) :
    Calls Try.prog 22 #[.string a, .int .i64 k, .int .i32 x] w fun e w' => e = .returned (.bool false) ∧ w' = w := by
  go_enter Try.func22, Try.ntmps22
  go_wp2
  all_goals
    go_ret
    exact ⟨rfl, rfl⟩
theorem bytes24_true (a b c d : ByteArray) (h : a.size + b.size + c.size + d.size ≤ 1048576) (w : World) :
    Calls Try.prog 24 #[.string a, .string b, .string c, .string d] w fun e w' => e = .returned (.bool true) ∧ w' = w := by
  go_enter Try.func24, Try.ntmps24
  go_wp2
  go_ret
  exact ⟨rfl, rfl⟩
theorem bytes24_false (a b c d : ByteArray) (ha : a.size ≤ 9223372036854775807) (hb : b.size ≤ 9223372036854775807) (hc : c.size ≤ 9223372036854775807) (hd : d.size ≤ 9223372036854775807) (h : 1048576 < a.size + b.size + c.size + d.size) (w : World) :
    Calls Try.prog 24 #[.string a, .string b, .string c, .string d] w fun e w' => e = .returned (.bool false) ∧ w' = w := by
  go_enter Try.func24, Try.ntmps24
  go_wp2
  all_goals
    go_ret
    exact ⟨rfl, rfl⟩
/-- The least of three. -/
def mn3 (x y z : Int) : Int := min (min x y) z
theorem min3_any (x y z : Int) (w : World) :
    Calls Try.prog 21 #[.int .i64 x, .int .i64 y, .int .i64 z] w fun e w' => e = .returned (.int .i64 (mn3 x y z)) ∧ w' = w := by
  by_cases h1 : y < x
  · by_cases h2 : z < y
    · have e : Hid (mn3 x y z = z) := show min (min x y) z = _ by omega
      go_enter Try.func21, Try.ntmps21
      go_wp2
      go_ret
      exact ⟨by rw [e.out]; rfl, rfl⟩
    · have e : Hid (mn3 x y z = y) := show min (min x y) z = _ by omega
      go_enter Try.func21, Try.ntmps21
      go_wp2
      go_ret
      exact ⟨by rw [e.out]; rfl, rfl⟩
  · by_cases h2 : z < x
    · have e : Hid (mn3 x y z = z) := show min (min x y) z = _ by omega
      go_enter Try.func21, Try.ntmps21
      go_wp2
      go_ret
      exact ⟨by rw [e.out]; rfl, rfl⟩
    · have e : Hid (mn3 x y z = x) := show min (min x y) z = _ by omega
      go_enter Try.func21, Try.ntmps21
      go_wp2
      go_ret
      exact ⟨by rw [e.out]; rfl, rfl⟩
/-- Is r a valid code point, as a Bool? -/
def vldB (r : Int) : Bool := (decide (0 ≤ r) && decide (r < 55296)) || (decide (57344 ≤ r) && decide (r ≤ 1114111))
theorem vldB_iff (r : Int) : vldB r = true ↔ Vld r := by simp [vldB, Vld]
theorem valid_any (r : Int) (w : World) : Calls Try.prog 23 #[.int .i32 r] w fun e w' => e = .returned (.bool (vldB r)) ∧ w' = w := by
  cases hv : vldB r
  · have h : ¬ Vld r := by rw [← vldB_iff, hv]; decide
    unfold Vld at h
    rcases (show r < 0 ∨ (55296 ≤ r ∧ r < 57344) ∨ 1114111 < r by omega) with y | ⟨y1, y2⟩ | y
    all_goals
      clear h
      go_enter Try.func23, Try.ntmps23
      go_wp2
      go_ret
      first | exact ⟨rfl, rfl⟩ | exact ⟨by simp; omega, rfl⟩
  · have h := (vldB_iff r).1 hv
    unfold Vld at h
    rcases h with ⟨y1, y2⟩ | ⟨y1, y2⟩
    all_goals
      go_enter Try.func23, Try.ntmps23
      go_wp2
      go_ret
      first | exact ⟨rfl, rfl⟩ | exact ⟨by simp; omega, rfl⟩
/-- A call behind some draws, behind what was grown before. -/
theorem chainB {B : Nat} {w u v : World} {q : Nat} (h : Below B w u) (hB : B ≤ w.heap.size) (k : Below (u.drewN q).heap.size (u.drewN q) v) : Below B w v :=
  h.trans ⟨k.os, k.tape, k.output, k.size, fun i hi => k.block i (Nat.lt_of_lt_of_le hi (Nat.le_trans hB h.size))⟩
/-- 'string(rs)'. -/
theorem string_made (x : Addr) (len cap : Nat) (zs : List Int) (w : World) (hl : zs.length = len) (h : ∀ i, i < len → w.cell? (x.add i) = some (.int .i32 (zs.getD i 0))) :
    (convert 33 9 (.slice (some x) len cap)).run Try.prog w = .ok (.string (runesBytes zs)) w := by
  have := run_convert_runes (P := Try.prog) w 33 9 21 x len cap zs (by omega) Try.underlying33 Try.underlying21 Try.underlying9 (fun j hj => h j (by omega))
  rwa [List.take_of_length_le (by omega)] at this
theorem addr_add (b o j : Nat) : (⟨b, o, none⟩ : Addr).add j = ⟨b, o + j, none⟩ := by
  cases j <;> simp [Addr.add]
end Go.Proofs.Qxb6619375a
