/-
  THE PLAIN LAW of 'count' (seat b6619242aD): digits in groups of three. No Go in sight.
-/
import Derived.Lib.ItoaLen
import Derived.Lib.Strings
namespace Go.Proofs.Qxb6619242aDoor

theorem ofNat_toNat (n : Nat) (h : n < 256) : ((UInt8.ofNat n).toNat : Int) = n := by
  have : (UInt8.ofNat n).toNat = n := by simp; omega
  rw [this]
/-- The three digits of k. -/
def three (k : Nat) : List UInt8 := [UInt8.ofNat (48 + k / 100), UInt8.ofNat (48 + k / 10 % 10), UInt8.ofNat (48 + k % 10)]
/-- The digits of m; none for 0. -/
def dd (m : Nat) : List UInt8 := if m = 0 then [] else Lib.decDigits m
theorem dd_step (m : Nat) (h : 0 < m) : dd m = dd (m / 10) ++ [UInt8.ofNat (48 + m % 10)] := by
  unfold dd
  rw [if_neg (by omega), Lib.decDigits]
  by_cases h1 : m < 10
  · rw [dif_pos h1, if_pos (by omega), Nat.mod_eq_of_lt h1]; rfl
  · rw [dif_neg h1, if_neg (by omega)]

/-- A comma at place i, and at every third place ahead of it. -/
def grpF : Nat → Nat → List UInt8 → List UInt8
  | 0, _, s => s
  | f + 1, i, s => if i = 0 then s else grpF f (i - 3) (s.take i ++ 44 :: s.drop i)
def grp (i : Nat) (s : List UInt8) : List UInt8 := grpF i i s
theorem grpF_enough : ∀ (f i : Nat) (s : List UInt8), i ≤ f → grpF f i s = grpF i i s
  | 0, i, s, h => by
    obtain rfl : i = 0 := by omega
    rfl
  | f + 1, i, s, h => by
    rcases i with _ | i
    · simp [grpF]
    · simp only [grpF, Nat.succ_ne_zero, if_false]
      rw [grpF_enough f (i + 1 - 3) _ (by omega), ← grpF_enough i (i + 1 - 3) _ (by omega)]
theorem grp_zero (s : List UInt8) : grp 0 s = s := rfl
theorem grp_pos (i : Nat) (s : List UInt8) (h : 0 < i) : grp i s = grp (i - 3) (s.take i ++ 44 :: s.drop i) := by
  obtain ⟨k, rfl⟩ : ∃ k, i = k + 1 := ⟨i - 1, by omega⟩
  unfold grp
  rw [grpF, if_neg (by omega), grpF_enough k _ _ (by omega)]
theorem grpF_append : ∀ (f i : Nat) (s t : List UInt8), i ≤ s.length → grpF f i (s ++ t) = grpF f i s ++ t
  | 0, _, _, _, _ => rfl
  | f + 1, i, s, t, h => by
    simp only [grpF]
    by_cases hi : i = 0
    · rw [if_pos hi, if_pos hi]
    · rw [if_neg hi, if_neg hi, ← grpF_append f (i - 3) _ t (by simp; omega), List.take_append_of_le_length h, List.drop_append_of_le_length h]
      simp
/-- What 'count' answers. -/
def cnt (n : Nat) : List UInt8 := grp ((Lib.decDigits n).length - 3) (Lib.decDigits n)

theorem digits_len_small (n : Nat) (h : n < 1000) : (Lib.decDigits n).length ≤ 3 := by
  rw [Lib.decDigits_length]
  by_cases h1 : n < 10
  · rw [Lib.nDigits_small h1]; omega
  · rw [Lib.nDigits_big h1]
    by_cases h2 : n / 10 < 10
    · rw [Lib.nDigits_small h2]; omega
    · rw [Lib.nDigits_big h2, Lib.nDigits_small (by omega)]; omega
theorem cnt_small (n : Nat) (h : n < 1000) : cnt n = Lib.decDigits n := by
  unfold cnt
  have := digits_len_small n h
  rw [show (Lib.decDigits n).length - 3 = 0 by omega, grp_zero]
theorem digits_thousand (n : Nat) (h : 1000 ≤ n) : Lib.decDigits n = Lib.decDigits (n / 1000) ++ three (n % 1000) := by
  rw [Lib.decDigits, dif_neg (by omega), Lib.decDigits, dif_neg (by omega), Lib.decDigits, dif_neg (by omega)]
  simp only [List.append_assoc, List.singleton_append, three]
  rw [show n / 10 / 10 % 10 = n % 1000 / 100 by omega, show n / 10 % 10 = n % 1000 / 10 % 10 by omega, show n % 10 = n % 1000 % 10 by omega, show n / 10 / 10 / 10 = n / 1000 by omega]
  rfl
/-- THE LAW. -/
theorem cnt_big (n : Nat) (h : 1000 ≤ n) : cnt n = cnt (n / 1000) ++ 44 :: three (n % 1000) := by
  unfold cnt
  have e := digits_thousand n h
  have hl : (Lib.decDigits n).length = (Lib.decDigits (n / 1000)).length + 3 := by rw [e]; simp [three]
  have hp : 1 ≤ (Lib.decDigits (n / 1000)).length := by rw [Lib.decDigits_length]; exact Lib.nDigits_pos _
  rw [hl, Nat.add_sub_cancel, grp_pos _ _ (by omega), e, List.take_left, List.drop_left]
  unfold grp
  rw [grpF_append _ _ _ _ (by omega)]
theorem digits_le (n : Nat) (h : n ≤ 9223372036854775807) : (Lib.decDigits n).length ≤ 21 := by
  have := Lib.itoa_length_le (n : Int) (by omega) (by omega)
  rwa [Lib.itoa_nonneg] at this
theorem grpF_length : ∀ (f i : Nat) (s : List UInt8), (grpF f i s).length ≤ s.length + i
  | 0, _, _ => by simp [grpF]
  | f + 1, i, s => by
    simp only [grpF]
    by_cases hi : i = 0
    · rw [if_pos hi]; omega
    · rw [if_neg hi]
      have := grpF_length f (i - 3) (s.take i ++ 44 :: s.drop i)
      simp at this
      omega
theorem cnt_length (n : Nat) (h : n ≤ 9223372036854775807) : (cnt n).length ≤ 42 := by
  have h1 := digits_le n h
  have h2 := grpF_length ((Lib.decDigits n).length - 3) ((Lib.decDigits n).length - 3) (Lib.decDigits n)
  unfold cnt grp
  omega

theorem ins_list (b : ByteArray) (i : Nat) : (b.extract 0 i ++ ⟨#[44]⟩ ++ b.extract i b.size).data.toList = b.data.toList.take i ++ 44 :: b.data.toList.drop i := by
  have e : (b.data.toList.drop i).take (b.size - i) = b.data.toList.drop i := List.take_of_length_le (by rw [List.length_drop, ← Lib.size_eq]; exact Nat.le_refl _)
  simp only [ByteArray.data_append, Array.toList_append, Lib.extract_data, e]
  simp
theorem ins_size (b : ByteArray) (i : Nat) : (b.extract 0 i ++ ⟨#[44]⟩ ++ b.extract i b.size).size = b.size + 1 := by
  rw [Lib.size_eq, ins_list b i, Lib.size_eq b]
  simp
  omega
end Go.Proofs.Qxb6619242aDoor
