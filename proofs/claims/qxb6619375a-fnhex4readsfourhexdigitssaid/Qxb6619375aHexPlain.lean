/-
  THE PLAIN LAW of hex4 (seat b6619375a): hex digits as integers. No Go in sight.
-/
namespace Go.Proofs.Qxb6619375a
def hexAll : ByteArray := ⟨#[48, 49, 50, 51, 52, 53, 54, 55, 56, 57, 97, 98, 99, 100, 101, 102, 65, 66, 67, 68, 69, 70]⟩
def hexLower : ByteArray := ⟨#[48, 49, 50, 51, 52, 53, 54, 55, 56, 57, 97, 98, 99, 100, 101, 102]⟩
theorem hexAll_size : hexAll.size = 22 := rfl
theorem hexLower_size : hexLower.size = 16 := rfl
/-- Is b a hex digit? -/
def isHex (b : Int) : Bool := (decide (48 ≤ b) && decide (b ≤ 57)) || (decide (97 ≤ b) && decide (b ≤ 102)) || (decide (65 ≤ b) && decide (b ≤ 70))
/-- What it is worth. -/
def hexv (b : Int) : Int := if b ≤ 57 then b - 48 else if b ≤ 70 then b - 55 else b - 87
theorem isHex_iff (b : Int) : isHex b = true ↔ (48 ≤ b ∧ b ≤ 57) ∨ (97 ≤ b ∧ b ≤ 102) ∨ (65 ≤ b ∧ b ≤ 70) := by
  simp [isHex, or_assoc]
theorem hexv_range (b : Int) (h : isHex b = true) : 0 ≤ hexv b ∧ hexv b < 16 := by
  rw [isHex_iff] at h; unfold hexv; split <;> (try split) <;> omega
theorem hexAll_yes : ∀ k : Fin 22, isHex ((hexAll[k.val]'k.isLt).toNat : Int) = true := by decide +kernel
theorem hexAll_all : ∀ b : Fin 256, isHex (b.val : Int) = true → ∃ k : Fin 22, ((hexAll[k.val]'k.isLt).toNat : Int) = (b.val : Int) := by decide +kernel
theorem hex_hit (k : Nat) (hk : k < 22) (b : Int) (h : (((hexAll[k]'hk).toNat : Int) == b) = true) : isHex b = true := by
  rw [beq_iff_eq] at h
  rw [← h]
  exact hexAll_yes ⟨k, hk⟩
theorem hex_none (b : Int) (h0 : 0 ≤ b) (h1 : b ≤ 255) (h : ∀ j (hj : j < 22), (((hexAll[j]'hj).toNat : Int) == b) = false) : isHex b = false := by
  cases e : isHex b with
  | false => rfl
  | true =>
    have := hexAll_all ⟨b.toNat, by omega⟩ (by simpa [Int.toNat_of_nonneg h0] using e)
    obtain ⟨k, hk⟩ := this
    have h2 := h k.val k.isLt
    rw [beq_eq_false_iff_ne] at h2
    exact absurd (hk.trans (Int.toNat_of_nonneg h0)) h2
/-- The digit in lower case. -/
def lower (b : Int) : Int := if 65 ≤ b ∧ b ≤ 70 then b + 32 else b
theorem hexLower_all : ∀ b : Fin 256, isHex (b.val : Int) = true → ∀ h : (hexv (b.val : Int)).toNat < 16, ((hexLower[(hexv (b.val : Int)).toNat]'h).toNat : Int) = lower (b.val : Int) := by decide +kernel
theorem hex_back (b : Int) (h0 : 0 ≤ b) (h1 : b ≤ 255) (h : isHex b = true) (hv : (hexv b).toNat < 16) : ((hexLower[(hexv b).toNat]'hv).toNat : Int) = lower b := by
  have := hexLower_all ⟨b.toNat, by omega⟩
  simp only [Int.toNat_of_nonneg h0] at this
  exact this h hv
end Go.Proofs.Qxb6619375a
namespace Go.Proofs.Qxb6619375a
/-- The number that the first k digits write. -/
def hval (zs : List Int) : Nat → Int
  | 0 => 0
  | k + 1 => hval zs k * 16 + hexv (zs.getD k 0)
/-- Are the first k all hex digits? -/
def allHex (zs : List Int) : Nat → Bool
  | 0 => true
  | k + 1 => allHex zs k && isHex (zs.getD k 0)
theorem allHex_lt {zs : List Int} {n : Nat} (h : allHex zs n = true) : ∀ {k}, k < n → isHex (zs.getD k 0) = true := by
  induction n with
  | zero => intro k hk; omega
  | succ n ih =>
    simp only [allHex, Bool.and_eq_true] at h
    intro k hk
    by_cases e : k < n
    · exact ih h.1 e
    · obtain rfl : k = n := by omega
      exact h.2
theorem allHex_le {zs : List Int} {n k : Nat} (h : allHex zs n = true) (hk : k ≤ n) : allHex zs k = true := by
  induction k with
  | zero => rfl
  | succ k ih => simp only [allHex, Bool.and_eq_true]; exact ⟨ih (by omega), allHex_lt h (by omega)⟩
theorem hval_range {zs : List Int} {k : Nat} (h : allHex zs k = true) : 0 ≤ hval zs k ∧ hval zs k < 16 ^ k := by
  induction k with
  | zero => simp [hval]
  | succ k ih =>
    simp only [allHex, Bool.and_eq_true] at h
    have h1 := ih h.1
    have h2 := hexv_range _ h.2
    simp only [hval, Int.pow_succ]
    omega
theorem hval_range4 {zs : List Int} {k : Nat} (h : allHex zs k = true) (hk : k ≤ 3) : 0 ≤ hval zs k ∧ hval zs k < 4096 := by
  have h1 := hval_range h
  rcases (show k = 0 ∨ k = 1 ∨ k = 2 ∨ k = 3 by omega) with rfl | rfl | rfl | rfl <;> simp at h1 <;> omega
theorem hexv_dig (d : Int) (_ : 48 ≤ d) (h : d ≤ 57) : hexv d = d - 48 := by unfold hexv; rw [if_pos h]
theorem hexv_low (d : Int) (h : 97 ≤ d) (_ : d ≤ 102) : hexv d = d - 97 + 10 := by unfold hexv; rw [if_neg (by omega), if_neg (by omega)]; omega
theorem hexv_up (d : Int) (h : 65 ≤ d) (h2 : d ≤ 70) : hexv d = d - 65 + 10 := by unfold hexv; rw [if_neg (by omega), if_pos h2]; omega
end Go.Proofs.Qxb6619375a
