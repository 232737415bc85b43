/-
  THE PLAIN LAW: the edit distance of two lists, by the first elements; that it does not hang on the direction; its laws. No Go in sight.
-/
namespace Go.Proofs.Qxb6619375a.Lev

/-- One row: the distances from 'x :: a' out of those from 'a' ('f'). -/
def step (x : Int) (f : List Int → Nat) : List Int → Nat
  | [] => f [] + 1
  | y :: b => min (min (f (y :: b) + 1) (step x f b + 1)) (f b + if x = y then 0 else 1)

/-- The edit distance. -/
def lev : List Int → List Int → Nat
  | [], b => b.length
  | x :: a, b => step x (lev a) b

theorem lev_nil (b : List Int) : lev [] b = b.length := rfl
theorem lev_cons_nil (x : Int) (a : List Int) : lev (x :: a) [] = lev a [] + 1 := rfl
theorem lev_cons_cons (x y : Int) (a b : List Int) :
    lev (x :: a) (y :: b) = min (min (lev a (y :: b) + 1) (lev (x :: a) b + 1)) (lev a b + if x = y then 0 else 1) := rfl
theorem lev_nil_right (a : List Int) : lev a [] = a.length := by
  induction a with
  | nil => rfl
  | cons x a ih => rw [lev_cons_nil, ih]; simp

theorem lev_del (x : Int) (a b : List Int) : lev (x :: a) b ≤ lev a b + 1 := by
  cases b with
  | nil => rw [lev_cons_nil]; omega
  | cons y b => rw [lev_cons_cons]; omega
theorem lev_ins (y : Int) (a b : List Int) : lev a (y :: b) ≤ lev a b + 1 := by
  cases a with
  | nil => simp [lev_nil]
  | cons x a => rw [lev_cons_cons]; omega
theorem lev_rep (x y : Int) (a b : List Int) : lev (x :: a) (y :: b) ≤ lev a b + if x = y then 0 else 1 := by
  rw [lev_cons_cons]; omega

/-- An alignment: a list of pairs; what it costs. -/
def cost : List (Option Int × Option Int) → Nat
  | [] => 0
  | p :: l => (if p.1 = p.2 then 0 else 1) + cost l
def fsts (l : List (Option Int × Option Int)) : List Int := l.filterMap (·.1)
def snds (l : List (Option Int × Option Int)) : List Int := l.filterMap (·.2)

theorem cost_append (l m : List (Option Int × Option Int)) : cost (l ++ m) = cost l + cost m := by
  induction l with
  | nil => simp [cost]
  | cons p l ih => simp only [List.cons_append, cost, ih]; omega
theorem cost_reverse (l : List (Option Int × Option Int)) : cost l.reverse = cost l := by
  induction l with
  | nil => rfl
  | cons p l ih => rw [List.reverse_cons, cost_append, ih]; simp only [cost]; omega

theorem lev_le_cost (l : List (Option Int × Option Int)) : lev (fsts l) (snds l) ≤ cost l := by
  induction l with
  | nil => simp [fsts, snds, cost, lev_nil]
  | cons p l ih =>
    obtain ⟨x, y⟩ := p
    cases x with
    | none =>
      cases y with
      | none => simpa [fsts, snds, cost] using ih
      | some y =>
        have := lev_ins y (fsts l) (snds l)
        simp only [fsts, snds, cost, List.filterMap_cons] at *
        simp; omega
    | some x =>
      cases y with
      | none =>
        have := lev_del x (fsts l) (snds l)
        simp only [fsts, snds, cost, List.filterMap_cons] at *
        simp; omega
      | some y =>
        have := lev_rep x y (fsts l) (snds l)
        simp only [fsts, snds, cost, List.filterMap_cons] at *
        simp; omega

theorem align_nil (b : List Int) : ∃ l, fsts l = [] ∧ snds l = b ∧ cost l = b.length := by
  induction b with
  | nil => exact ⟨[], rfl, rfl, rfl⟩
  | cons y b ih =>
    obtain ⟨l, h1, h2, h3⟩ := ih
    refine ⟨(none, some y) :: l, ?_, ?_, ?_⟩
    · simpa [fsts] using h1
    · simpa [snds] using h2
    · simp [cost, h3]; omega

theorem align (a : List Int) : ∀ b, ∃ l, fsts l = a ∧ snds l = b ∧ cost l = lev a b := by
  induction a with
  | nil => intro b; obtain ⟨l, h1, h2, h3⟩ := align_nil b; exact ⟨l, h1, h2, by rw [h3, lev_nil]⟩
  | cons x a iha =>
    intro b
    induction b with
    | nil =>
      obtain ⟨l, h1, h2, h3⟩ := iha []
      refine ⟨(some x, none) :: l, ?_, ?_, ?_⟩
      · simpa [fsts] using h1
      · simpa [snds] using h2
      · rw [lev_cons_nil]; simp [cost, h3]; omega
    | cons y b ihb =>
      obtain ⟨l1, p1, q1, r1⟩ := iha (y :: b)
      obtain ⟨l2, p2, q2, r2⟩ := ihb
      obtain ⟨l3, p3, q3, r3⟩ := iha b
      have e := lev_cons_cons x y a b
      by_cases c1 : lev (x :: a) (y :: b) = lev a (y :: b) + 1
      · refine ⟨(some x, none) :: l1, ?_, ?_, ?_⟩
        · simpa [fsts] using p1
        · simpa [snds] using q1
        · rw [c1]; simp [cost, r1]; omega
      · by_cases c2 : lev (x :: a) (y :: b) = lev (x :: a) b + 1
        · refine ⟨(none, some y) :: l2, ?_, ?_, ?_⟩
          · simpa [fsts] using p2
          · simpa [snds] using q2
          · rw [c2]; simp [cost, r2]; omega
        · refine ⟨(some x, some y) :: l3, ?_, ?_, ?_⟩
          · simpa [fsts] using p3
          · simpa [snds] using q3
          · have : lev (x :: a) (y :: b) = lev a b + if x = y then 0 else 1 := by omega
            rw [this]; simp [cost, r3]; omega

theorem lev_reverse_le (a b : List Int) : lev a.reverse b.reverse ≤ lev a b := by
  obtain ⟨l, h1, h2, h3⟩ := align a b
  have := lev_le_cost l.reverse
  rw [cost_reverse, h3] at this
  have e1 : fsts l.reverse = a.reverse := by rw [← h1]; simp [fsts, List.filterMap_reverse]
  have e2 : snds l.reverse = b.reverse := by rw [← h2]; simp [snds, List.filterMap_reverse]
  rw [e1, e2] at this
  exact this
/-- THE DIRECTION IS NO MATTER. -/
theorem lev_reverse (a b : List Int) : lev a.reverse b.reverse = lev a b := by
  have h1 := lev_reverse_le a b
  have h2 := lev_reverse_le a.reverse b.reverse
  simp at h2
  omega

def swap (l : List (Option Int × Option Int)) : List (Option Int × Option Int) := l.map fun p => (p.2, p.1)
theorem cost_swap (l : List (Option Int × Option Int)) : cost (swap l) = cost l := by
  induction l with
  | nil => rfl
  | cons p l ih =>
    simp only [swap, List.map_cons, cost] at *
    rw [ih]
    by_cases h : p.1 = p.2
    · rw [if_pos h, if_pos h.symm]
    · rw [if_neg h, if_neg (fun e => h e.symm)]
theorem lev_swap_le (a b : List Int) : lev b a ≤ lev a b := by
  obtain ⟨l, h1, h2, h3⟩ := align a b
  have := lev_le_cost (swap l)
  rw [cost_swap, h3] at this
  have e1 : fsts (swap l) = b := by rw [← h2]; simp [fsts, snds, swap, List.filterMap_map, Function.comp_def]
  have e2 : snds (swap l) = a := by rw [← h1]; simp [fsts, snds, swap, List.filterMap_map, Function.comp_def]
  rw [e1, e2] at this
  exact this
theorem lev_comm (a b : List Int) : lev a b = lev b a := by
  have h1 := lev_swap_le a b
  have h2 := lev_swap_le b a
  omega

theorem lev_self (a : List Int) : lev a a = 0 := by
  induction a with
  | nil => rfl
  | cons x a ih => have := lev_rep x x a a; rw [ih] at this; simp at this; omega
theorem cost_zero (l : List (Option Int × Option Int)) (h : cost l = 0) : fsts l = snds l := by
  induction l with
  | nil => rfl
  | cons p l ih =>
    simp only [cost] at h
    have h0 : p.1 = p.2 := by
      by_cases e : p.1 = p.2
      · exact e
      · rw [if_neg e] at h; omega
    have := ih (by omega)
    simp only [fsts, snds, List.filterMap_cons] at *
    rw [h0, this]
theorem lev_zero (a b : List Int) : lev a b = 0 ↔ a = b := by
  constructor
  · intro h
    obtain ⟨l, h1, h2, h3⟩ := align a b
    have := cost_zero l (by omega)
    rw [← h1, ← h2, this]
  · intro h; rw [h, lev_self]

/-- Taking an element away costs at most one. -/
theorem lev_drop (x : Int) (a b : List Int) : lev a b ≤ lev (x :: a) b + 1 := by
  induction b with
  | nil => rw [lev_cons_nil]; omega
  | cons y b ih =>
    rw [lev_cons_cons]
    have := lev_ins y a b
    omega
theorem lev_drop' (y : Int) (a b : List Int) : lev a b ≤ lev a (y :: b) + 1 := by
  have := lev_drop y b a
  rw [lev_comm b a, lev_comm (y :: b) a] at this
  exact this
theorem lev_cons_same (x : Int) (a b : List Int) : lev (x :: a) (x :: b) = lev a b := by
  have h1 := lev_drop x a b
  have h2 := lev_drop' x a b
  rw [lev_cons_cons]
  simp
  omega
theorem lev_prefix (p a b : List Int) : lev (p ++ a) (p ++ b) = lev a b := by
  induction p with
  | nil => rfl
  | cons x p ih => rw [List.cons_append, List.cons_append, lev_cons_same, ih]
theorem lev_suffix (a b s : List Int) : lev (a ++ s) (b ++ s) = lev a b := by
  rw [← lev_reverse, List.reverse_append, List.reverse_append, lev_prefix, lev_reverse]
theorem lev_affixes (p a b s : List Int) : lev (p ++ a ++ s) (p ++ b ++ s) = lev a b := by
  rw [lev_suffix, lev_prefix]

theorem lev_len (a b : List Int) : a.length ≤ b.length + lev a b := by
  induction a generalizing b with
  | nil => simp
  | cons x a ih =>
    induction b with
    | nil => rw [lev_nil_right]; simp
    | cons y b ihb =>
      have h1 := ih (y :: b)
      have h2 := ih b
      rw [lev_cons_cons]
      simp only [List.length_cons] at *
      omega
theorem lev_le_max (a b : List Int) : lev a b ≤ a.length + b.length := by
  induction a generalizing b with
  | nil => rw [lev_nil]; simp
  | cons x a ih => have h1 := ih b; have h2 := lev_del x a b; simp only [List.length_cons]; omega

/-- One element put in at k: distance 1. -/
theorem lev_insert (u v : List Int) (x : Int) : lev (u ++ v) (u ++ x :: v) = 1 := by
  rw [lev_prefix]
  have h1 := lev_ins x v v
  rw [lev_self] at h1
  have h2 := lev_len (x :: v) v
  rw [lev_comm] at h2
  simp at h2
  omega
theorem lev_delete (u v : List Int) (x : Int) : lev (u ++ x :: v) (u ++ v) = 1 := by
  rw [lev_comm, lev_insert]
theorem lev_replace (u v : List Int) (x y : Int) : lev (u ++ x :: v) (u ++ y :: v) = if x = y then 0 else 1 := by
  rw [lev_prefix]
  have h1 := lev_rep x y v v
  rw [lev_self] at h1
  by_cases e : x = y
  · rw [if_pos e] at *; omega
  · rw [if_neg e] at *
    have h2 : lev (x :: v) (y :: v) ≠ 0 := by
      intro h
      rw [lev_zero] at h
      exact e (by simpa using h)
    omega
end Go.Proofs.Qxb6619375a.Lev
