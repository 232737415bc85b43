/-
  THE CONTRACT of editDistance (seat b6619375a): it returns the edit distance of the two strings' runes.
-/
import Derived.Test.Qxb6619375aRows
import Derived.Test.Qxb6619375aLev
import Derived.Test.Qxb6619375aRunes
import Derived.WalkKit
import Derived.ProofKit
import Derived.WalkSpells
import Derived.Deep.QuietTactic
import Derived.BigQuiet
import Derived.Deep.OwnRows
namespace Go.Proofs.Qxb6619375a
open Go.RowKit
set_option linter.unusedVariables false

theorem setCell_drewN' (w : World) (q : Nat) (a : Addr) (v : Value) : (w.drewN q).setCell a v = (w.setCell a v).drewN q := rfl
attribute [local go_sem] setCell_drewN'

/-! ### plain: the rows of the table -/
/-- The distance of the first i of a and the first j of b. -/
def D (a b : List Int) (i j : Nat) : Nat := Lev.lev (a.take i).reverse (b.take j).reverse
theorem D_zero (a b : List Int) (j : Nat) (h : j ≤ b.length) : D a b 0 j = j := by
  unfold D
  rw [List.take_zero, List.reverse_nil, Lev.lev_nil, List.length_reverse, List.length_take]
  omega
theorem D_first (a b : List Int) (i : Nat) (h : i ≤ a.length) : D a b i 0 = i := by
  unfold D
  rw [List.take_zero, List.reverse_nil, Lev.lev_nil_right, List.length_reverse, List.length_take]
  omega
theorem take_rev (a : List Int) (i : Nat) (h : i < a.length) : (a.take (i + 1)).reverse = a.getD i 0 :: (a.take i).reverse := by
  rw [List.take_succ_eq_append_getElem h, List.reverse_append]
  simp [List.getD, List.getElem?_eq_getElem h]
theorem D_next (a b : List Int) (i j : Nat) (hi : i < a.length) (hj : j < b.length) :
    D a b (i + 1) (j + 1) = min (min (D a b i (j + 1) + 1) (D a b (i + 1) j + 1)) (D a b i j + if a.getD i 0 = b.getD j 0 then 0 else 1) := by
  unfold D
  rw [take_rev a i hi, take_rev b j hj, Lev.lev_cons_cons]
theorem D_last (a b : List Int) : D a b a.length b.length = Lev.lev a b := by
  unfold D
  rw [List.take_length, List.take_length, Lev.lev_reverse]
theorem D_le (a b : List Int) (i j : Nat) : D a b i j ≤ a.length + b.length := by
  unfold D
  have := Lev.lev_le_max (a.take i).reverse (b.take j).reverse
  simp only [List.length_reverse, List.length_take] at this
  omega

/-! ### memory -/
/-- '[]rune(s)': a new block that begins with the runes. -/
theorem runes_made (s : ByteArray) (h : s.size ≤ 100000) (w : World) : ∃ (cap : Nat) (C : Array Value), (convert 9 33 (.string s)).run Try.prog w = .ok (.slice (some ⟨w.heap.size, 0, none⟩) (runes s).length cap) (w.alloc (.cells C 21)).drew ∧
    (runes s).length ≤ cap ∧ (∀ i, i < (runes s).length → C[i]? = some (.int .i32 ((runes s).getD i 0))) := by
  have hl := runes_length s
  have hs : (Conv.runesFrom s s.size 0 #[]).size = (runes s).length := by rw [runesFrom_runes]; simp
  have := run_runes_of_string (P := Try.prog) w 9 33 21 s Try.underlying9 Try.underlying33 Try.underlying21 (by rw [hs]; omega)
  rw [hs] at this
  refine ⟨_, _, this.trans (by rfl), grownCap_ge w _ 0 21, ?_⟩
  intro i hi
  rw [runesFrom_runes, Array.getElem?_append_left (by simpa using hi)]
  simp [List.getD, List.getElem?_eq_getElem hi]
theorem Try.info3 : (Try.prog.info? 3).map (fun i => (i.zero, i.size, i.bytes)) = some (some (.int .i64 0), 1, 8) := by kernel_rfl
theorem row_made (n : Nat) (h : n ≤ 100000) (w : World) : (Instr.makeSlice 46 (.int .i64 ((n : Int) + 1)) (.int .i64 ((n : Int) + 1))).run Try.prog w = .ok (.slice (some ⟨w.heap.size, 0, none⟩) (n + 1) (n + 1)) (w.alloc (.cells (madeCells #[.int .i64 0] (n + 1)) 3)) :=
  run_make_row' (P := Try.prog) 46 3 (.int .i64 0) 8 Try.underlying46 Try.info3 rfl .i64 .i64 (n + 1) (by omega) (by omega) w

/-- The row holds: up to j the distances of i + 1, from there on those of i. -/
def Holds (a b : List Int) (i j : Nat) (R : Array Value) : Prop :=
  R.size = b.length + 1 ∧ ∀ t, t ≤ b.length → R[t]? = some (.int .i64 (if t < j then D a b (i + 1) t else D a b i t : Nat))

/-- The row is filled up to k. -/
def Fill (m k : Nat) (R : Array Value) : Prop := R.size = m + 1 ∧ ∀ t, t < k → R[t]? = some (.int .i64 (t : Int))
theorem Fill.next {m k : Nat} {R : Array Value} (h : Fill m k R) (hk : k < m + 1) : Fill m (k + 1) (R.setIfInBounds k (.int .i64 (k : Int))) := by
  refine ⟨by simpa using h.1, fun t ht => ?_⟩
  by_cases e : t = k
  · subst e
    rw [Array.getElem?_setIfInBounds_self_of_lt (by rw [h.1]; exact hk)]
  · rw [Array.getElem?_setIfInBounds_ne (by omega)]
    exact h.2 t (by omega)
theorem Fill.holds {m : Nat} {R : Array Value} {a b : List Int} (h : Fill m (m + 1) R) (hb : b.length = m) : Holds a b 0 0 R := by
  refine ⟨by rw [h.1, hb], fun t ht => ?_⟩
  rw [h.2 t (by omega), if_neg (by omega), D_zero a b t ht]

theorem Holds.cell {a b : List Int} {i j : Nat} {R : Array Value} (h : Holds a b i j R) (t : Nat) (ht : t ≤ b.length) : R[t]? = some (.int .i64 (if t < j then D a b (i + 1) t else D a b i t : Nat)) := h.2 t ht
theorem Holds.start {a b : List Int} {i : Nat} {R : Array Value} (h : Holds a b i 0 R) (hi : i < a.length) : Holds a b i 1 (R.setIfInBounds 0 (.int .i64 ((i : Int) + 1))) := by
  refine ⟨by simpa using h.1, fun t ht => ?_⟩
  by_cases e : t = 0
  · subst e
    rw [Array.getElem?_setIfInBounds_self_of_lt (by rw [h.1]; omega), if_pos (by omega), D_first a b (i + 1) (by omega)]
    simp
  · rw [Array.getElem?_setIfInBounds_ne (by omega), h.2 t ht, if_neg (by omega), if_neg (by omega)]
theorem Holds.done {a b : List Int} {i : Nat} {R : Array Value} (h : Holds a b i (b.length + 1) R) : Holds a b (i + 1) 0 R :=
  ⟨h.1, fun t ht => by rw [h.2 t ht, if_pos (by omega), if_neg (by omega)]⟩
theorem Holds.next {a b : List Int} {i j : Nat} {R : Array Value} (h : Holds a b i (j + 1) R) (hj : j < b.length) : Holds a b i (j + 1 + 1) (R.setIfInBounds (j + 1) (.int .i64 (D a b (i + 1) (j + 1) : Nat))) := by
  refine ⟨by simpa using h.1, fun t ht => ?_⟩
  by_cases e : t = j + 1
  · subst e
    rw [Array.getElem?_setIfInBounds_self_of_lt (by rw [h.1]; omega), if_pos (by omega)]
  · rw [Array.getElem?_setIfInBounds_ne (by omega), h.2 t ht]
    by_cases e2 : t < j + 1
    · rw [if_pos e2, if_pos (by omega)]
    · rw [if_neg e2, if_neg (by omega)]
/-- What a round of the inner loop reads, and what it lays. -/
theorem Holds.step {a b : List Int} {n m k t : Nat} {R : Array Value} (h : Holds a b k (t + 1) R) (ha : a.length = n) (hb : b.length = m) (hk : k < n) (ht : t < m) :
    ∃ P Q S N : Int, R[t + 1]? = some (.int .i64 P) ∧ R[t]? = some (.int .i64 Q) ∧ ((D a b k t : Nat) : Int) = S ∧ ((D a b k (t + 1) : Nat) : Int) = P ∧ Hid (N = min (min (P + 1) (Q + 1)) (S + if a.getD k 0 = b.getD t 0 then 0 else 1)) ∧
      Holds a b k (t + 1 + 1) (R.setIfInBounds (t + 1) (.int .i64 N)) ∧ (0 ≤ P ∧ P ≤ n + m) ∧ (0 ≤ Q ∧ Q ≤ n + m) ∧ (0 ≤ S ∧ S ≤ n + m) := by
  refine ⟨(D a b k (t + 1) : Nat), (D a b (k + 1) t : Nat), (D a b k t : Nat), (D a b (k + 1) (t + 1) : Nat), ?_, ?_, rfl, rfl, ?_, h.next (by omega), ?_, ?_, ?_⟩
  · rw [h.2 (t + 1) (by omega), if_neg (by omega)]
  · rw [h.2 t (by omega), if_pos (by omega)]
  · show _ = _
    rw [D_next a b k t (by omega) (by omega)]
    split <;> omega
  · have := D_le a b k (t + 1); omega
  · have := D_le a b (k + 1) t; omega
  · have := D_le a b k t; omega
theorem Holds.last {a b : List Int} {n m : Nat} {R : Array Value} (h : Holds a b n 0 R) (ha : a.length = n) (hb : b.length = m) : R[m]? = some (.int .i64 (Lev.lev a b : Nat)) := by
  rw [h.2 m (by omega), if_neg (by omega), ← D_last, ha, hb]
theorem min_run (ts : Array TypeId) (ty : TypeId) (P Q S N : Int) (w : World) (h : N = min (min (P + 1) (Q + 1)) S) :
    (Builtin.min_ ts ty #[.int .i64 (P + 1), .int .i64 (Q + 1), .int .i64 S]).run Try.prog w = .ok (.int .i64 N) w := by
  have e : (if S < (if Q + 1 < P + 1 then Q + 1 else P + 1) then S else (if Q + 1 < P + 1 then Q + 1 else P + 1)) = N := by
    split <;> split <;> omega
  rw [← e]
  simp [Builtin.min_, Builtin.min2]
theorem below_drewN' {B : Nat} {a w : World} (h : Below B a w) (q : Nat) : Below B a (w.drewN q) := ⟨h.os, h.tape, h.output, h.size, h.block⟩
set_option maxRecDepth 100000 in
set_option maxHeartbeats 2000000 in
theorem dist_core (n m : Nat) (a b : ByteArray) (ra rb : List Int) (capA capB : Nat) (CA CB : Array Value) (w : World) (hn : n ≤ 100000) (hm : m ≤ 100000) (hna : n ≤ capA) (hmb : m ≤ capB)
    (hra : ra.length = n) (hrb : rb.length = m)
    (hA : (convert 9 33 (.string a)).run Try.prog w = .ok (.slice (some ⟨w.heap.size, 0, none⟩) n capA) (w.alloc (.cells CA 21)).drew)
    (hB : (convert 9 33 (.string b)).run Try.prog (w.alloc (.cells CA 21)).drew = .ok (.slice (some ⟨w.heap.size + 1, 0, none⟩) m capB) ((w.alloc (.cells CA 21)).drew.alloc (.cells CB 21)).drew)
    (hCA : ∀ i, i < n → CA[i]? = some (.int .i32 (ra.getD i 0))) (hCB : ∀ i, i < m → CB[i]? = some (.int .i32 (rb.getD i 0))) :
    Calls Try.prog 30 #[.string a, .string b] w fun e w' => e = .returned (.int .i64 (Lev.lev ra rb)) ∧ Below w.heap.size w w' := by
  have hmk := row_made m hm
  have HCA : Hid (∀ i, i < n → CA[i]? = some (.int .i32 (ra.getD i 0))) := hCA
  have HCB : Hid (∀ i, i < m → CB[i]? = some (.int .i32 (rb.getD i 0))) := hCB
  have HL : Hid (ra.length = n ∧ rb.length = m) := ⟨hra, hrb⟩
  clear hCA hCB hra hrb
  have hR0 : (madeCells #[.int .i64 0] (m + 1)).size = m + 1 := size_madeCells _ _
  generalize madeCells #[.int .i64 0] (m + 1) = R0 at *
  go_enter Try.func30, Try.ntmps30
  go_wp2_with fail
  go_loopw [24] (fun i wr => ∃ (k q : Nat) (R : Array Value), k ≤ m + 1 ∧ i = .int .i64 k ∧ Fill m k R ∧ wr = (((w.alloc (.cells CA 21)).alloc (.cells CB 21)).alloc (.cells R 3)).drewN q) (fun i _ => m + 1 - (intOf i).toNat)
  case atStart => exact ⟨0, 2, R0, by omega, rfl, ⟨hR0, fun t ht => by omega⟩, rfl⟩
  case round =>
    obtain ⟨k, q, R, hk, rfl, HR, rfl⟩ := hrel
    by_cases hlt : k < m + 1
    · obtain ⟨v, hv⟩ : ∃ v, R[k]? = some v := ⟨_, Array.getElem?_eq_getElem (by have := HR.1; omega)⟩
      go_wp2
      go_roundw
      case rel => exact ⟨k + 1, q, _, by omega, by go_num, HR.next hlt, rfl⟩
      case measure => simp [intOf]; omega
    · obtain rfl : k = m + 1 := by omega
      have H0 : Holds ra rb 0 0 R := HR.holds HL.out.2
      clear HR hR0 hmk hA hB hlt hk
      go_wp2_with fail
      go_loopw [9, 10, 11, 12, 13] (fun i _ _ _ _ wr => ∃ (k q : Nat) (R : Array Value), k ≤ n ∧ i = .int .i64 ((k : Int) + 1) ∧ Holds ra rb k 0 R ∧ wr = (((w.alloc (.cells CA 21)).alloc (.cells CB 21)).alloc (.cells R 3)).drewN q) (fun i _ _ _ _ _ => n + 1 - (intOf i).toNat)
      case atStart => exact ⟨0, q, R, by omega, rfl, H0, rfl⟩
      case round =>
        clear H0
        obtain ⟨k, q, R, hk, rfl, HR, rfl⟩ := hrel
        by_cases hlt : k < n
        · have hr0 := HR.cell 0 (by omega)
          have HS : Hid (Holds ra rb k 1 (R.setIfInBounds 0 (.int .i64 ((k : Int) + 1)))) := HR.start (by rw [HL.out.1]; exact hlt)
          go_wp2_with fail
          go_loopw [10, 11, 12, 13] (fun d j _ _ wr => ∃ (t q : Nat) (R : Array Value), t ≤ m ∧ j = .int .i64 ((t : Int) + 1) ∧ d = .int .i64 (D ra rb k t : Nat) ∧ Holds ra rb k (t + 1) R ∧ wr = (((w.alloc (.cells CA 21)).alloc (.cells CB 21)).alloc (.cells R 3)).drewN q) (fun _ j _ _ _ => m + 1 - (intOf j).toNat)
          case atStart => exact ⟨0, q, _, by omega, rfl, rfl, HS.out, rfl⟩
          case round =>
            clear HS HR hr0
            obtain ⟨t, q, R, ht, rfl, rfl, HR, rfl⟩ := hrel
            by_cases hlt2 : t < m
            · obtain ⟨P, Q, S, N, hP, hQ, eS, eP, hN, HX0, ⟨bP0, bP1⟩, ⟨bQ0, bQ1⟩, ⟨bS0, bS1⟩⟩ := HR.step HL.out.1 HL.out.2 hlt hlt2
              have hx := HCA.out k hlt
              have hy := HCB.out t hlt2
              rw [eS]
              have HX : Hid (Holds ra rb k (t + 1 + 1) (R.setIfInBounds (t + 1) (.int .i64 N))) := HX0
              have HP : Hid (((D ra rb k (t + 1) : Nat) : Int) = P) := eP
              clear HX0 eP HR
              generalize ra.getD k 0 = x at *
              generalize rb.getD t 0 = y at *
              by_cases hxy : x = y
              · have he : (x == y) = true := by simpa using hxy
                have hmin := fun ts ty wx => min_run ts ty P Q S N wx (by rw [hN.out, if_pos hxy, Int.add_zero])
                clear hN hxy
                go_wp2_with fail
                go_quiet (fail)
                go_wp2_with fail
                go_quiet (fail)
                go_wp2_with fail
                go_roundw
                case rel => exact ⟨t + 1, _, _, by omega, by go_num, by rw [HP.out], HX.out, rfl⟩
                case measure => simp [intOf]; omega
              · have he : (x == y) = false := by simpa using hxy
                have hmin := fun ts ty wx => min_run ts ty P Q (S + 1) N wx (by rw [hN.out, if_neg hxy])
                clear hN hxy
                go_wp2_with fail
                go_quiet (fail)
                go_wp2_with fail
                go_quiet (fail)
                go_wp2_with fail
                go_roundw
                case rel => exact ⟨t + 1, _, _, by omega, by go_num, by rw [HP.out], HX.out, rfl⟩
                case measure => simp [intOf]; omega
            · obtain rfl : t = m := by omega
              have HD : Hid (Holds ra rb (k + 1) 0 R) := by rw [← HL.out.2] at HR; exact HR.done
              clear HR
              go_wp2_with fail
              go_roundw
              case rel => exact ⟨k + 1, q, R, by omega, by go_num, HD.out, rfl⟩
              case measure => simp [intOf]; omega
        · obtain rfl : k = n := by omega
          have hlast := HR.last HL.out.1 HL.out.2
          go_wp2
          go_ret
          exact ⟨rfl, below_drewN' ((((Below.refl _ _).alloc (Nat.le_refl _) _).alloc (by simp) _).alloc (by simp; omega) _) _⟩

/-- editDistance. -/
theorem dist_any (a b : ByteArray) (ha : a.size ≤ 100000) (hb : b.size ≤ 100000) (w : World) :
    Calls Try.prog 30 #[.string a, .string b] w fun e w' => e = .returned (.int .i64 (Lev.lev (runes a) (runes b))) ∧ Below w.heap.size w w' := by
  obtain ⟨capA, CA, hA, hnA, hCA⟩ := runes_made a ha w
  obtain ⟨capB, CB, hB, hnB, hCB⟩ := runes_made b hb (w.alloc (.cells CA 21)).drew
  have e : (w.alloc (.cells CA 21)).drew.heap.size = w.heap.size + 1 := by simp
  rw [e] at hB
  have h1 := runes_length a
  have h2 := runes_length b
  exact dist_core (runes a).length (runes b).length a b (runes a) (runes b) capA capB CA CB w (by omega) (by omega) hnA hnB rfl rfl hA hB hCA hCB
/-- ZZEditDistance. -/
theorem zdist_any (a b : ByteArray) (ha : a.size ≤ 100000) (hb : b.size ≤ 100000) (w : World) :
    Calls Try.prog 20 #[.string a, .string b] w fun e w' => e = .returned (.int .i64 (Lev.lev (runes a) (runes b))) ∧ Below w.heap.size w w' := by
  have H : Hid (Calls Try.prog 30 #[.string a, .string b] w fun e w' => e = .returned (.int .i64 (Lev.lev (runes a) (runes b))) ∧ Below w.heap.size w w') := dist_any a b ha hb w
  generalize Lev.lev (runes a) (runes b) = d at *
  go_enter Try.func20, Try.ntmps20
  go_wp2_with (go_at_call 30; refine H.out.mono ?_; rintro e w1 ⟨rfl, hb⟩)
  go_ret
  exact ⟨rfl, hb⟩
end Go.Proofs.Qxb6619375a
