/-
  WHAT joinB IS GOOD FOR (plain), and the contracts of zzIsJoinOf, zzLeastSlashedExtension and the three bounds at what 'join' answers (seat b6619251a).
-/
import Derived.Test.Qxb6619251aJoin
namespace Go.Proofs.Qxb6619251a
open Go.RowKit

/-! ### plain -/
theorem join_list (s t : ByteArray) : (joinB s t).data.toList = s.data.toList ++ ((if endsB s = true then [] else [47]) ++ t.data.toList) := by
  unfold joinB
  split <;> simp
theorem join_size (s t : ByteArray) : (joinB s t).size = s.size + ((if endsB s = true then 0 else 1) + t.size) := by
  rw [Lib.size_eq, join_list, Lib.size_eq, Lib.size_eq]
  split <;> simp
  omega
theorem join_le (s t : ByteArray) : (joinB s t).size ≤ s.size + t.size + 1 := by
  rw [join_size]; split <;> omega
theorem join_ge (s t : ByteArray) : s.size + t.size ≤ (joinB s t).size := by
  rw [join_size]; omega

theorem pre_of {p s : ByteArray} {t : List UInt8} (h : p.data.toList = s.data.toList ++ t) (j : Nat) (hj : j < s.size) (hp : j < p.size) : p[j] = s[j] := by
  have h1 := at_list p j hp
  rw [h, List.getElem?_append_left (by rw [size_list]; exact hj), at_list s j hj] at h1
  exact (Option.some.inj h1).symm
theorem suf_of {p s : ByteArray} {t : List UInt8} (h : p.data.toList = t ++ s.data.toList) (j k : Nat) (hj : j < s.size) (hp : k < p.size) (hk : k = t.length + j) : p[k] = s[j] := by
  subst hk
  have h1 := at_list p (t.length + j) hp
  rw [h, List.getElem?_append_right (by omega), Nat.add_sub_cancel_left, at_list s j hj] at h1
  exact (Option.some.inj h1).symm

theorem ends_join (s t : ByteArray) (h : 0 < t.size) : endsB (joinB s t) = endsB t := by
  have ht : t.data.toList ≠ [] := by
    intro e
    have := size_list t
    rw [e] at this; simp at this; omega
  unfold endsB
  rw [join_list, ← List.append_assoc, List.getLast?_append, List.getLast?_eq_some_getLast ht]
  rfl
theorem ends_join_nil (s t : ByteArray) (h : ¬ 0 < t.size) : endsB (joinB s t) = true := by
  have ht : t.data.toList = [] := by
    apply List.eq_nil_of_length_eq_zero
    rw [size_list]; omega
  by_cases he : endsB s = true
  · have e : (joinB s t).data.toList = s.data.toList := by rw [join_list, if_pos he, ht]; simp
    unfold endsB at *
    rw [e]; exact he
  · unfold endsB
    rw [join_list, if_neg he, ht]
    simp

theorem nonempty_list (s : ByteArray) (h : 0 < s.size) : s.toList.isEmpty = false := by
  rw [Lib.toList_data, List.isEmpty_eq_false_iff]
  intro e
  have := size_list s
  rw [e] at this; simp at this; omega
theorem empty_list (s : ByteArray) (h : ¬ 0 < s.size) : s.toList.isEmpty = true := by
  rw [Lib.toList_data, List.isEmpty_iff]
  apply List.eq_nil_of_length_eq_zero
  rw [size_list]; omega

/-- (a joined with b) joined with c. -/
theorem join_assoc (a b c : ByteArray) (h : 0 < b.size) : joinB (joinB a b) c = joinB a (joinB b c) := by
  apply ext_list
  rw [join_list, join_list, ends_join a b h, join_list, join_list]
  simp [List.append_assoc]
theorem join_slashed (s t : ByteArray) (h : endsB s = false) : joinB (s ++ ⟨#[47]⟩) t = joinB s t := by
  have he : endsB (s ++ ⟨#[47]⟩) = true := by unfold endsB; simp
  apply ext_list
  rw [join_list, join_list, he, h]
  simp
theorem join_empty (s t : ByteArray) : joinB s t = joinB s ⟨#[]⟩ ++ t := by
  apply ext_list
  rw [append_list, join_list, join_list]
  simp
theorem join_again (s t : ByteArray) : joinB (joinB s ⟨#[]⟩) t = joinB s t := by
  apply ext_list
  have he := ends_join_nil s ⟨#[]⟩ (by simp [ByteArray.size])
  rw [join_list, he, join_list, join_list]
  simp

/-! ### contracts -/
theorem isJoin_at (dir name : ByteArray) (h1 : dir.size ≤ 4000000) (h2 : name.size ≤ 4000000) (w : World) :
    Calls Try.prog 8 #[.string (joinB dir name), .string dir, .string name] w fun e w' => e = .returned (.bool true) ∧ ∃ n, w' = w.drewN n := by
  have hle := join_le dir name
  have hge := join_ge dir name
  have hsz := join_size dir name
  have hl := join_list dir name
  have hpos : 0 < (joinB dir name).size - name.size := by
    rw [hsz]
    by_cases he : endsB dir = true
    · have := ends_pos he; omega
    · rw [if_neg he]; omega
  refine isJoin_true (joinB dir name) dir name (by omega) hge (fun he => by rw [hsz, if_pos he]; omega) (fun he => by rw [hsz, if_neg (by rw [he]; decide)]; omega) ?_ ?_ hpos ?_ w
  · intro j hj
    exact pre_of hl j hj _
  · intro j hj
    refine suf_of (t := dir.data.toList ++ (if endsB dir = true then [] else [47])) (by rw [hl, List.append_assoc]) j _ hj _ ?_
    rw [List.length_append, size_list, hsz]
    split <;> simp <;> omega
  · by_cases he : endsB dir = true
    · have hd := ends_pos he
      have e1 : (joinB dir name).size - name.size - 1 = dir.size - 1 := by rw [hsz, if_pos he]; omega
      have e2 := pre_of hl (dir.size - 1) (by omega) (by omega)
      have e3 : dir[dir.size - 1] = 47 := by
        have := last_list dir hd
        unfold endsB at he
        rw [this] at he
        simpa using he
      rw [← e3, ← e2]
      congr 1
    · have e1 : (joinB dir name).size - name.size - 1 = dir.size := by rw [hsz, if_neg he]; omega
      have hlt : dir.size < (joinB dir name).size := by omega
      have h3 := at_list (joinB dir name) dir.size hlt
      rw [hl, if_neg he, List.getElem?_append_right (by rw [size_list]; omega), size_list] at h3
      simp at h3
      exact Eq.trans (by congr 1) h3.symm

set_option maxHeartbeats 400000 in
theorem least_true (p dir : ByteArray) (hs : p.size ≤ 9000000) (hp : dir.size ≤ p.size) (hpre : ∀ j (h : j < dir.size), p[j] = dir[j]) (hep : endsB p = true)
    (h1 : endsB dir = true → (p.toList == dir.toList) = true) (h2 : endsB dir = false → p.size = dir.size + 1) (w : World) :
    Calls Try.prog 12 #[.string p, .string dir] w fun e w' => e = .returned (.bool true) ∧ ∃ n, w' = w.drewN n := by
  have H1 : Hid (∀ j (h : j < dir.size), p[j] = dir[j]) := hpre
  clear hpre
  cases he : endsB dir
  · have hz := h2 he
    have hz1 : p.size ≤ dir.size + 1 := by omega
    have hz2 : dir.size + 1 ≤ p.size := by omega
    clear h1 h2 hz
    go_enter Try.func12, Try.ntmps12
    go_wp2_with (first | (go_at_call 14; refine (prefix_true _ _ (by omega) hp H1.out _).mono ?_; rintro e w' ⟨rfl, n, rfl⟩) | (go_at_call 10; refine (ends_any _ (by omega) _).mono ?_; rintro e w' ⟨rfl, rfl⟩))
    go_ret
    exact ⟨by simp; omega, _, rfl⟩
  · have hz := h1 he
    clear h1 h2
    go_enter Try.func12, Try.ntmps12
    go_wp2_with (first | (go_at_call 14; refine (prefix_true _ _ (by omega) hp H1.out _).mono ?_; rintro e w' ⟨rfl, n, rfl⟩) | (go_at_call 10; refine (ends_any _ (by omega) _).mono ?_; rintro e w' ⟨rfl, rfl⟩))
    go_ret
    exact ⟨rfl, _, rfl⟩

theorem least_at (dir : ByteArray) (h1 : dir.size ≤ 4000000) (w : World) :
    Calls Try.prog 12 #[.string (joinB dir ⟨#[]⟩), .string dir] w fun e w' => e = .returned (.bool true) ∧ ∃ n, w' = w.drewN n := by
  have hz : (⟨#[]⟩ : ByteArray).size = 0 := rfl
  have hle := join_le dir ⟨#[]⟩
  have hge := join_ge dir ⟨#[]⟩
  have hsz := join_size dir ⟨#[]⟩
  have hl := join_list dir ⟨#[]⟩
  refine least_true _ dir (by omega) (by omega) (fun j hj => pre_of hl j hj _) (ends_join_nil _ _ (by rw [hz]; decide)) (fun he => ?_) (fun he => ?_) w
  · refine eqB (ext_list ?_)
    rw [hl, if_pos he]; simp
  · rw [hsz, if_neg (by rw [he]; decide), hz]

theorem bytes6_true (a b c : ByteArray) (h : a.size + b.size + c.size ≤ 1048576) (w : World) :
    Calls Try.prog 6 #[.string a, .string b, .string c] w fun e w' => e = .returned (.bool true) ∧ w' = w := by
  go_enter Try.func6, Try.ntmps6
  go_wp2
  go_ret
  exact ⟨rfl, rfl⟩
theorem bytes6_false (a b c : ByteArray) (ha : a.size ≤ 9223372036854775807) (hb : b.size ≤ 9223372036854775807) (hc : c.size ≤ 9223372036854775807) (h : 1048576 < a.size + b.size + c.size) (w : World) :
    Calls Try.prog 6 #[.string a, .string b, .string c] w fun e w' => e = .returned (.bool false) ∧ w' = w := by
  go_enter Try.func6, Try.ntmps6
  go_wp2
  all_goals
    go_ret
    exact ⟨rfl, rfl⟩
theorem bytes9_true (a b : ByteArray) (h : a.size + b.size ≤ 1048576) (w : World) :
    Calls Try.prog 9 #[.string a, .string b] w fun e w' => e = .returned (.bool true) ∧ w' = w := by
  go_enter Try.func9, Try.ntmps9
  go_wp2
  go_ret
  exact ⟨rfl, rfl⟩
theorem bytes9_false (a b : ByteArray) (ha : a.size ≤ 9223372036854775807) (hb : b.size ≤ 9223372036854775807) (h : 1048576 < a.size + b.size) (w : World) :
    Calls Try.prog 9 #[.string a, .string b] w fun e w' => e = .returned (.bool false) ∧ w' = w := by
  go_enter Try.func9, Try.ntmps9
  go_wp2
  all_goals
    go_ret
    exact ⟨rfl, rfl⟩
theorem bytes11_true (a b : ByteArray) (h : a.size + b.size ≤ 1048576) (w : World) :
    Calls Try.prog 11 #[.string a, .string b] w fun e w' => e = .returned (.bool true) ∧ w' = w := by
  go_enter Try.func11, Try.ntmps11
  go_wp2
  go_ret
  exact ⟨rfl, rfl⟩
theorem bytes11_false (a b : ByteArray) (ha : a.size ≤ 9223372036854775807) (hb : b.size ≤ 9223372036854775807) (h : 1048576 < a.size + b.size) (w : World) :
    Calls Try.prog 11 #[.string a, .string b] w fun e w' => e = .returned (.bool false) ∧ w' = w := by
  go_enter Try.func11, Try.ntmps11
  go_wp2
  all_goals
    go_ret
    exact ⟨rfl, rfl⟩
end Go.Proofs.Qxb6619251a
