/-
  THE WALK of FnEditDistanceFirstRuneRecurrence (seat b6619375a).
-/
import Derived.Test.Qxb6619375aEdit
namespace Go.Proofs.Qxb6619375a
open Go.RowKit
set_option linter.unusedVariables false

theorem first_long (a b : ByteArray) (ha : a.size ≤ 9223372036854775807) (hb : b.size ≤ 9223372036854775807) (h : 1048576 < a.size + b.size ∨ 4096 < a.size ∨ 4096 < b.size) (w : World) :
    Calls Try.prog 5 #[.string a, .string b] w fun e w' => e = .returned (.bool true) ∧ Below w.heap.size w w' := by
  by_cases h1 : a.size + b.size ≤ 1048576
  · by_cases h2 : a.size ≤ 4096
    · have h3 : 4096 < b.size := by omega
      clear h
      go_enter Try.func5, Try.ntmps5
      go_wp2_with (go_at_call 19; refine (bytes19_true _ _ h1 _).mono ?_; rintro e w' ⟨rfl, rfl⟩)
      go_ret
      exact ⟨rfl, Below.refl _ _⟩
    · clear h
      go_enter Try.func5, Try.ntmps5
      go_wp2_with (go_at_call 19; refine (bytes19_true _ _ h1 _).mono ?_; rintro e w' ⟨rfl, rfl⟩)
      go_ret
      exact ⟨rfl, Below.refl _ _⟩
  · clear h
    go_enter Try.func5, Try.ntmps5
    go_wp2_with (go_at_call 19; refine (bytes19_false _ _ ha hb (by omega) _).mono ?_; rintro e w' ⟨rfl, rfl⟩)
    go_ret
    exact ⟨rfl, Below.refl _ _⟩

/-- 'rs[1:]': where it lies. -/
theorem tail_cut (G n cap : Nat) (h : n ≤ cap) (h1 : 1 ≤ n) : ∃ A : Addr, (∀ w, (Instr.slice 33 (.slice (some ⟨G, 0, none⟩) n cap) (some (.int .i64 1)) none none).run Try.prog w = .ok (.slice (some A) (n - 1) (cap - 1)) w) ∧ Hid (∀ i, i < n - 1 → A.add i = ⟨G, 1 + i, none⟩) := by
  refine ⟨if cap = 1 then ⟨G, 0, none⟩ else ⟨G, 1, none⟩, fun w => ?_, fun i hi => ?_⟩
  · rw [run_slice_l (P := Try.prog) w 33 (some ⟨G, 0, none⟩) n cap (by kernel_rfl) .i64 1 (by omega) (by omega), show (sizeOf (Try.prog.elem 33)).run Try.prog w = .ok 1 w by kernel_rfl]
    simp only [Result.andThen, sliced, Int.toNat_one, Nat.one_mul]
    split
    · rfl
    · rw [Option.map_some, addr_add]
  · rw [if_neg (by omega), addr_add]

/-- The law, plain. -/
theorem first_law (a b : ByteArray) (ra rb : List Int) (hA : runes a = ra) (hB : runes b = rb) (h1 : 0 < ra.length) (h2 : 0 < rb.length) :
    dl a b = mn3 (dl (runesBytes (ra.drop 1)) b + 1) (dl a (runesBytes (rb.drop 1)) + 1) (dl (runesBytes (ra.drop 1)) (runesBytes (rb.drop 1)) + if ra.getD 0 0 = rb.getD 0 0 then 0 else 1) := by
  have va : ∀ r ∈ ra.drop 1, Vld r := fun r hr => runes_valid a r (by rw [hA]; exact List.mem_of_mem_drop hr)
  have vb : ∀ r ∈ rb.drop 1, Vld r := fun r hr => runes_valid b r (by rw [hB]; exact List.mem_of_mem_drop hr)
  unfold dl mn3
  rw [runes_back _ va, runes_back _ vb, hA, hB]
  match ra, rb, h1, h2 with
  | x :: ra, y :: rb, _, _ =>
    simp only [List.drop_succ_cons, List.drop_zero, List.getD_cons_zero]
    rw [Lev.lev_cons_cons]
    split <;> omega

set_option maxRecDepth 100000 in
set_option maxHeartbeats 2000000 in
theorem first_core (n m : Nat) (a b : ByteArray) (ra rb : List Int) (capA capB : Nat) (CA CB : Array Value) (w : World) (ha : a.size ≤ 4096) (hb : b.size ≤ 4096) (hna : n ≤ capA) (hmb : m ≤ capB)
    (hn : n ≤ 4096) (hm : m ≤ 4096)
    (hra : ra.length = n) (hrb : rb.length = m) (hrA : runes a = ra) (hrB : runes b = rb)
    (hA : (convert 9 33 (.string a)).run Try.prog w = .ok (.slice (some ⟨w.heap.size, 0, none⟩) n capA) (w.alloc (.cells CA 21)).drew)
    (hB : (convert 9 33 (.string b)).run Try.prog (w.alloc (.cells CA 21)).drew = .ok (.slice (some ⟨w.heap.size + 1, 0, none⟩) m capB) ((w.alloc (.cells CA 21)).drew.alloc (.cells CB 21)).drew)
    (hCA : ∀ i, i < n → CA[i]? = some (.int .i32 (ra.getD i 0))) (hCB : ∀ i, i < m → CB[i]? = some (.int .i32 (rb.getD i 0))) :
    Calls Try.prog 5 #[.string a, .string b] w fun e w' => e = .returned (.bool true) ∧ Below w.heap.size w w' := by
  have HCA : Hid (∀ i, i < n → CA[i]? = some (.int .i32 (ra.getD i 0))) := hCA
  have HCB : Hid (∀ i, i < m → CB[i]? = some (.int .i32 (rb.getD i 0))) := hCB
  have HL : Hid (ra.length = n ∧ rb.length = m ∧ runes a = ra ∧ runes b = rb) := ⟨hra, hrb, hrA, hrB⟩
  have HZ : Hid (∀ s t : ByteArray, s.size ≤ 100000 → t.size ≤ 100000 → ∀ w, Calls Try.prog 20 #[.string s, .string t] w fun e w' => e = .returned (.int .i64 (dl s t)) ∧ Below w.heap.size w w') := fun s t hs ht w => zdl s t hs ht w
  clear hCA hCB hra hrb hrA hrB
  by_cases hn0 : 0 < n
  · have e0 : ((n : Int) == 0) = false := beq_eq_false_iff_ne.2 (by omega)
    by_cases hm0 : 0 < m
    · have e1 : ((m : Int) == 0) = false := beq_eq_false_iff_ne.2 (by omega)
      obtain ⟨A1, hcutA, hA1⟩ := tail_cut w.heap.size n capA hna hn0
      obtain ⟨B1, hcutB, hB1⟩ := tail_cut (w.heap.size + 1) m capB hmb hm0
      go_enter Try.func5, Try.ntmps5
      go_wp2_with fail
      refine (bytes19_true _ _ (by omega) _).mono ?_
      rintro e w ⟨rfl, hw'⟩
      subst hw'
      go_wp2_with fail
      refine (HZ.out _ _ (by omega) (by omega) _).mono ?_
      rintro e w1 ⟨rfl, hb1⟩
      have hcA : ∀ i, i < n → w1.cell? ⟨w.heap.size, i, none⟩ = some (.int .i32 (ra.getD i 0)) := fun i hi => (hb1.cell (p := ⟨w.heap.size, i, none⟩) (by simp; omega)).trans (by simp [HCA.out i hi])
      have hcB : ∀ i, i < m → w1.cell? ⟨w.heap.size + 1, i, none⟩ = some (.int .i32 (rb.getD i 0)) := fun i hi => (hb1.cell (p := ⟨w.heap.size + 1, i, none⟩) (by simp)).trans (by simp [HCB.out i hi])
      have hSA := string_made A1 (n - 1) (capA - 1) (ra.drop 1) w1 (by rw [List.length_drop, HL.out.1]) (fun i hi => by rw [hA1.out i hi, hcA (1 + i) (by omega), List.getD_eq_getElem?_getD, List.getD_eq_getElem?_getD, List.getElem?_drop])
      have hSB := string_made B1 (m - 1) (capB - 1) (rb.drop 1) w1 (by rw [List.length_drop, HL.out.2.1]) (fun i hi => by rw [hB1.out i hi, hcB (1 + i) (by omega), List.getD_eq_getElem?_getD, List.getD_eq_getElem?_getD, List.getElem?_drop])
      have sA := runesBytes_size_le (ra.drop 1)
      have sB := runesBytes_size_le (rb.drop 1)
      rw [List.length_drop, HL.out.1] at sA
      rw [List.length_drop, HL.out.2.1] at sB
      have hx := hcA 0 hn0
      have hy := hcB 0 hm0
      have HF : Hid (dl a b = mn3 (dl (runesBytes (ra.drop 1)) b + 1) (dl a (runesBytes (rb.drop 1)) + 1) (dl (runesBytes (ra.drop 1)) (runesBytes (rb.drop 1)) + if ra.getD 0 0 = rb.getD 0 0 then 0 else 1)) := first_law a b ra rb HL.out.2.2.1 HL.out.2.2.2 (by rw [HL.out.1]; exact hn0) (by rw [HL.out.2.1]; exact hm0)
      clear hcA hcB
      generalize runesBytes (ra.drop 1) = s1 at *
      generalize runesBytes (rb.drop 1) = s2 at *
      generalize ra.getD 0 0 = x at *
      generalize rb.getD 0 0 = y at *
      have B2 : Below w.heap.size w ((w.alloc (.cells CA 21)).alloc (.cells CB 21)).drew.drew := (((Below.refl _ _).alloc (Nat.le_refl _) _).alloc (by simp) _).drew.drew
      have r1 := dl_range s1 b (by omega) (by omega)
      have r2 := dl_range a s2 (by omega) (by omega)
      have r3 := dl_range s1 s2 (by omega) (by omega)
      have hn0' : (0 : Int) < (n : Int) := by omega
      have hm0' : (0 : Int) < (m : Int) := by omega
      by_cases hxy : x = y
      · have he : (x == y) = true := by simpa using hxy
        have HF2 : Hid ((dl a b == mn3 (dl s1 b + 1) (dl a s2 + 1) (dl s1 s2)) = true) := show _ = _ by rw [HF.out, if_pos hxy, Int.add_zero]; simp
        clear HF hxy
        go_wp2_with fail
        go_quiet (fail)
        go_wp2_with fail
        refine (HZ.out s1 b (by omega) (by omega) _).mono ?_
        rintro e w2 ⟨rfl, hb2⟩
        go_wp2_with fail
        refine (HZ.out a s2 (by omega) (by omega) _).mono ?_
        rintro e w3 ⟨rfl, hb3⟩
        go_wp2_with fail
        refine (HZ.out s1 s2 (by omega) (by omega) _).mono ?_
        rintro e w4 ⟨rfl, hb4⟩
        go_wp2_with fail
        refine (min3_any _ _ _ _).mono ?_
        rintro e w5 ⟨rfl, rfl⟩
        have hf := HF2.out
        go_wp2_with fail
        go_ret
        exact ⟨rfl, chainB (chainB (chainB (chainB B2 (Nat.le_refl _) (q := 0) hb1) (Nat.le_refl _) hb2) (Nat.le_refl _) (q := 0) hb3) (Nat.le_refl _) (q := 0) hb4⟩
      · have he : (x == y) = false := by simpa using hxy
        have HF2 : Hid ((dl a b == mn3 (dl s1 b + 1) (dl a s2 + 1) (dl s1 s2 + 1)) = true) := show _ = _ by rw [HF.out, if_neg hxy]; simp
        clear HF hxy
        go_wp2_with fail
        go_quiet (fail)
        go_wp2_with fail
        refine (HZ.out s1 b (by omega) (by omega) _).mono ?_
        rintro e w2 ⟨rfl, hb2⟩
        go_wp2_with fail
        refine (HZ.out a s2 (by omega) (by omega) _).mono ?_
        rintro e w3 ⟨rfl, hb3⟩
        go_wp2_with fail
        refine (HZ.out s1 s2 (by omega) (by omega) _).mono ?_
        rintro e w4 ⟨rfl, hb4⟩
        go_wp2_with fail
        refine (min3_any _ _ _ _).mono ?_
        rintro e w5 ⟨rfl, rfl⟩
        have hf := HF2.out
        go_wp2_with fail
        go_ret
        exact ⟨rfl, chainB (chainB (chainB (chainB B2 (Nat.le_refl _) (q := 0) hb1) (Nat.le_refl _) hb2) (Nat.le_refl _) (q := 0) hb3) (Nat.le_refl _) (q := 0) hb4⟩
    · obtain rfl : m = 0 := by omega
      have HF : Hid ((dl a b == (n : Int)) = true) := show _ = _ by
        unfold dl
        have e : rb = [] := List.eq_nil_of_length_eq_zero HL.out.2.1
        rw [HL.out.2.2.1, HL.out.2.2.2, e, Lev.lev_nil_right, HL.out.1]; simp
      go_enter Try.func5, Try.ntmps5
      go_wp2_with fail
      refine (bytes19_true _ _ (by omega) _).mono ?_
      rintro e w ⟨rfl, hw'⟩
      subst hw'
      go_wp2_with fail
      refine (HZ.out _ _ (by omega) (by omega) _).mono ?_
      rintro e w1 ⟨rfl, hb1⟩
      have B2 : Below w.heap.size w ((w.alloc (.cells CA 21)).alloc (.cells CB 21)).drew.drew := (((Below.refl _ _).alloc (Nat.le_refl _) _).alloc (by simp) _).drew.drew
      have hf := HF.out
      go_wp2_with fail
      go_ret
      exact ⟨rfl, chainB B2 (Nat.le_refl _) (q := 0) hb1⟩
  · obtain rfl : n = 0 := by omega
    have HF : Hid ((dl a b == (m : Int)) = true) := show _ = _ by
      unfold dl
      have e : ra = [] := List.eq_nil_of_length_eq_zero HL.out.1
      rw [HL.out.2.2.1, HL.out.2.2.2, e, Lev.lev_nil, HL.out.2.1]; simp
    go_enter Try.func5, Try.ntmps5
    go_wp2_with fail
    refine (bytes19_true _ _ (by omega) _).mono ?_
    rintro e w ⟨rfl, hw'⟩
    subst hw'
    go_wp2_with fail
    refine (HZ.out _ _ (by omega) (by omega) _).mono ?_
    rintro e w1 ⟨rfl, hb1⟩
    have B2 : Below w.heap.size w ((w.alloc (.cells CA 21)).alloc (.cells CB 21)).drew.drew := (((Below.refl _ _).alloc (Nat.le_refl _) _).alloc (by simp) _).drew.drew
    have hf := HF.out
    go_wp2_with fail
    go_ret
    exact ⟨rfl, chainB B2 (Nat.le_refl _) (q := 0) hb1⟩
/-- THE WALK. -/
theorem first_any (a b : ByteArray) (ha : a.size ≤ 9223372036854775807) (hb : b.size ≤ 9223372036854775807) (w : World) :
    Calls Try.prog 5 #[.string a, .string b] w fun e w' => e = .returned (.bool true) ∧ Below w.heap.size w w' := by
  by_cases h : a.size ≤ 4096 ∧ b.size ≤ 4096
  · obtain ⟨h1, h2⟩ := h
    obtain ⟨capA, CA, hA, hnA, hCA⟩ := runes_made a (by omega) w
    obtain ⟨capB, CB, hB, hnB, hCB⟩ := runes_made b (by omega) (w.alloc (.cells CA 21)).drew
    have e : (w.alloc (.cells CA 21)).drew.heap.size = w.heap.size + 1 := by simp
    rw [e] at hB
    have l1 := runes_length a
    have l2 := runes_length b
    exact first_core (runes a).length (runes b).length a b (runes a) (runes b) capA capB CA CB w h1 h2 hnA hnB (by omega) (by omega) rfl rfl rfl rfl hA hB hCA hCB
  · exact first_long a b ha hb (by omega) w
end Go.Proofs.Qxb6619375a
