/-
  THE WALK of FnEditDistanceOneEditAway (seat b6619375a).
-/
import Derived.Test.Qxb6619375aAffix
namespace Go.Proofs.Qxb6619375a
open Go.RowKit
set_option linter.unusedVariables false

/-! ### plain -/
theorem one_ins (a : ByteArray) (ra : List Int) (k : Nat) (xn : Int) (hr : runes a = ra) (hx : Vld xn) : dl a (runesBytes ([] ++ ra.take k ++ [xn] ++ ra.drop k)) = 1 ∧ dl (runesBytes ([] ++ ra.take k ++ [xn] ++ ra.drop k)) a = 1 := by
  have v : ∀ r ∈ [] ++ ra.take k ++ [xn] ++ ra.drop k, Vld r := fun r h => by
    simp only [List.nil_append, List.mem_append, List.mem_singleton] at h
    rcases h with (h | rfl) | h
    · exact runes_valid a r (by rw [hr]; exact List.mem_of_mem_take h)
    · exact hx
    · exact runes_valid a r (by rw [hr]; exact List.mem_of_mem_drop h)
  have e := Lev.lev_insert (ra.take k) (ra.drop k) xn
  rw [List.take_append_drop] at e
  have e2 : [] ++ ra.take k ++ [xn] ++ ra.drop k = ra.take k ++ xn :: ra.drop k := by simp
  unfold dl
  rw [runes_back _ v, hr, e2, Lev.lev_comm (ra.take k ++ xn :: ra.drop k) ra, e]
  exact ⟨rfl, rfl⟩
theorem one_del (a : ByteArray) (ra : List Int) (k : Nat) (hr : runes a = ra) (hk : k < ra.length) : dl a (runesBytes ([] ++ ra.take k ++ ra.drop (k + 1))) = 1 := by
  have v : ∀ r ∈ [] ++ ra.take k ++ ra.drop (k + 1), Vld r := fun r h => by
    simp only [List.nil_append, List.mem_append] at h
    rcases h with h | h
    · exact runes_valid a r (by rw [hr]; exact List.mem_of_mem_take h)
    · exact runes_valid a r (by rw [hr]; exact List.mem_of_mem_drop h)
  have e := Lev.lev_delete (ra.take k) (ra.drop (k + 1)) ra[k]
  have e2 : ra.take k ++ ra[k] :: ra.drop (k + 1) = ra := by rw [← List.drop_eq_getElem_cons hk, List.take_append_drop]
  rw [e2] at e
  unfold dl
  rw [runes_back _ v, hr, List.nil_append, e]
  rfl
theorem one_rep (a : ByteArray) (ra : List Int) (k : Nat) (xn : Int) (hr : runes a = ra) (hk : k < ra.length) (hx : Vld xn) : dl a (runesBytes (ra.set k xn)) = if ra.getD k 0 = xn then 0 else 1 := by
  have v : ∀ r ∈ ra.set k xn, Vld r := fun r h => by
    rcases List.mem_or_eq_of_mem_set h with h | rfl
    · exact runes_valid a r (by rw [hr]; exact h)
    · exact hx
  have e := Lev.lev_replace (ra.take k) (ra.drop (k + 1)) ra[k] xn
  have e2 : ra.take k ++ ra[k] :: ra.drop (k + 1) = ra := by rw [← List.drop_eq_getElem_cons hk, List.take_append_drop]
  have e3 : ra.set k xn = ra.take k ++ xn :: ra.drop (k + 1) := List.set_eq_take_append_cons_drop.trans (if_pos hk)
  rw [e2] at e
  have e4 : ra.getD k 0 = ra[k] := by simp [List.getD, List.getElem?_eq_getElem hk]
  unfold dl
  rw [runes_back _ v, hr, e3, e, e4]
  split <;> rfl

/-! ### short ways -/
theorem one_long (a : ByteArray) (k x : Int) (ha : a.size ≤ 9223372036854775807) (h : 4096 < a.size) (w : World) :
    Calls Try.prog 6 #[.string a, .int .i64 k, .int .i32 x] w fun e w' => e = .returned (.bool true) ∧ Below w.heap.size w w' := by
  by_cases h1 : a.size ≤ 1048576
  · go_enter Try.func6, Try.ntmps6
    go_wp2_with (go_at_call 22; refine (bytes22_true _ _ _ h1 _).mono ?_; rintro e w' ⟨rfl, rfl⟩)
    go_ret
    exact ⟨rfl, Below.refl _ _⟩
  · go_enter Try.func6, Try.ntmps6
    go_wp2_with (go_at_call 22; refine (bytes22_false _ _ _ ha (by omega) _).mono ?_; rintro e w' ⟨rfl, rfl⟩)
    go_ret
    exact ⟨rfl, Below.refl _ _⟩
theorem one_out (n : Nat) (a : ByteArray) (k x : Int) (capA : Nat) (CA : Array Value) (h : a.size ≤ 4096) (hn : n ≤ 4096) (hk : k < 0 ∨ (n : Int) < k) (w : World)
    (hA : (convert 9 33 (.string a)).run Try.prog w = .ok (.slice (some ⟨w.heap.size, 0, none⟩) n capA) (w.alloc (.cells CA 21)).drew) :
    Calls Try.prog 6 #[.string a, .int .i64 k, .int .i32 x] w fun e w' => e = .returned (.bool true) ∧ Below w.heap.size w w' := by
  have HB : Hid (Below w.heap.size w (w.alloc (.cells CA 21)).drew) := ((Below.refl _ _).alloc (Nat.le_refl _) _).drew
  by_cases h0 : k < 0
  · clear hk
    go_enter Try.func6, Try.ntmps6
    go_wp2_with (go_at_call 22; refine (bytes22_true _ _ _ (by omega) _).mono ?_; rintro e w' ⟨rfl, rfl⟩)
    go_ret
    exact ⟨rfl, HB.out⟩
  · have h1 : (n : Int) < k := by omega
    clear hk
    go_enter Try.func6, Try.ntmps6
    go_wp2_with (go_at_call 22; refine (bytes22_true _ _ _ (by omega) _).mono ?_; rintro e w' ⟨rfl, rfl⟩)
    go_ret
    exact ⟨rfl, HB.out⟩

/-! ### rows, at the worlds of this walk -/
theorem app_last' (ty N n m nm g : Nat) (zs z : List Int) (a : Addr) (c : Nat) (w : World) (hg : w.heap.size = g) (hn : zs.length = n) (hm : z.length = m) (hnm : n + m = nm) (hN : nm ≤ N)
    (hz : ∀ i, i < m → (w.alloc (.cells (rowC zs N) 21)).cell? (a.add i) = some (.int .i32 (z.getD i 0))) :
    (Builtin.append_ #[33, 33] ty #[.slice (some ⟨g, 0, none⟩) n N, .slice (some a) m c]).run Try.prog (w.alloc (.cells (rowC zs N) 21)) = .ok (.slice (some ⟨g, 0, none⟩) nm N) (w.alloc (.cells (rowC (zs ++ z) N) 21)) := by
  subst hg hnm
  exact app_last ty N n m zs z a c w hn hm hN hz
theorem app_before' (ty N n m nm g : Nat) (zs z : List Int) (a : Addr) (c : Nat) (w : World) (o : Obj) (hg : w.heap.size = g) (hn : zs.length = n) (hm : z.length = m) (hnm : n + m = nm) (hN : nm ≤ N)
    (hz : ∀ i, i < m → ((w.alloc (.cells (rowC zs N) 21)).alloc o).cell? (a.add i) = some (.int .i32 (z.getD i 0))) :
    (Builtin.append_ #[33, 33] ty #[.slice (some ⟨g, 0, none⟩) n N, .slice (some a) m c]).run Try.prog ((w.alloc (.cells (rowC zs N) 21)).alloc o) = .ok (.slice (some ⟨g, 0, none⟩) nm N) ((w.alloc (.cells (rowC (zs ++ z) N) 21)).alloc o) := by
  subst hg hnm
  exact app_before ty N n m zs z a c w o hn hm hN hz
theorem Lies.at_head {w : World} {g : Nat} {zs : List Int} (h : Lies w g zs) (k i : Nat) (hi : i < (zs.take k).length) : w.cell? ((⟨g, 0, none⟩ : Addr).add i) = some (.int .i32 ((zs.take k).getD i 0)) := by
  rw [addr_add, Nat.zero_add]
  simp only [List.length_take] at hi
  rw [h i (by omega), List.getD_eq_getElem?_getD, List.getD_eq_getElem?_getD, List.getElem?_take, if_pos (by omega)]
theorem Lies.at_tail {w : World} {g : Nat} {zs : List Int} (h : Lies w g zs) (k i : Nat) (A : Addr) (hA : A.add i = ⟨g, k + i, none⟩) (hi : k + i < zs.length) : w.cell? (A.add i) = some (.int .i32 ((zs.drop k).getD i 0)) := by
  rw [hA, h (k + i) hi, List.getD_eq_getElem?_getD, List.getD_eq_getElem?_getD, List.getElem?_drop]

/-- The row holds the first j runes. -/
def RFill (ra : List Int) (n j : Nat) (R : Array Value) : Prop := R.size = n ∧ ∀ t, t < j → R[t]? = some (.int .i32 (ra.getD t 0))
theorem RFill.next {ra : List Int} {n j : Nat} {R : Array Value} (h : RFill ra n j R) (hj : j < n) : RFill ra n (j + 1) (R.setIfInBounds j (.int .i32 (ra.getD j 0))) := by
  refine ⟨by simpa using h.1, fun t ht => ?_⟩
  by_cases e : t = j
  · subst e
    rw [Array.getElem?_setIfInBounds_self_of_lt (by rw [h.1]; exact hj)]
  · rw [Array.getElem?_setIfInBounds_ne (by omega)]
    exact h.2 t (by omega)
theorem RFill.put {ra : List Int} {n k : Nat} {R : Array Value} {x : Int} (h : RFill ra n n R) (hl : ra.length = n) (hk : k < n) (i : Nat) (hi : i < n) : (R.setIfInBounds k (.int .i32 x))[i]? = some (.int .i32 ((ra.set k x).getD i 0)) := by
  by_cases e : i = k
  · subst e
    rw [Array.getElem?_setIfInBounds_self_of_lt (by rw [h.1]; exact hk), List.getD_eq_getElem?_getD, List.getElem?_set_self (by omega)]
    rfl
  · rw [Array.getElem?_setIfInBounds_ne (by omega), h.2 i hi, List.getD_eq_getElem?_getD, List.getD_eq_getElem?_getD, List.getElem?_set_ne (by omega)]
set_option maxRecDepth 100000 in
set_option maxHeartbeats 4000000 in
theorem one_core (n kk : Nat) (a : ByteArray) (x xn : Int) (ra : List Int) (capA : Nat) (CA : Array Value) (w : World) (ha : a.size ≤ 4096) (hn : n ≤ 4096) (hna : n ≤ capA) (hk : kk ≤ n)
    (hxn : (vldB x = true ∧ xn = x) ∨ (vldB x = false ∧ xn = 65533)) (hv : Vld xn)
    (hl : ra.length = n) (hr : runes a = ra)
    (hA : (convert 9 33 (.string a)).run Try.prog w = .ok (.slice (some ⟨w.heap.size, 0, none⟩) n capA) (w.alloc (.cells CA 21)).drew)
    (hCA : ∀ i, i < n → CA[i]? = some (.int .i32 (ra.getD i 0))) :
    Calls Try.prog 6 #[.string a, .int .i64 kk, .int .i32 x] w fun e w' => e = .returned (.bool true) ∧ Below w.heap.size w w' := by
  have HL : Hid (ra.length = n ∧ runes a = ra ∧ Vld xn) := ⟨hl, hr, hv⟩
  have LA : Lies (w.alloc (.cells CA 21)).drew w.heap.size ra := Lies.new (w := w) rfl (fun i hi => hCA i (by omega))
  have e1 : (w.alloc (.cells CA 21)).drew.heap.size = w.heap.size + 1 := by simp
  have HZ : Hid (∀ s t : ByteArray, s.size ≤ 100000 → t.size ≤ 100000 → ∀ w, Calls Try.prog 20 #[.string s, .string t] w fun e w' => e = .returned (.int .i64 (dl s t)) ∧ Below w.heap.size w w') := fun s t hs ht w => zdl s t hs ht w
  have hmk := made0 (n + 1) (by omega) ((n : Int) + 1) (by omega) (w.alloc (.cells CA 21)).drew
  rw [e1] at hmk
  have hc1 := cut_to w.heap.size n capA kk (kk : Int) rfl (by omega)
  obtain ⟨A2, hc2, hA2⟩ := cut_from w.heap.size n capA kk (kk : Int) rfl hna hk
  have ltk : (ra.take kk).length = kk := by rw [List.length_take]; omega
  have ldk : (ra.drop kk).length = n - kk := by rw [List.length_drop]; omega
  have HA1 : Hid (∀ ty, (Builtin.append_ #[33, 33] ty #[.slice (some ⟨w.heap.size + 1, 0, none⟩) 0 (n + 1), .slice (some ⟨w.heap.size, 0, none⟩) kk capA]).run Try.prog ((w.alloc (.cells CA 21)).alloc (.cells (rowC [] (n + 1)) 21)).drew = .ok (.slice (some ⟨w.heap.size + 1, 0, none⟩) kk (n + 1)) ((w.alloc (.cells CA 21)).alloc (.cells (rowC ([] ++ ra.take kk) (n + 1)) 21)).drew) := fun ty =>
    app_last' ty (n + 1) 0 kk kk (w.heap.size + 1) [] (ra.take kk) ⟨w.heap.size, 0, none⟩ capA (w.alloc (.cells CA 21)).drew e1 rfl ltk (by omega) (by omega) (fun i hi => (LA.alloc _).at_head kk i (by omega))
  have HA2 : Hid (∀ ty, (Builtin.append_ #[33, 33] ty #[.slice (some ⟨w.heap.size + 1, 0, none⟩) kk (n + 1), .slice (some ⟨w.heap.size + 1 + 1, 0, none⟩) 1 1]).run Try.prog (((w.alloc (.cells CA 21)).alloc (.cells (rowC ([] ++ ra.take kk) (n + 1)) 21)).alloc (.cells #[.int .i32 xn] 21)).drew = .ok (.slice (some ⟨w.heap.size + 1, 0, none⟩) (kk + 1) (n + 1)) (((w.alloc (.cells CA 21)).alloc (.cells (rowC ([] ++ ra.take kk ++ [xn]) (n + 1)) 21)).alloc (.cells #[.int .i32 xn] 21)).drew) := fun ty =>
    app_before' ty (n + 1) kk 1 (kk + 1) (w.heap.size + 1) ([] ++ ra.take kk) [xn] ⟨w.heap.size + 1 + 1, 0, none⟩ 1 (w.alloc (.cells CA 21)).drew (.cells #[.int .i32 xn] 21) e1 (by simpa using ltk) rfl rfl (by omega) (fun i hi => by
      obtain rfl : i = 0 := by omega
      have e2 : ((w.alloc (.cells CA 21)).drew.alloc (.cells (rowC ([] ++ ra.take kk) (n + 1)) 21)).heap.size = w.heap.size + 1 + 1 := by simp
      rw [addr_add, ← e2, World.cell?_alloc_new]
      rfl)
  have HA3 : Hid (∀ ty, (Builtin.append_ #[33, 33] ty #[.slice (some ⟨w.heap.size + 1, 0, none⟩) (kk + 1) (n + 1), .slice (some A2) (n - kk) (capA - kk)]).run Try.prog (((w.alloc (.cells CA 21)).alloc (.cells (rowC ([] ++ ra.take kk ++ [xn]) (n + 1)) 21)).alloc (.cells #[.int .i32 xn] 21)).drew = .ok (.slice (some ⟨w.heap.size + 1, 0, none⟩) (n + 1) (n + 1)) (((w.alloc (.cells CA 21)).alloc (.cells (rowC ([] ++ ra.take kk ++ [xn] ++ ra.drop kk) (n + 1)) 21)).alloc (.cells #[.int .i32 xn] 21)).drew) := fun ty =>
    app_before' ty (n + 1) (kk + 1) (n - kk) (n + 1) (w.heap.size + 1) ([] ++ ra.take kk ++ [xn]) (ra.drop kk) A2 (capA - kk) (w.alloc (.cells CA 21)).drew (.cells #[.int .i32 xn] 21) e1 (by simp; omega) ldk (by omega) (by omega) (fun i hi => ((LA.alloc _).alloc _).at_tail kk i A2 (hA2.out i hi) (by omega))
  have hS1 : (convert 33 9 (.slice (some ⟨w.heap.size + 1, 0, none⟩) (n + 1) (n + 1))).run Try.prog (((w.alloc (.cells CA 21)).alloc (.cells (rowC ([] ++ ra.take kk ++ [xn] ++ ra.drop kk) (n + 1)) 21)).alloc (.cells #[.int .i32 xn] 21)).drew = .ok (.string (runesBytes ([] ++ ra.take kk ++ [xn] ++ ra.drop kk))) (((w.alloc (.cells CA 21)).alloc (.cells (rowC ([] ++ ra.take kk ++ [xn] ++ ra.drop kk) (n + 1)) 21)).alloc (.cells #[.int .i32 xn] 21)).drew :=
    string_made ⟨w.heap.size + 1, 0, none⟩ (n + 1) (n + 1) ([] ++ ra.take kk ++ [xn] ++ ra.drop kk) _ (by simp; omega) (fun i hi => by
      rw [addr_add, Nat.zero_add]
      have hL : Lies ((w.alloc (.cells CA 21)).alloc (.cells (rowC ([] ++ ra.take kk ++ [xn] ++ ra.drop kk) (n + 1)) 21)) (w.heap.size + 1) ([] ++ ra.take kk ++ [xn] ++ ra.drop kk) := Lies.new (by simp) (fun i hi => rowC_at _ _ i hi)
      exact (hL.alloc (.cells #[.int .i32 xn] 21)) i (by simp; omega))
  have z1 := runesBytes_size_le ([] ++ ra.take kk ++ [xn] ++ ra.drop kk)
  have z1' : (runesBytes ([] ++ ra.take kk ++ [xn] ++ ra.drop kk)).size ≤ 100000 := by
    have e : ([] ++ ra.take kk ++ [xn] ++ ra.drop kk).length = n + 1 := by simp only [List.nil_append, List.length_append, ltk, ldk, List.length_singleton]; omega
    rw [e] at z1
    omega
  have LA' : Hid (Lies (((w.alloc (.cells CA 21)).alloc (.cells (rowC ([] ++ ra.take kk ++ [xn] ++ ra.drop kk) (n + 1)) 21)).alloc (.cells #[.int .i32 xn] 21)).drew w.heap.size ra) := (LA.alloc _).alloc _
  have B1 : Below w.heap.size w (((w.alloc (.cells CA 21)).alloc (.cells (rowC ([] ++ ra.take kk ++ [xn] ++ ra.drop kk) (n + 1)) 21)).alloc (.cells #[.int .i32 xn] 21)).drew := ((((Below.refl _ _).alloc (Nat.le_refl _) _).alloc (by simp) _).alloc (by simp; omega) _).drew
  have F1 := one_ins a ra kk xn hr hv
  have t1 : (dl a (runesBytes ([] ++ ra.take kk ++ [xn] ++ ra.drop kk)) != 1) = false := by rw [F1.1]; rfl
  have t2 : (dl (runesBytes ([] ++ ra.take kk ++ [xn] ++ ra.drop kk)) a != 1) = false := by rw [F1.2]; rfl
  clear F1 z1 LA hCA hl hr hv ltk ldk hA2 e1
  generalize runesBytes ([] ++ ra.take kk ++ [xn] ++ ra.drop kk) = s1 at *
  generalize rowC ([] ++ ra.take kk ++ [xn] ++ ra.drop kk) (n + 1) = R3 at *
  generalize rowC ([] ++ ra.take kk ++ [xn]) (n + 1) = R2 at *
  generalize rowC ([] ++ ra.take kk) (n + 1) = R1 at *
  generalize rowC [] (n + 1) = R0 at *
  rcases hxn with ⟨hv, rfl⟩ | ⟨hv, rfl⟩
  · go_enter Try.func6, Try.ntmps6
    go_wp2_with fail
    refine (bytes22_true _ _ _ (by omega) _).mono ?_
    rintro e w ⟨rfl, hw'⟩
    subst hw'
    go_wp2_with fail
    refine (valid_any _ _).mono ?_
    rintro e w' ⟨rfl, hw'⟩
    subst hw'
    go_wp2_with (first | (at_builtin; refine wpList_app rfl (.tmp 42) (.tmp 45) rfl _ _ _ (by rfl) (by rfl) _ HA1.out ?_) | (at_builtin; refine wpList_app rfl (.tmp 47) (.tmp 49) rfl _ _ _ (by rfl) (by rfl) _ HA2.out ?_) | (at_builtin; refine wpList_app rfl (.tmp 51) (.tmp 54) rfl _ _ _ (by rfl) (by rfl) _ HA3.out ?_))
    refine (HZ.out a s1 (by omega) z1' _).mono ?_
    rintro e w1 ⟨rfl, hb1⟩
    have L1 : Hid (Lies w1 w.heap.size ra) := LA'.out.later hb1
    have BB1 : Below w.heap.size w w1 := chainB B1 (Nat.le_refl _) (q := 0) hb1
    clear HA1 HA2 HA3 LA' B1 hb1 hS1 hmk hA
    go_wp2_with fail
    refine (HZ.out s1 a z1' (by omega) _).mono ?_
    rintro e w2 ⟨rfl, hb2⟩
    have L2 : Hid (Lies w2 w.heap.size ra) := L1.out.later hb2
    have BB2 : Below w.heap.size w w2 := chainB BB1 (Nat.le_refl _) (q := 0) hb2
    clear L1 BB1 hb2
    by_cases hkn : kk = n
    · have e0 : ((kk : Int) == (n : Int)) = true := by rw [beq_iff_eq]; omega
      clear hkn
      go_wp2_with fail
      go_ret
      exact ⟨rfl, BB2⟩
    · have e0 : ((kk : Int) == (n : Int)) = false := by rw [beq_eq_false_iff_ne]; omega
      have hkl : kk < n := by omega
      clear hkn hc2
      have hmk2 := made0 n (by omega) (n : Int) rfl w2
      obtain ⟨A3, hc3, hA3⟩ := cut_from w.heap.size n capA (kk + 1) ((kk : Int) + 1) (by omega) hna (by omega)
      have HB1 : Hid (∀ ty, (Builtin.append_ #[33, 33] ty #[.slice (some ⟨w2.heap.size, 0, none⟩) 0 n, .slice (some ⟨w.heap.size, 0, none⟩) kk capA]).run Try.prog (w2.alloc (.cells (rowC [] n) 21)) = .ok (.slice (some ⟨w2.heap.size, 0, none⟩) kk n) (w2.alloc (.cells (rowC ([] ++ ra.take kk) n) 21))) := fun ty =>
        app_last' ty n 0 kk kk w2.heap.size [] (ra.take kk) ⟨w.heap.size, 0, none⟩ capA w2 rfl rfl (by rw [List.length_take, HL.out.1]; omega) (by omega) (by omega) (fun i hi => (L2.out.alloc _).at_head kk i (by rw [List.length_take, HL.out.1]; omega))
      have HB2 : Hid (∀ ty, (Builtin.append_ #[33, 33] ty #[.slice (some ⟨w2.heap.size, 0, none⟩) kk n, .slice (some A3) (n - (kk + 1)) (capA - (kk + 1))]).run Try.prog (w2.alloc (.cells (rowC ([] ++ ra.take kk) n) 21)) = .ok (.slice (some ⟨w2.heap.size, 0, none⟩) (n - 1) n) (w2.alloc (.cells (rowC ([] ++ ra.take kk ++ ra.drop (kk + 1)) n) 21))) := fun ty =>
        app_last' ty n kk (n - (kk + 1)) (n - 1) w2.heap.size ([] ++ ra.take kk) (ra.drop (kk + 1)) A3 (capA - (kk + 1)) w2 rfl (by rw [List.nil_append, List.length_take, HL.out.1]; omega) (by rw [List.length_drop, HL.out.1]) (by omega) (by omega) (fun i hi => (L2.out.alloc _).at_tail (kk + 1) i A3 (hA3.out i hi) (by rw [HL.out.1]; omega))
      have hS2 : (convert 33 9 (.slice (some ⟨w2.heap.size, 0, none⟩) (n - 1) n)).run Try.prog (w2.alloc (.cells (rowC ([] ++ ra.take kk ++ ra.drop (kk + 1)) n) 21)) = .ok (.string (runesBytes ([] ++ ra.take kk ++ ra.drop (kk + 1)))) (w2.alloc (.cells (rowC ([] ++ ra.take kk ++ ra.drop (kk + 1)) n) 21)) :=
        string_made ⟨w2.heap.size, 0, none⟩ (n - 1) n ([] ++ ra.take kk ++ ra.drop (kk + 1)) _ (by have := HL.out.1; simp; omega) (fun i hi => by
          rw [addr_add, Nat.zero_add]
          have hL : Lies (w2.alloc (.cells (rowC ([] ++ ra.take kk ++ ra.drop (kk + 1)) n) 21)) w2.heap.size ([] ++ ra.take kk ++ ra.drop (kk + 1)) := Lies.new rfl (fun i hi => rowC_at _ _ i hi)
          exact hL i (by have := HL.out.1; simp; omega))
      have z2 := runesBytes_size_le ([] ++ ra.take kk ++ ra.drop (kk + 1))
      have z2' : (runesBytes ([] ++ ra.take kk ++ ra.drop (kk + 1))).size ≤ 100000 := by
        have e : ([] ++ ra.take kk ++ ra.drop (kk + 1)).length = n - 1 := by have := HL.out.1; simp; omega
        rw [e] at z2
        omega
      have t3 : (dl a (runesBytes ([] ++ ra.take kk ++ ra.drop (kk + 1))) != 1) = false := by rw [one_del a ra kk HL.out.2.1 (by rw [HL.out.1]; exact hkl)]; rfl
      clear z2 hA3
      generalize runesBytes ([] ++ ra.take kk ++ ra.drop (kk + 1)) = s2 at *
      generalize rowC ([] ++ ra.take kk ++ ra.drop (kk + 1)) n = D2 at *
      generalize rowC ([] ++ ra.take kk) n = D1 at *
      generalize rowC [] n = D0 at *
      have BD : Below w.heap.size w (w2.alloc (.cells D2 21)) := BB2.alloc BB2.size _
      go_wp2_with (first | (at_builtin; refine wpList_app rfl (.tmp 73) (.tmp 76) rfl _ _ _ (by rfl) (by rfl) _ HB1.out ?_) | (at_builtin; refine wpList_app rfl (.tmp 78) (.tmp 82) rfl _ _ _ (by rfl) (by rfl) _ HB2.out ?_))
      refine (HZ.out a s2 (by omega) z2' _).mono ?_
      rintro e w3 ⟨rfl, hb3⟩
      have L3 : Hid (Lies w3 w.heap.size ra) := (L2.out.alloc _).later hb3
      have BB3 : Below w.heap.size w w3 := chainB BD (Nat.le_refl _) (q := 0) hb3
      have hck := L3.out kk (by rw [HL.out.1]; exact hkl)
      have hG : w.heap.size < w3.heap.size := World.block_lt_of_cell? _ _ hck
      clear HB1 HB2 hS2 BD hb3 L2 BB2 hmk2 hc3 hc1
      have hmk3 := madeN n (by omega) w3
      have hR0 : (rowC [] n).size = n := rowC_size [] n (by simp)
      generalize rowC [] n = R0 at *
      go_wp2_with fail
      go_loopw [14] (fun i wr => ∃ (j : Nat) (R : Array Value), j ≤ n ∧ i = .int .i64 j ∧ RFill ra n j R ∧ wr = w3.alloc (.cells R 21)) (fun i _ => n - (intOf i).toNat)
      case atStart => exact ⟨0, R0, Nat.zero_le _, rfl, ⟨hR0, fun t ht => by omega⟩, rfl⟩
      case round =>
        clear hmk3 hR0
        obtain ⟨j, R, hj, rfl, HR, rfl⟩ := hrel
        by_cases hlt : j < n
        · have hcj := L3.out j (by rw [HL.out.1]; exact hlt)
          obtain ⟨v, hv⟩ : ∃ v, R[j]? = some v := ⟨_, Array.getElem?_eq_getElem (by rw [HR.1]; exact hlt)⟩
          have HX : Hid (RFill ra n (j + 1) (R.setIfInBounds j (.int .i32 (ra.getD j 0)))) := HR.next hlt
          generalize ra.getD j 0 = d at *
          go_wp2_with fail
          go_roundw
          case rel => exact ⟨j + 1, _, by omega, by go_num, HX.out, rfl⟩
          case measure => simp [intOf]; omega
        · obtain rfl : j = n := by omega
          obtain ⟨v, hv⟩ : ∃ v, R[kk]? = some v := ⟨_, Array.getElem?_eq_getElem (by rw [HR.1]; exact hkl)⟩
          have hS3 := string_made ⟨w3.heap.size, 0, none⟩ j j (ra.set kk xn) (w3.alloc (.cells (R.setIfInBounds kk (.int .i32 xn)) 21)) (by rw [List.length_set]; exact HL.out.1) (fun i hi => by rw [addr_add, Nat.zero_add, World.cell?_alloc_new]; exact HR.put HL.out.1 hkl i hi)
          have z3 := runesBytes_size_le (ra.set kk xn)
          rw [List.length_set, HL.out.1] at z3
          have F3 := one_rep a ra kk xn HL.out.2.1 (by rw [HL.out.1]; exact hkl) HL.out.2.2
          have HF : Hid (dl a (runesBytes (ra.set kk xn)) = if ra.getD kk 0 = xn then 0 else 1) := F3
          clear HR F3 hlt
          generalize runesBytes (ra.set kk xn) = s3 at *
          generalize ra.getD kk 0 = y at *
          have BR : Below w.heap.size w (w3.alloc (.cells (R.setIfInBounds kk (.int .i32 xn)) 21)) := BB3.alloc BB3.size _
          by_cases hy : y = xn
          · have t4 : (y == xn) = true := by rw [beq_iff_eq]; exact hy
            have t5 : (dl a s3 == 0) = true := by rw [HF.out, if_pos hy]; rfl
            clear hy HF
            go_wp2_with fail
            refine (HZ.out a s3 (by omega) (by omega) _).mono ?_
            rintro e w4 ⟨rfl, hb4⟩
            go_wp2_with fail
            go_ret
            exact ⟨rfl, chainB BR (Nat.le_refl _) (q := 0) hb4⟩
          · have t4 : (y == xn) = false := by rw [beq_eq_false_iff_ne]; exact hy
            have t5 : (dl a s3 == 1) = true := by rw [HF.out, if_neg hy]; rfl
            clear hy HF
            go_wp2_with fail
            refine (HZ.out a s3 (by omega) (by omega) _).mono ?_
            rintro e w4 ⟨rfl, hb4⟩
            go_wp2_with fail
            go_ret
            exact ⟨rfl, chainB BR (Nat.le_refl _) (q := 0) hb4⟩
  · go_enter Try.func6, Try.ntmps6
    go_wp2_with fail
    refine (bytes22_true _ _ _ (by omega) _).mono ?_
    rintro e w ⟨rfl, hw'⟩
    subst hw'
    go_wp2_with fail
    refine (valid_any _ _).mono ?_
    rintro e w' ⟨rfl, hw'⟩
    subst hw'
    go_wp2_with (first | (at_builtin; refine wpList_app rfl (.tmp 42) (.tmp 45) rfl _ _ _ (by rfl) (by rfl) _ HA1.out ?_) | (at_builtin; refine wpList_app rfl (.tmp 47) (.tmp 49) rfl _ _ _ (by rfl) (by rfl) _ HA2.out ?_) | (at_builtin; refine wpList_app rfl (.tmp 51) (.tmp 54) rfl _ _ _ (by rfl) (by rfl) _ HA3.out ?_))
    refine (HZ.out a s1 (by omega) z1' _).mono ?_
    rintro e w1 ⟨rfl, hb1⟩
    have L1 : Hid (Lies w1 w.heap.size ra) := LA'.out.later hb1
    have BB1 : Below w.heap.size w w1 := chainB B1 (Nat.le_refl _) (q := 0) hb1
    clear HA1 HA2 HA3 LA' B1 hb1 hS1 hmk hA
    go_wp2_with fail
    refine (HZ.out s1 a z1' (by omega) _).mono ?_
    rintro e w2 ⟨rfl, hb2⟩
    have L2 : Hid (Lies w2 w.heap.size ra) := L1.out.later hb2
    have BB2 : Below w.heap.size w w2 := chainB BB1 (Nat.le_refl _) (q := 0) hb2
    clear L1 BB1 hb2
    by_cases hkn : kk = n
    · have e0 : ((kk : Int) == (n : Int)) = true := by rw [beq_iff_eq]; omega
      clear hkn
      go_wp2_with fail
      go_ret
      exact ⟨rfl, BB2⟩
    · have e0 : ((kk : Int) == (n : Int)) = false := by rw [beq_eq_false_iff_ne]; omega
      have hkl : kk < n := by omega
      clear hkn hc2
      have hmk2 := made0 n (by omega) (n : Int) rfl w2
      obtain ⟨A3, hc3, hA3⟩ := cut_from w.heap.size n capA (kk + 1) ((kk : Int) + 1) (by omega) hna (by omega)
      have HB1 : Hid (∀ ty, (Builtin.append_ #[33, 33] ty #[.slice (some ⟨w2.heap.size, 0, none⟩) 0 n, .slice (some ⟨w.heap.size, 0, none⟩) kk capA]).run Try.prog (w2.alloc (.cells (rowC [] n) 21)) = .ok (.slice (some ⟨w2.heap.size, 0, none⟩) kk n) (w2.alloc (.cells (rowC ([] ++ ra.take kk) n) 21))) := fun ty =>
        app_last' ty n 0 kk kk w2.heap.size [] (ra.take kk) ⟨w.heap.size, 0, none⟩ capA w2 rfl rfl (by rw [List.length_take, HL.out.1]; omega) (by omega) (by omega) (fun i hi => (L2.out.alloc _).at_head kk i (by rw [List.length_take, HL.out.1]; omega))
      have HB2 : Hid (∀ ty, (Builtin.append_ #[33, 33] ty #[.slice (some ⟨w2.heap.size, 0, none⟩) kk n, .slice (some A3) (n - (kk + 1)) (capA - (kk + 1))]).run Try.prog (w2.alloc (.cells (rowC ([] ++ ra.take kk) n) 21)) = .ok (.slice (some ⟨w2.heap.size, 0, none⟩) (n - 1) n) (w2.alloc (.cells (rowC ([] ++ ra.take kk ++ ra.drop (kk + 1)) n) 21))) := fun ty =>
        app_last' ty n kk (n - (kk + 1)) (n - 1) w2.heap.size ([] ++ ra.take kk) (ra.drop (kk + 1)) A3 (capA - (kk + 1)) w2 rfl (by rw [List.nil_append, List.length_take, HL.out.1]; omega) (by rw [List.length_drop, HL.out.1]) (by omega) (by omega) (fun i hi => (L2.out.alloc _).at_tail (kk + 1) i A3 (hA3.out i hi) (by rw [HL.out.1]; omega))
      have hS2 : (convert 33 9 (.slice (some ⟨w2.heap.size, 0, none⟩) (n - 1) n)).run Try.prog (w2.alloc (.cells (rowC ([] ++ ra.take kk ++ ra.drop (kk + 1)) n) 21)) = .ok (.string (runesBytes ([] ++ ra.take kk ++ ra.drop (kk + 1)))) (w2.alloc (.cells (rowC ([] ++ ra.take kk ++ ra.drop (kk + 1)) n) 21)) :=
        string_made ⟨w2.heap.size, 0, none⟩ (n - 1) n ([] ++ ra.take kk ++ ra.drop (kk + 1)) _ (by have := HL.out.1; simp; omega) (fun i hi => by
          rw [addr_add, Nat.zero_add]
          have hL : Lies (w2.alloc (.cells (rowC ([] ++ ra.take kk ++ ra.drop (kk + 1)) n) 21)) w2.heap.size ([] ++ ra.take kk ++ ra.drop (kk + 1)) := Lies.new rfl (fun i hi => rowC_at _ _ i hi)
          exact hL i (by have := HL.out.1; simp; omega))
      have z2 := runesBytes_size_le ([] ++ ra.take kk ++ ra.drop (kk + 1))
      have z2' : (runesBytes ([] ++ ra.take kk ++ ra.drop (kk + 1))).size ≤ 100000 := by
        have e : ([] ++ ra.take kk ++ ra.drop (kk + 1)).length = n - 1 := by have := HL.out.1; simp; omega
        rw [e] at z2
        omega
      have t3 : (dl a (runesBytes ([] ++ ra.take kk ++ ra.drop (kk + 1))) != 1) = false := by rw [one_del a ra kk HL.out.2.1 (by rw [HL.out.1]; exact hkl)]; rfl
      clear z2 hA3
      generalize runesBytes ([] ++ ra.take kk ++ ra.drop (kk + 1)) = s2 at *
      generalize rowC ([] ++ ra.take kk ++ ra.drop (kk + 1)) n = D2 at *
      generalize rowC ([] ++ ra.take kk) n = D1 at *
      generalize rowC [] n = D0 at *
      have BD : Below w.heap.size w (w2.alloc (.cells D2 21)) := BB2.alloc BB2.size _
      go_wp2_with (first | (at_builtin; refine wpList_app rfl (.tmp 73) (.tmp 76) rfl _ _ _ (by rfl) (by rfl) _ HB1.out ?_) | (at_builtin; refine wpList_app rfl (.tmp 78) (.tmp 82) rfl _ _ _ (by rfl) (by rfl) _ HB2.out ?_))
      refine (HZ.out a s2 (by omega) z2' _).mono ?_
      rintro e w3 ⟨rfl, hb3⟩
      have L3 : Hid (Lies w3 w.heap.size ra) := (L2.out.alloc _).later hb3
      have BB3 : Below w.heap.size w w3 := chainB BD (Nat.le_refl _) (q := 0) hb3
      have hck := L3.out kk (by rw [HL.out.1]; exact hkl)
      have hG : w.heap.size < w3.heap.size := World.block_lt_of_cell? _ _ hck
      clear HB1 HB2 hS2 BD hb3 L2 BB2 hmk2 hc3 hc1
      have hmk3 := madeN n (by omega) w3
      have hR0 : (rowC [] n).size = n := rowC_size [] n (by simp)
      generalize rowC [] n = R0 at *
      go_wp2_with fail
      go_loopw [14] (fun i wr => ∃ (j : Nat) (R : Array Value), j ≤ n ∧ i = .int .i64 j ∧ RFill ra n j R ∧ wr = w3.alloc (.cells R 21)) (fun i _ => n - (intOf i).toNat)
      case atStart => exact ⟨0, R0, Nat.zero_le _, rfl, ⟨hR0, fun t ht => by omega⟩, rfl⟩
      case round =>
        clear hmk3 hR0
        obtain ⟨j, R, hj, rfl, HR, rfl⟩ := hrel
        by_cases hlt : j < n
        · have hcj := L3.out j (by rw [HL.out.1]; exact hlt)
          obtain ⟨v, hv⟩ : ∃ v, R[j]? = some v := ⟨_, Array.getElem?_eq_getElem (by rw [HR.1]; exact hlt)⟩
          have HX : Hid (RFill ra n (j + 1) (R.setIfInBounds j (.int .i32 (ra.getD j 0)))) := HR.next hlt
          generalize ra.getD j 0 = d at *
          go_wp2_with fail
          go_roundw
          case rel => exact ⟨j + 1, _, by omega, by go_num, HX.out, rfl⟩
          case measure => simp [intOf]; omega
        · obtain rfl : j = n := by omega
          obtain ⟨v, hv⟩ : ∃ v, R[kk]? = some v := ⟨_, Array.getElem?_eq_getElem (by rw [HR.1]; exact hkl)⟩
          have hS3 := string_made ⟨w3.heap.size, 0, none⟩ j j (ra.set kk 65533) (w3.alloc (.cells (R.setIfInBounds kk (.int .i32 65533)) 21)) (by rw [List.length_set]; exact HL.out.1) (fun i hi => by rw [addr_add, Nat.zero_add, World.cell?_alloc_new]; exact HR.put HL.out.1 hkl i hi)
          have z3 := runesBytes_size_le (ra.set kk 65533)
          rw [List.length_set, HL.out.1] at z3
          have F3 := one_rep a ra kk 65533 HL.out.2.1 (by rw [HL.out.1]; exact hkl) HL.out.2.2
          have HF : Hid (dl a (runesBytes (ra.set kk 65533)) = if ra.getD kk 0 = 65533 then 0 else 1) := F3
          clear HR F3 hlt
          generalize runesBytes (ra.set kk 65533) = s3 at *
          generalize ra.getD kk 0 = y at *
          have BR : Below w.heap.size w (w3.alloc (.cells (R.setIfInBounds kk (.int .i32 65533)) 21)) := BB3.alloc BB3.size _
          by_cases hy : y = 65533
          · have t4 : (y == 65533) = true := by rw [beq_iff_eq]; exact hy
            have t5 : (dl a s3 == 0) = true := by rw [HF.out, if_pos hy]; rfl
            clear hy HF
            go_wp2_with fail
            refine (HZ.out a s3 (by omega) (by omega) _).mono ?_
            rintro e w4 ⟨rfl, hb4⟩
            go_wp2_with fail
            go_ret
            exact ⟨rfl, chainB BR (Nat.le_refl _) (q := 0) hb4⟩
          · have t4 : (y == 65533) = false := by rw [beq_eq_false_iff_ne]; exact hy
            have t5 : (dl a s3 == 1) = true := by rw [HF.out, if_neg hy]; rfl
            clear hy HF
            go_wp2_with fail
            refine (HZ.out a s3 (by omega) (by omega) _).mono ?_
            rintro e w4 ⟨rfl, hb4⟩
            go_wp2_with fail
            go_ret
            exact ⟨rfl, chainB BR (Nat.le_refl _) (q := 0) hb4⟩
/-- THE WALK. -/
theorem one_any (a : ByteArray) (k x : Int) (ha : a.size ≤ 9223372036854775807) (w : World) :
    Calls Try.prog 6 #[.string a, .int .i64 k, .int .i32 x] w fun e w' => e = .returned (.bool true) ∧ Below w.heap.size w w' := by
  by_cases h : a.size ≤ 4096
  · obtain ⟨capA, CA, hA, hnA, hCA⟩ := runes_made a (by omega) w
    have l1 := runes_length a
    by_cases hk : k < 0 ∨ ((runes a).length : Int) < k
    · exact one_out (runes a).length a k x capA CA h (by omega) hk w hA
    · obtain ⟨kk, rfl⟩ : ∃ kk : Nat, k = kk := ⟨k.toNat, by omega⟩
      cases hv : vldB x
      · exact one_core (runes a).length kk a x 65533 (runes a) capA CA w h (by omega) hnA (by omega) (.inr ⟨hv, rfl⟩) (by unfold Vld; omega) rfl rfl hA hCA
      · exact one_core (runes a).length kk a x x (runes a) capA CA w h (by omega) hnA (by omega) (.inl ⟨hv, rfl⟩) ((vldB_iff x).1 hv) rfl rfl hA hCA
  · exact one_long a k x ha (by omega) w
end Go.Proofs.Qxb6619375a
