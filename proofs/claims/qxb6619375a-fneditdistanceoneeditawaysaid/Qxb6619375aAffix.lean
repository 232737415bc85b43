/-
  THE WALK of FnEditDistanceCommonAffixesAndSymmetry (seat b6619375a).
-/
import Derived.Test.Qxb6619375aCommon
namespace Go.Proofs.Qxb6619375a
open Go.RowKit
set_option linter.unusedVariables false

theorem affix_long (p a b s : ByteArray) (hp : p.size ≤ 9223372036854775807) (ha : a.size ≤ 9223372036854775807) (hb : b.size ≤ 9223372036854775807) (hs : s.size ≤ 9223372036854775807)
    (h : ¬ (p.size ≤ 4096 ∧ a.size ≤ 4096 ∧ b.size ≤ 4096 ∧ s.size ≤ 4096)) (w : World) :
    Calls Try.prog 7 #[.string p, .string a, .string b, .string s] w fun e w' => e = .returned (.bool true) ∧ Below w.heap.size w w' := by
  by_cases h1 : p.size + a.size + b.size + s.size ≤ 1048576
  · by_cases h2 : p.size ≤ 4096
    · by_cases h3 : a.size ≤ 4096
      · by_cases h4 : b.size ≤ 4096
        · have h5 : 4096 < s.size := by omega
          clear h
          go_enter Try.func7, Try.ntmps7
          go_wp2_with (go_at_call 24; refine (bytes24_true _ _ _ _ h1 _).mono ?_; rintro e w' ⟨rfl, rfl⟩)
          go_ret
          exact ⟨rfl, Below.refl _ _⟩
        · clear h
          go_enter Try.func7, Try.ntmps7
          go_wp2_with (go_at_call 24; refine (bytes24_true _ _ _ _ h1 _).mono ?_; rintro e w' ⟨rfl, rfl⟩)
          go_ret
          exact ⟨rfl, Below.refl _ _⟩
      · clear h
        go_enter Try.func7, Try.ntmps7
        go_wp2_with (go_at_call 24; refine (bytes24_true _ _ _ _ h1 _).mono ?_; rintro e w' ⟨rfl, rfl⟩)
        go_ret
        exact ⟨rfl, Below.refl _ _⟩
    · clear h
      go_enter Try.func7, Try.ntmps7
      go_wp2_with (go_at_call 24; refine (bytes24_true _ _ _ _ h1 _).mono ?_; rintro e w' ⟨rfl, rfl⟩)
      go_ret
      exact ⟨rfl, Below.refl _ _⟩
  · clear h
    go_enter Try.func7, Try.ntmps7
    go_wp2_with (go_at_call 24; refine (bytes24_false _ _ _ _ hp ha hb hs (by omega) _).mono ?_; rintro e w' ⟨rfl, rfl⟩)
    go_ret
    exact ⟨rfl, Below.refl _ _⟩

theorem Lies.new {w : World} {g : Nat} {C : Array Value} {zs : List Int} (hg : g = w.heap.size) (h : ∀ i, i < zs.length → C[i]? = some (.int .i32 (zs.getD i 0))) : Lies (w.alloc (.cells C 21)) g zs := fun i hi => by
  subst hg
  rw [World.cell?_alloc_new]
  exact h i hi
theorem Lies.alloc {w : World} {g : Nat} {zs : List Int} (h : Lies w g zs) (o : Obj) : Lies (w.alloc o) g zs := h.later ((Below.refl _ _).alloc (Nat.le_refl _) _)
/-- The law, plain. -/
theorem affix_law (p a b s : ByteArray) : dl (runesBytes (runes p ++ runes a ++ runes s)) (runesBytes (runes p ++ runes b ++ runes s)) = dl a b := by
  have v : ∀ t : ByteArray, ∀ r ∈ runes p ++ runes t ++ runes s, Vld r := fun t r hr => by
    simp only [List.mem_append] at hr
    rcases hr with (h | h) | h
    · exact runes_valid p r h
    · exact runes_valid t r h
    · exact runes_valid s r h
  unfold dl
  rw [runes_back _ (v a), runes_back _ (v b), Lev.lev_affixes]
theorem sym_law (a b : ByteArray) : dl b a = dl a b := by unfold dl; rw [Lev.lev_comm]
theorem zero_law (a b : ByteArray) : dl a b = 0 ↔ runes a = runes b := by
  unfold dl
  rw [← Lev.lev_zero]
  omega

set_option maxRecDepth 100000 in
set_option maxHeartbeats 2000000 in
theorem affix_core (np na nb ns : Nat) (p a b s : ByteArray) (rp ra rb rs : List Int) (cp ca cb cs : Nat) (CP CA CB CS : Array Value) (w : World)
    (sp : p.size ≤ 4096) (sa : a.size ≤ 4096) (sb : b.size ≤ 4096) (ss : s.size ≤ 4096) (mp : np ≤ 4096) (ma : na ≤ 4096) (mb : nb ≤ 4096) (ms : ns ≤ 4096) (kp : np ≤ cp) (ka : na ≤ ca) (kb : nb ≤ cb) (ks : ns ≤ cs)
    (hl : rp.length = np ∧ ra.length = na ∧ rb.length = nb ∧ rs.length = ns) (hr : runes p = rp ∧ runes a = ra ∧ runes b = rb ∧ runes s = rs)
    (hP : (convert 9 33 (.string p)).run Try.prog w = .ok (.slice (some ⟨w.heap.size, 0, none⟩) np cp) (w.alloc (.cells CP 21)).drew)
    (hA : (convert 9 33 (.string a)).run Try.prog (w.alloc (.cells CP 21)).drew = .ok (.slice (some ⟨w.heap.size + 1, 0, none⟩) na ca) ((w.alloc (.cells CP 21)).alloc (.cells CA 21)).drew.drew)
    (hB : (convert 9 33 (.string b)).run Try.prog ((w.alloc (.cells CP 21)).alloc (.cells CA 21)).drew.drew = .ok (.slice (some ⟨w.heap.size + 1 + 1, 0, none⟩) nb cb) (((w.alloc (.cells CP 21)).alloc (.cells CA 21)).alloc (.cells CB 21)).drew.drew.drew)
    (hS : (convert 9 33 (.string s)).run Try.prog (((w.alloc (.cells CP 21)).alloc (.cells CA 21)).alloc (.cells CB 21)).drew.drew.drew = .ok (.slice (some ⟨w.heap.size + 1 + 1 + 1, 0, none⟩) ns cs) ((((w.alloc (.cells CP 21)).alloc (.cells CA 21)).alloc (.cells CB 21)).alloc (.cells CS 21)).drew.drew.drew.drew)
    (hCP : ∀ i, i < np → CP[i]? = some (.int .i32 (rp.getD i 0))) (hCA : ∀ i, i < na → CA[i]? = some (.int .i32 (ra.getD i 0))) (hCB : ∀ i, i < nb → CB[i]? = some (.int .i32 (rb.getD i 0))) (hCS : ∀ i, i < ns → CS[i]? = some (.int .i32 (rs.getD i 0))) :
    Calls Try.prog 7 #[.string p, .string a, .string b, .string s] w fun e w' => e = .returned (.bool true) ∧ Below w.heap.size w w' := by
  have HL : Hid ((rp.length = np ∧ ra.length = na ∧ rb.length = nb ∧ rs.length = ns) ∧ (runes p = rp ∧ runes a = ra ∧ runes b = rb ∧ runes s = rs)) := ⟨hl, hr⟩
  have LP : Hid (Lies ((((w.alloc (.cells CP 21)).alloc (.cells CA 21)).alloc (.cells CB 21)).alloc (.cells CS 21)).drew.drew.drew.drew w.heap.size rp) := (((Lies.new rfl (fun i hi => hCP i (by omega))).alloc _).alloc _).alloc _
  have LA : Hid (Lies ((((w.alloc (.cells CP 21)).alloc (.cells CA 21)).alloc (.cells CB 21)).alloc (.cells CS 21)).drew.drew.drew.drew (w.heap.size + 1) ra) := ((Lies.new (by simp) (fun i hi => hCA i (by omega))).alloc _).alloc _
  have LB : Hid (Lies ((((w.alloc (.cells CP 21)).alloc (.cells CA 21)).alloc (.cells CB 21)).alloc (.cells CS 21)).drew.drew.drew.drew (w.heap.size + 1 + 1) rb) := (Lies.new (by simp) (fun i hi => hCB i (by omega))).alloc _
  have LS : Hid (Lies ((((w.alloc (.cells CP 21)).alloc (.cells CA 21)).alloc (.cells CB 21)).alloc (.cells CS 21)).drew.drew.drew.drew (w.heap.size + 1 + 1 + 1) rs) := Lies.new (by simp) (fun i hi => hCS i (by omega))
  have HZ : Hid (∀ s t : ByteArray, s.size ≤ 100000 → t.size ≤ 100000 → ∀ w, Calls Try.prog 20 #[.string s, .string t] w fun e w' => e = .returned (.int .i64 (dl s t)) ∧ Below w.heap.size w w') := fun s t hs ht w => zdl s t hs ht w
  have F1 : Hid (dl (runesBytes (rp ++ ra ++ rs)) (runesBytes (rp ++ rb ++ rs)) = dl a b) := by
    have := affix_law p a b s
    rw [hr.1, hr.2.1, hr.2.2.1, hr.2.2.2] at this
    exact this
  have F0 : Hid (dl a b = 0 ↔ ra = rb) := by
    have := zero_law a b
    rw [hr.2.1, hr.2.2.1] at this
    exact this
  have z1 := runesBytes_size_le (rp ++ ra ++ rs)
  have z2 := runesBytes_size_le (rp ++ rb ++ rs)
  simp only [List.length_append] at z1 z2
  have z1' : (runesBytes (rp ++ ra ++ rs)).size ≤ 100000 := by omega
  have z2' : (runesBytes (rp ++ rb ++ rs)).size ≤ 100000 := by omega
  clear hCP hCA hCB hCS hl hr z1 z2
  have BW : Below w.heap.size w ((((w.alloc (.cells CP 21)).alloc (.cells CA 21)).alloc (.cells CB 21)).alloc (.cells CS 21)).drew.drew.drew.drew := (((((Below.refl _ _).alloc (Nat.le_refl _) _).alloc (by simp) _).alloc (by simp; omega) _).alloc (by simp; omega) _).drew.drew.drew.drew
  go_enter Try.func7, Try.ntmps7
  go_wp2_with fail
  refine (bytes24_true _ _ _ _ (by omega) _).mono ?_
  rintro e w ⟨rfl, hw'⟩
  subst hw'
  go_wp2_with fail
  refine (concat_any _ _ _ _ _ _ _ _ _ rp ra rs _ HL.out.1.1 HL.out.1.2.1 HL.out.1.2.2.2 (by omega) (by exact LP.out) (by exact LA.out) (by exact LS.out)).mono ?_
  rintro e w5 ⟨rfl, L5, hb5⟩
  have e4 : ((((w.alloc (.cells CP 21)).alloc (.cells CA 21)).alloc (.cells CB 21)).alloc (.cells CS 21)).drew.drew.drew.drew.heap.size = w.heap.size + 1 + 1 + 1 + 1 := by simp
  have hS1 := string_made ⟨w.heap.size + 1 + 1 + 1 + 1, 0, none⟩ (np + na + ns) (np + na + ns) (rp ++ ra ++ rs) w5 (by simp only [List.length_append]; have := HL.out.1; omega) (fun i hi => by rw [addr_add, Nat.zero_add, ← e4]; exact L5 i (by simp only [List.length_append]; have := HL.out.1; omega))
  have LP5 : Hid (Lies w5 w.heap.size rp) := LP.out.later hb5
  have LA5 : Hid (Lies w5 (w.heap.size + 1) ra) := LA.out.later hb5
  have LB5 : Hid (Lies w5 (w.heap.size + 1 + 1) rb) := LB.out.later hb5
  have LS5 : Hid (Lies w5 (w.heap.size + 1 + 1 + 1) rs) := LS.out.later hb5
  have B5 : Below w.heap.size w w5 := chainB BW (Nat.le_refl _) (q := 0) hb5
  clear L5 LP LA LB LS hP hA hB hS BW e4 hb5
  generalize runesBytes (rp ++ ra ++ rs) = x at *
  go_wp2_with fail
  refine (concat_any _ _ _ _ _ _ _ _ _ rp rb rs _ HL.out.1.1 HL.out.1.2.2.1 HL.out.1.2.2.2 (by omega) (by exact LP5.out) (by exact LB5.out) (by exact LS5.out)).mono ?_
  rintro e w6 ⟨rfl, L6, hb6⟩
  have hS2 := string_made ⟨w5.heap.size, 0, none⟩ (np + nb + ns) (np + nb + ns) (rp ++ rb ++ rs) w6 (by simp only [List.length_append]; have := HL.out.1; omega) (fun i hi => by rw [addr_add, Nat.zero_add]; exact L6 i (by simp only [List.length_append]; have := HL.out.1; omega))
  have LA6 : Hid (Lies w6 (w.heap.size + 1) ra) := LA5.out.later hb6
  have LB6 : Hid (Lies w6 (w.heap.size + 1 + 1) rb) := LB5.out.later hb6
  have B6 : Below w.heap.size w w6 := chainB B5 (Nat.le_refl _) (q := 0) hb6
  clear L6 LP5 LA5 LB5 LS5 hb6 hS1 B5
  generalize runesBytes (rp ++ rb ++ rs) = y at *
  go_wp2_with fail
  refine (HZ.out a b (by omega) (by omega) _).mono ?_
  rintro e w7 ⟨rfl, hb7⟩
  have LA7 : Hid (Lies w7 (w.heap.size + 1) ra) := LA6.out.later hb7
  have LB7 : Hid (Lies w7 (w.heap.size + 1 + 1) rb) := LB6.out.later hb7
  have B7 : Below w.heap.size w w7 := chainB B6 (Nat.le_refl _) (q := 0) hb7
  clear hb7 LA6 LB6 B6 hS2
  go_wp2_with fail
  refine (HZ.out x y z1' z2' _).mono ?_
  rintro e w8 ⟨rfl, hb8⟩
  have LA8 : Hid (Lies w8 (w.heap.size + 1) ra) := LA7.out.later hb8
  have LB8 : Hid (Lies w8 (w.heap.size + 1 + 1) rb) := LB7.out.later hb8
  have B8 : Below w.heap.size w w8 := chainB B7 (Nat.le_refl _) (q := 0) hb8
  have t1 : (dl x y != dl a b) = false := by rw [F1.out]; simp
  have t2 : (dl b a != dl a b) = false := by rw [sym_law a b]; simp
  clear hb8 LA7 LB7 B7
  go_wp2_with fail
  refine (HZ.out b a (by omega) (by omega) _).mono ?_
  rintro e w9 ⟨rfl, hb9⟩
  have LA9 : Hid (Lies w9 (w.heap.size + 1) ra) := LA8.out.later hb9
  have LB9 : Hid (Lies w9 (w.heap.size + 1 + 1) rb) := LB8.out.later hb9
  have B9 : Below w.heap.size w w9 := chainB B8 (Nat.le_refl _) (q := 0) hb9
  clear hb9 LA8 LB8 B8
  by_cases hab : ra = rb
  · have t3 : (dl a b == 0) = true := by rw [beq_iff_eq]; exact F0.out.2 hab
    have hn : na = nb := by have := HL.out.1; rw [← this.2.1, ← this.2.2.1, hab]
    have HE : Hid (Calls Try.prog 26 #[.slice (some ⟨w.heap.size + 1, 0, none⟩) na ca, .slice (some ⟨w.heap.size + 1 + 1, 0, none⟩) nb cb] w9 fun e w' => e = .returned (.bool true) ∧ ∃ q, w' = w9.drewN q) := by
      subst hn
      subst hab
      exact equal_yes _ _ na ca cb ra w9 HL.out.1.2.1 (by omega) LA9.out LB9.out ka kb
    clear hab hn
    go_wp2_with fail
    refine HE.out.mono ?_
    rintro e w10 ⟨rfl, q, rfl⟩
    go_wp2_with fail
    go_ret
    exact ⟨rfl, below_drewN' B9 _⟩
  · have t3 : (dl a b == 0) = false := by rw [beq_eq_false_iff_ne]; exact fun e => hab (F0.out.1 e)
    have HE : Hid (Calls Try.prog 26 #[.slice (some ⟨w.heap.size + 1, 0, none⟩) na ca, .slice (some ⟨w.heap.size + 1 + 1, 0, none⟩) nb cb] w9 fun e w' => e = .returned (.bool false) ∧ ∃ q, w' = w9.drewN q) :=
      equal_no _ _ na nb ca cb ra rb w9 HL.out.1.2.1 HL.out.1.2.2.1 (by omega) (by omega) LA9.out LB9.out ka kb hab
    clear hab
    go_wp2_with fail
    refine HE.out.mono ?_
    rintro e w10 ⟨rfl, q, rfl⟩
    go_wp2_with fail
    go_ret
    exact ⟨rfl, below_drewN' B9 _⟩
/-- THE WALK. -/
theorem affix_any (p a b s : ByteArray) (hp : p.size ≤ 9223372036854775807) (ha : a.size ≤ 9223372036854775807) (hb : b.size ≤ 9223372036854775807) (hs : s.size ≤ 9223372036854775807) (w : World) :
    Calls Try.prog 7 #[.string p, .string a, .string b, .string s] w fun e w' => e = .returned (.bool true) ∧ Below w.heap.size w w' := by
  by_cases h : p.size ≤ 4096 ∧ a.size ≤ 4096 ∧ b.size ≤ 4096 ∧ s.size ≤ 4096
  · obtain ⟨h1, h2, h3, h4⟩ := h
    obtain ⟨cp, CP, hP, kp, hCP⟩ := runes_made p (by omega) w
    obtain ⟨ca, CA, hA, ka, hCA⟩ := runes_made a (by omega) (w.alloc (.cells CP 21)).drew
    obtain ⟨cb, CB, hB, kb, hCB⟩ := runes_made b (by omega) ((w.alloc (.cells CP 21)).alloc (.cells CA 21)).drew.drew
    obtain ⟨cs, CS, hS, ks, hCS⟩ := runes_made s (by omega) (((w.alloc (.cells CP 21)).alloc (.cells CA 21)).alloc (.cells CB 21)).drew.drew.drew
    have e1 : (w.alloc (.cells CP 21)).drew.heap.size = w.heap.size + 1 := by simp
    have e2 : ((w.alloc (.cells CP 21)).alloc (.cells CA 21)).drew.drew.heap.size = w.heap.size + 1 + 1 := by simp
    have e3 : (((w.alloc (.cells CP 21)).alloc (.cells CA 21)).alloc (.cells CB 21)).drew.drew.drew.heap.size = w.heap.size + 1 + 1 + 1 := by simp
    rw [e1] at hA
    rw [e2] at hB
    rw [e3] at hS
    have l1 := runes_length p
    have l2 := runes_length a
    have l3 := runes_length b
    have l4 := runes_length s
    exact affix_core (runes p).length (runes a).length (runes b).length (runes s).length p a b s (runes p) (runes a) (runes b) (runes s) cp ca cb cs CP CA CB CS w h1 h2 h3 h4 (by omega) (by omega) (by omega) (by omega) kp ka kb ks ⟨rfl, rfl, rfl, rfl⟩ ⟨rfl, rfl, rfl, rfl⟩ hP hA hB hS hCP hCA hCB hCS
  · exact affix_long p a b s hp ha hb hs h w
end Go.Proofs.Qxb6619375a
