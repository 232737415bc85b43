/-
  THE CONTRACTS of concat3 and runesEqual, AND THE WALK of FnEditDistanceCommonAffixesAndSymmetry (seat b6619375a).
-/
import Derived.Test.Qxb6619375aRow
namespace Go.Proofs.Qxb6619375a
open Go.RowKit
set_option linter.unusedVariables false

/-- A slice of runes that lies from a block's head on. -/
def Lies (w : World) (g : Nat) (zs : List Int) : Prop := ∀ i, i < zs.length → w.cell? ⟨g, i, none⟩ = some (.int .i32 (zs.getD i 0))
theorem Lies.later {w w' : World} {g : Nat} {zs : List Int} (h : Lies w g zs) (hb : Below w.heap.size w w') : Lies w' g zs := fun i hi => cell_later hb (h i hi)
theorem Lies.drawn {w : World} {g : Nat} {zs : List Int} (h : Lies w g zs) (q : Nat) : Lies (w.drewN q) g zs := h

theorem Hid.mk {p : Prop} (h : p) : Hid p := h
set_option maxRecDepth 100000 in
set_option maxHeartbeats 1000000 in
theorem concat_any (g1 g2 g3 n1 n2 n3 c1 c2 c3 : Nat) (z1 z2 z3 : List Int) (w : World) (l1 : z1.length = n1) (l2 : z2.length = n2) (l3 : z3.length = n3) (hn : n1 + n2 + n3 ≤ 100000)
    (h1 : Lies w g1 z1) (h2 : Lies w g2 z2) (h3 : Lies w g3 z3) :
    Calls Try.prog 25 #[.slice (some ⟨g1, 0, none⟩) n1 c1, .slice (some ⟨g2, 0, none⟩) n2 c2, .slice (some ⟨g3, 0, none⟩) n3 c3] w fun e w' =>
      e = .returned (.slice (some ⟨w.heap.size, 0, none⟩) (n1 + n2 + n3) (n1 + n2 + n3)) ∧ Lies w' w.heap.size (z1 ++ z2 ++ z3) ∧ Below w.heap.size w w' := by
  have hmk := made0 (n1 + n2 + n3) hn ((n1 : Int) + (n2 : Int) + (n3 : Int)) (by omega) w
  have later : ∀ (o : Obj) (g i : Nat) (z : List Int), Lies w g z → i < z.length → (w.alloc o).cell? ((⟨g, 0, none⟩ : Addr).add i) = some (.int .i32 (z.getD i 0)) := fun o g i z h hi => by
    rw [addr_add, Nat.zero_add]
    exact cell_later ((Below.refl _ _).alloc (Nat.le_refl _) _) (h i hi)
  have ha1 := fun ty => app_last ty (n1 + n2 + n3) 0 n1 [] z1 ⟨g1, 0, none⟩ c1 w rfl l1 (by omega) (fun i hi => later _ g1 i z1 h1 (by omega))
  have ha2 := fun ty => app_last ty (n1 + n2 + n3) n1 n2 ([] ++ z1) z2 ⟨g2, 0, none⟩ c2 w (by simpa using l1) l2 (by omega) (fun i hi => later _ g2 i z2 h2 (by omega))
  have ha3 := fun ty => app_last ty (n1 + n2 + n3) (n1 + n2) n3 ([] ++ z1 ++ z2) z3 ⟨g3, 0, none⟩ c3 w (by simp; omega) l3 (by omega) (fun i hi => later _ g3 i z3 h3 (by omega))
  have HL : Hid (Lies (w.alloc (.cells (rowC ([] ++ z1 ++ z2 ++ z3) (n1 + n2 + n3)) 21)) w.heap.size (z1 ++ z2 ++ z3)) := fun i hi => by
    rw [World.cell?_alloc_new, List.nil_append]
    exact rowC_at _ _ i hi
  rw [Nat.zero_add] at ha1
  clear later h1 h2 h3
  generalize rowC ([] ++ z1 ++ z2 ++ z3) (n1 + n2 + n3) = R3 at *
  generalize rowC ([] ++ z1 ++ z2) (n1 + n2 + n3) = R2 at *
  generalize rowC ([] ++ z1) (n1 + n2 + n3) = R1 at *
  generalize rowC [] (n1 + n2 + n3) = R0 at *
  have HA1 := Hid.mk ha1
  have HA2 := Hid.mk ha2
  have HA3 := Hid.mk ha3
  clear ha1 ha2 ha3
  go_enter Try.func25, Try.ntmps25
  go_wp2_with (first | (at_builtin; refine wpList_app rfl (.tmp 17) (.tmp 18) rfl _ _ _ (by rfl) (by rfl) _ HA1.out ?_) | (at_builtin; refine wpList_app rfl (.tmp 20) (.tmp 21) rfl _ _ _ (by rfl) (by rfl) _ HA2.out ?_) | (at_builtin; refine wpList_app rfl (.tmp 23) (.tmp 24) rfl _ _ _ (by rfl) (by rfl) _ HA3.out ?_))
  go_ret
  exact ⟨rfl, HL.out, (Below.refl _ _).alloc (Nat.le_refl _) _⟩

set_option maxRecDepth 100000 in
set_option maxHeartbeats 1000000 in
/-- runesEqual, of equal ones. -/
theorem equal_yes (g1 g2 n c1 c2 : Nat) (zs : List Int) (w : World) (l : zs.length = n) (hn : n ≤ 100000) (h1 : Lies w g1 zs) (h2 : Lies w g2 zs) (hc1 : n ≤ c1) (hc2 : n ≤ c2) :
    Calls Try.prog 26 #[.slice (some ⟨g1, 0, none⟩) n c1, .slice (some ⟨g2, 0, none⟩) n c2] w fun e w' => e = .returned (.bool true) ∧ ∃ q, w' = w.drewN q := by
  have H : Hid (zs.length = n ∧ Lies w g1 zs ∧ Lies w g2 zs) := ⟨l, h1, h2⟩
  clear h1 h2 l
  go_enter Try.func26, Try.ntmps26
  go_wp2_with fail
  go_loopw [5] (fun i wr => ∃ k q : Nat, k ≤ n ∧ i = .int .i64 k ∧ wr = w.drewN q) (fun i _ => n - (intOf i).toNat)
  case atStart => exact ⟨0, 0, Nat.zero_le _, rfl, rfl⟩
  case round =>
    obtain ⟨k, q, hk, rfl, rfl⟩ := hrel
    by_cases hlt : k < n
    · have hx := H.out.2.1 k (by rw [H.out.1]; exact hlt)
      have hy := H.out.2.2 k (by rw [H.out.1]; exact hlt)
      generalize zs.getD k 0 = d at *
      go_wp2_with fail
      go_quiet (fail)
      go_wp2_with fail
      go_roundw
      case rel => exact ⟨k + 1, _, by omega, by go_num, rfl⟩
      case measure => simp [intOf]; omega
    · go_wp2_with fail
      go_ret
      exact ⟨rfl, _, rfl⟩
set_option maxRecDepth 100000 in
set_option maxHeartbeats 1000000 in
/-- runesEqual, of two that differ. -/
theorem equal_no (g1 g2 n m c1 c2 : Nat) (za zb : List Int) (w : World) (la : za.length = n) (lb : zb.length = m) (hn : n ≤ 100000) (hm : m ≤ 100000) (h1 : Lies w g1 za) (h2 : Lies w g2 zb) (hc1 : n ≤ c1) (hc2 : m ≤ c2) (hne : za ≠ zb) :
    Calls Try.prog 26 #[.slice (some ⟨g1, 0, none⟩) n c1, .slice (some ⟨g2, 0, none⟩) m c2] w fun e w' => e = .returned (.bool false) ∧ ∃ q, w' = w.drewN q := by
  have H : Hid (za.length = n ∧ zb.length = m ∧ Lies w g1 za ∧ Lies w g2 zb ∧ za ≠ zb) := ⟨la, lb, h1, h2, hne⟩
  clear h1 h2 la lb hne
  by_cases hl : n = m
  · subst hl
    go_enter Try.func26, Try.ntmps26
    go_wp2_with fail
    go_loopw [5] (fun i wr => ∃ k q : Nat, k ≤ n ∧ i = .int .i64 k ∧ Hid (∀ j, j < k → za.getD j 0 = zb.getD j 0) ∧ wr = w.drewN q) (fun i _ => n - (intOf i).toNat)
    case atStart => exact ⟨0, 0, Nat.zero_le _, rfl, fun j hj => by omega, rfl⟩
    case round =>
      obtain ⟨k, q, hk, rfl, HJ, rfl⟩ := hrel
      by_cases hlt : k < n
      · have hx := H.out.2.2.1 k (by rw [H.out.1]; exact hlt)
        have hy := H.out.2.2.2.1 k (by rw [H.out.2.1]; exact hlt)
        have HN : Hid (za.getD k 0 = zb.getD k 0 → ∀ j, j < k + 1 → za.getD j 0 = zb.getD j 0) := fun e j hj => by
          by_cases e2 : j < k
          · exact HJ.out j e2
          · obtain rfl : j = k := by omega
            exact e
        clear HJ
        generalize za.getD k 0 = x at *
        generalize zb.getD k 0 = y at *
        by_cases hxy : x = y
        · have he : (x != y) = false := by simpa using hxy
          have HM := HN.out hxy
          have HM' : Hid (∀ j, j < k + 1 → za.getD j 0 = zb.getD j 0) := HM
          clear HM hxy HN
          go_wp2_with fail
          go_quiet (fail)
          go_wp2_with fail
          go_roundw
          case rel => exact ⟨k + 1, _, by omega, by go_num, HM', rfl⟩
          case measure => simp [intOf]; omega
        · have he : (x != y) = true := by simpa using hxy
          clear hxy HN
          go_wp2_with fail
          go_quiet (fail)
          go_wp2_with fail
          go_ret
          exact ⟨rfl, q + nq, by simp [World.drewN, Nat.add_assoc]⟩
      · exfalso
        apply H.out.2.2.2.2
        apply List.ext_getElem
        · rw [H.out.1, H.out.2.1]
        · intro i i1 i2
          have := HJ.out i (by rw [H.out.1] at i1; omega)
          simpa [List.getD, List.getElem?_eq_getElem i1, List.getElem?_eq_getElem i2] using this
  · have e1 : ((n : Int) != (m : Int)) = true := by rw [bne_iff_ne]; omega
    go_enter Try.func26, Try.ntmps26
    go_wp2_with fail
    go_ret
    exact ⟨rfl, 0, rfl⟩
end Go.Proofs.Qxb6619375a
