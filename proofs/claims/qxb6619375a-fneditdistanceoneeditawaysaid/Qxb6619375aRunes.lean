/-
  RUNES (seat b6619375a), plain: the runes of a string; that a list of valid runes, written as a string, reads as that list again. No walk.
-/
import Derived.Laws.IdiomStrings
import Derived.Laws.Cover4
import Derived.Lib.TrimUEq
import Derived.Lib.QuoteLoop
namespace Go.Proofs.Qxb6619375a

/-- The runes that are left of a list of bytes (the first argument: rounds enough). -/
def rnl : Nat → List UInt8 → List Int
  | 0, _ => []
  | b + 1, l => if l = [] then [] else ((Lib.decodeL l).1 : Int) :: rnl b (l.drop (Lib.decodeL l).2)
/-- The runes of a string. -/
def runes (s : ByteArray) : List Int := rnl s.size s.data.toList
/-- Is r a valid code point? -/
def Vld (r : Int) : Prop := (0 ≤ r ∧ r < 55296) ∨ (57344 ≤ r ∧ r ≤ 1114111)

theorem runesFrom_eq (s : ByteArray) : ∀ (b i : Nat) (acc : Array Value), Conv.runesFrom s b i acc = acc ++ ((rnl b (s.data.toList.drop i)).map (Value.int .i32)).toArray
  | 0, i, acc => by simp [Conv.runesFrom, rnl]
  | b + 1, i, acc => by
    unfold Conv.runesFrom
    simp only [rnl]
    by_cases h : i < s.size
    · rw [if_pos h, if_neg (by intro e; have := congrArg List.length e; rw [List.length_drop, ← Lib.size_eq] at this; simp at this; omega)]
      have hd := Lib.decodeL_drop s i
      rw [runesFrom_eq s b]
      rw [hd, List.drop_drop]
      simp
    · rw [if_neg h, if_pos (List.drop_eq_nil_of_le (by rw [← Lib.size_eq]; omega))]
      simp
theorem runesFrom_runes (s : ByteArray) : Conv.runesFrom s s.size 0 #[] = ((runes s).map (Value.int .i32)).toArray := by
  rw [runesFrom_eq]
  simp [runes]
theorem rnl_length : ∀ (b : Nat) (l : List UInt8), (rnl b l).length ≤ b
  | 0, _ => by simp [rnl]
  | b + 1, l => by
    simp only [rnl]
    split
    · simp
    · have := rnl_length b (l.drop (Lib.decodeL l).2)
      simp; omega
theorem runes_length (s : ByteArray) : (runes s).length ≤ s.size := rnl_length _ _
theorem rnl_valid : ∀ (b : Nat) (l : List UInt8), ∀ r ∈ rnl b l, Vld r
  | 0, _ => by simp [rnl]
  | b + 1, l => by
    intro r hr
    simp only [rnl] at hr
    split at hr
    · simp at hr
    · rcases List.mem_cons.1 hr with rfl | h
      · have := Lib.decodeN_valid l.length (l.getD 0 0).toNat (l.getD 1 0).toNat (l.getD 2 0).toNat (l.getD 3 0).toNat (UInt8.toNat_lt _)
        rw [← Lib.decodeL_N] at this
        unfold Vld
        omega
      · exact rnl_valid b _ r h
theorem runes_valid (s : ByteArray) : ∀ r ∈ runes s, Vld r := rnl_valid _ _

/-! ### back -/
def enc (r : Int) : List UInt8 := (Utf8.encode r).data.toList
theorem foldl_enc (ns : List Int) : ∀ s : ByteArray, (ns.foldl (fun r n => r ++ Utf8.encode n) s).data.toList = s.data.toList ++ ns.flatMap enc := by
  induction ns with
  | nil => intro s; simp
  | cons n ns ih => intro s; rw [List.foldl_cons, ih]; simp [enc]
theorem runesBytes_list (ns : List Int) : (runesBytes ns).data.toList = ns.flatMap enc := by
  unfold runesBytes
  rw [foldl_enc]
  simp
theorem toNat8 (n : Nat) (h : n < 256) : (UInt8.ofNat n).toNat = n := by simp; omega

set_option maxRecDepth 100000 in
theorem decode_enc (r : Int) (h : Vld r) (t : List UInt8) : Lib.decodeL (enc r ++ t) = (r.toNat, (enc r).length) := by
  obtain ⟨c, rfl⟩ : ∃ c : Nat, r = c := ⟨r.toNat, by unfold Vld at h; omega⟩
  unfold Vld at h
  have hv : Utf8.valid (c : Int) = true := by
    unfold Utf8.valid
    simp
    omega
  have e0 : (if Utf8.valid (c : Int) = true then (c : Int).toNat else Utf8.runeError) = c := by rw [if_pos hv]; simp
  rw [Lib.decodeL_N]
  unfold enc Utf8.encode
  simp only [e0]
  by_cases h1 : c < 0x80
  · rw [if_pos h1]
    simp only [List.cons_append, List.nil_append, List.getD_cons_zero, List.getD_cons_succ, List.length_cons]
    rw [toNat8 _ (by omega)]
    unfold Lib.decodeN
    rw [if_pos (by omega)]
    simp
  · rw [if_neg h1]
    by_cases h2 : c < 0x800
    · rw [if_pos h2]
      simp only [List.cons_append, List.nil_append, List.getD_cons_zero, List.getD_cons_succ, List.length_cons]
      rw [toNat8 _ (by omega), toNat8 _ (by omega)]
      unfold Lib.decodeN
      rw [if_neg (by omega), if_pos ⟨by omega, by omega, by omega⟩, if_pos (by omega)]
      simp
      omega
    · rw [if_neg h2]
      by_cases h3 : c < 0x10000
      · rw [if_pos h3]
        simp only [List.cons_append, List.nil_append, List.getD_cons_zero, List.getD_cons_succ, List.length_cons]
        rw [toNat8 _ (by omega), toNat8 _ (by omega), toNat8 _ (by omega)]
        unfold Lib.decodeN
        rw [if_neg (by omega), if_neg (by omega), if_pos ⟨by omega, ⟨by omega, by omega⟩, by omega, by omega⟩, if_pos (by omega)]
        simp
        omega
      · rw [if_neg h3]
        simp only [List.cons_append, List.nil_append, List.getD_cons_zero, List.getD_cons_succ, List.length_cons]
        rw [toNat8 _ (by omega), toNat8 _ (by omega), toNat8 _ (by omega), toNat8 _ (by omega)]
        unfold Lib.decodeN
        rw [if_neg (by omega), if_neg (by omega), if_neg (by omega), if_pos ⟨by omega, ⟨by omega, by omega⟩, ⟨by omega, by omega⟩, by omega, by omega⟩, if_pos (by omega)]
        simp
        omega
theorem enc_pos (r : Int) : 1 ≤ (enc r).length := by
  unfold enc Utf8.encode
  simp only
  repeat' split
  all_goals simp
theorem rnl_enc (ns : List Int) (h : ∀ r ∈ ns, Vld r) : ∀ b, (ns.flatMap enc).length ≤ b → rnl b (ns.flatMap enc) = ns := by
  induction ns with
  | nil => intro b _; cases b <;> simp [rnl]
  | cons n ns ih =>
    intro b hb
    have hn : Vld n := h n (by simp)
    have hp := enc_pos n
    rw [List.flatMap_cons] at hb ⊢
    rw [List.length_append] at hb
    obtain ⟨b, rfl⟩ : ∃ b', b = b' + 1 := ⟨b - 1, by omega⟩
    simp only [rnl]
    rw [if_neg (by intro e; have := congrArg List.length e; rw [List.length_append, List.length_nil] at this; omega), decode_enc n hn]
    rw [List.drop_left, ih (fun r hr => h r (by simp [hr])) b (by omega)]
    congr 1
    unfold Vld at hn
    omega
/-- THE ROUND TRIP. -/
theorem runes_back (ns : List Int) (h : ∀ r ∈ ns, Vld r) : runes (runesBytes ns) = ns := by
  unfold runes
  rw [runesBytes_list, rnl_enc ns h _ (by rw [← runesBytes_list, ← Lib.size_eq]; exact Nat.le_refl _)]
end Go.Proofs.Qxb6619375a
