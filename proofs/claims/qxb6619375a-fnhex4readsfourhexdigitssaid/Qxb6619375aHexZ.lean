/-
  THE CONTRACT of ZZHex4 (seat b6619375a): the reader's struct in a new block.
-/
import Derived.Test.Qxb6619375aHexNo
namespace Go.Proofs.Qxb6619375a
open Go.RowKit
set_option linter.unusedVariables false
theorem below_drewN {B : Nat} {a w : World} (h : Below B a w) (q : Nat) : Below B a (w.drewN q) := ⟨h.os, h.tape, h.output, h.size, h.block⟩
/-- The six results of ZZHex4. -/
def six (c : Int) (ok : Bool) (o l k q : Int) : Value := .tuple #[.int .i32 c, .bool ok, .int .i64 o, .int .i64 l, .int .i64 k, .int .i64 q]
set_option maxRecDepth 100000 in
set_option maxHeartbeats 1000000 in
theorem zhex_of (a : Option Addr) (len cap : Nat) (off line col coff c off2 : Int) (ok : Bool) (w : World)
    (h27 : Calls Try.prog 27 #[.pointer (some ⟨w.heap.size, 0, none⟩)] (w.alloc (.cells #[.slice a len cap, .int .i64 off, .int .i64 line, .int .i64 col, .int .i64 coff] 43)) fun e w' =>
      e = .returned (.tuple #[.int .i32 c, .bool ok]) ∧ ∃ n, w' = (w.alloc (.cells #[.slice a len cap, .int .i64 off2, .int .i64 line, .int .i64 col, .int .i64 coff] 43)).drewN n) :
    Calls Try.prog 9 #[.slice a len cap, .int .i64 off, .int .i64 line, .int .i64 col, .int .i64 coff] w fun e w' => e = .returned (six c ok off2 line col coff) ∧ Below w.heap.size w w' := by
  have H : Hid (Calls Try.prog 27 #[.pointer (some ⟨w.heap.size, 0, none⟩)] (w.alloc (.cells #[.slice a len cap, .int .i64 off, .int .i64 line, .int .i64 col, .int .i64 coff] 43)) fun e w' =>
      e = .returned (.tuple #[.int .i32 c, .bool ok]) ∧ ∃ n, w' = (w.alloc (.cells #[.slice a len cap, .int .i64 off2, .int .i64 line, .int .i64 col, .int .i64 coff] 43)).drewN n) := h27
  clear h27
  go_enter Try.func9, Try.ntmps9
  go_wp2_with fail
  refine H.out.mono ?_
  rintro e w' ⟨rfl, n, rfl⟩
  go_wp2_with fail
  go_quiet (fail)
  go_wp2
  exact bodyPost_ret (v := six c ok off2 line col coff) (by simp [results, Try.results9, go_sem, six]) rfl ⟨rfl, below_drewN (below_drewN ((Below.refl _ _).alloc (Nat.le_refl _) _) _) _⟩

/-- Too few bytes are left. -/
theorem zhex_short (a : Option Addr) (len cap : Nat) (off line col coff : Int) (w : World) (h0 : 0 ≤ off) (h1 : off ≤ 9223372036854775807) (hl : len ≤ 1048576) (hs : (len : Int) - off < 4) :
    Calls Try.prog 9 #[.slice a len cap, .int .i64 off, .int .i64 line, .int .i64 col, .int .i64 coff] w fun e w' => e = .returned (six 0 false off line col coff) ∧ Below w.heap.size w w' :=
  zhex_of a len cap off line col coff 0 off false w (hex4_short w.heap.size len cap a off _ (by simp) (by simp) h0 h1 hl hs)
/-- Four hex digits. -/
theorem zhex_yes (g len cap off : Nat) (line col coff : Int) (zs : List Int) (w : World) (hg : g < w.heap.size)
    (hl : len ≤ 1048576) (hlc : len ≤ cap) (hcm : cap ≤ 9223372036854775807) (hs : off + 4 ≤ len) (hz : ∀ i, i < 4 → w.cell? ⟨g, off + i, none⟩ = some (.int .u8 (zs.getD i 0)))
    (hb : ∀ i, i < 4 → 0 ≤ zs.getD i 0 ∧ zs.getD i 0 ≤ 255) (hall : allHex zs 4 = true) :
    Calls Try.prog 9 #[.slice (some ⟨g, 0, none⟩) len cap, .int .i64 off, .int .i64 line, .int .i64 col, .int .i64 coff] w fun e w' => e = .returned (six (hval zs 4) true ((off : Int) + 4) line col coff) ∧ Below w.heap.size w w' := by
  refine zhex_of (some ⟨g, 0, none⟩) len cap off line col coff (hval zs 4) ((off : Int) + 4) true w ?_
  have := hex4_yes w.heap.size len cap g off zs (w.alloc (.cells #[.slice (some ⟨g, 0, none⟩) len cap, .int .i64 off, .int .i64 line, .int .i64 col, .int .i64 coff] 43)) (by simp) (by simp) (by simp) hl hlc hcm hs
    (fun i hi => by rw [World.cell?_alloc_past _ _ _ hg]; exact hz i hi) hb hall
  refine this.mono ?_
  rintro e w' ⟨he, n, hw⟩
  refine ⟨he, n, ?_⟩
  rw [hw, World.setCell_alloc_at _ _ _ _ _ rfl]
  rfl
/-- One of the four is none. -/
theorem zhex_no (g len cap off : Nat) (line col coff : Int) (zs : List Int) (w : World) (hg : g < w.heap.size)
    (hl : len ≤ 1048576) (hlc : len ≤ cap) (hcm : cap ≤ 9223372036854775807) (hs : off + 4 ≤ len) (hz : ∀ i, i < 4 → w.cell? ⟨g, off + i, none⟩ = some (.int .u8 (zs.getD i 0)))
    (hb : ∀ i, i < 4 → 0 ≤ zs.getD i 0 ∧ zs.getD i 0 ≤ 255) (hall : allHex zs 4 = false) :
    Calls Try.prog 9 #[.slice (some ⟨g, 0, none⟩) len cap, .int .i64 off, .int .i64 line, .int .i64 col, .int .i64 coff] w fun e w' => e = .returned (six 0 false off line col coff) ∧ Below w.heap.size w w' := by
  refine zhex_of (some ⟨g, 0, none⟩) len cap off line col coff 0 off false w ?_
  exact hex4_no w.heap.size len cap g off zs (w.alloc (.cells #[.slice (some ⟨g, 0, none⟩) len cap, .int .i64 off, .int .i64 line, .int .i64 col, .int .i64 coff] 43)) (by simp) (by simp) (by simp) hl hlc hcm hs
    (fun i hi => by rw [World.cell?_alloc_past _ _ _ hg]; exact hz i hi) hb hall
end Go.Proofs.Qxb6619375a
