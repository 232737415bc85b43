/-
  ROWS OF RUNES THAT THE CALL ITSELF BUILDS (seat b6619375a): 'make([]rune, 0, N)', 'append' within the capacity, slices of runes cut. Run equations for the walks.
-/
import Derived.Test.Qxb6619375aEdit
namespace Go.Proofs.Qxb6619375a
open Go.RowKit
set_option linter.unusedVariables false

/-- A row of N cells that begins with the runes zs. -/
def rowC (zs : List Int) (N : Nat) : Array Value := (zs.map (Value.int .i32) ++ List.replicate (N - zs.length) (Value.int .i32 0)).toArray
theorem rowC_size (zs : List Int) (N : Nat) (h : zs.length ≤ N) : (rowC zs N).size = N := by simp [rowC]; omega
theorem rowC_at (zs : List Int) (N i : Nat) (h : i < zs.length) : (rowC zs N)[i]? = some (.int .i32 (zs.getD i 0)) := by
  unfold rowC
  rw [List.getElem?_toArray, List.getElem?_append_left (by simpa using h)]
  simp [List.getD, List.getElem?_eq_getElem h]
theorem Try.info21 : (Try.prog.info? 21).map (fun i => (i.zero, i.size, i.bytes)) = some (some (.int .i32 0), 1, 4) := by kernel_rfl
theorem made_zero (N : Nat) : madeCells #[.int .i32 0] N = rowC [] N := by
  unfold madeCells rowC
  apply Array.ext
  · simp
  · intro i h1 h2
    simp [Nat.mod_one]
/-- 'make([]rune, 0, N)'. -/
theorem made0 (N : Nat) (h : N ≤ 100000) (C : Int) (hC : C = (N : Int)) (w : World) : (Instr.makeSlice 33 (.int .i64 0) (.int .i64 C)).run Try.prog w = .ok (.slice (some ⟨w.heap.size, 0, none⟩) 0 N) (w.alloc (.cells (rowC [] N) 21)) := by
  obtain ⟨i, hi, hzz⟩ := Option.map_eq_some_iff.1 Try.info21
  simp only [Prod.mk.injEq] at hzz
  obtain ⟨hz, hs, hb⟩ := hzz
  subst hC
  have := run_make (P := Try.prog) w 33 21 i (.int .i32 0) Try.underlying33 hi hz .i64 .i64 0 (N : Int) (by omega) (by omega) (by rw [hb]; omega) (by omega)
  rw [this, hs]
  simp only [Int.toNat_natCast, Int.toNat_zero, Nat.mul_one]
  rw [show (Value.int .i32 0).cells = #[.int .i32 0] from rfl, made_zero]
/-- 'make([]rune, N)'. -/
theorem madeN (N : Nat) (h : N ≤ 100000) (w : World) : (Instr.makeSlice 33 (.int .i64 (N : Int)) (.int .i64 (N : Int))).run Try.prog w = .ok (.slice (some ⟨w.heap.size, 0, none⟩) N N) (w.alloc (.cells (rowC [] N) 21)) := by
  have := run_make_row' (P := Try.prog) 33 21 (.int .i32 0) 4 Try.underlying33 Try.info21 rfl .i64 .i64 N (by omega) (by omega) w
  rw [this, made_zero]

theorem setRow_last (w : World) (c d : Array Value) (t : TypeId) : (w.alloc (.cells c t)).setRow w.heap.size d = w.alloc (.cells d t) := by
  have hm : ∀ (a : Array Obj) (x : Obj) (f : Obj → Obj), (a.push x).modify a.size f = a.push (f x) := by
    intro a x f
    apply Array.ext
    · simp
    · intro i h1 h2
      simp only [Array.getElem_modify, Array.getElem_push]
      by_cases h : a.size = i
      · subst h
        simp
      · have hi : i < a.size := by simp at h1; omega
        simp [h, hi]
  show ({ w.alloc (.cells c t) with heap := (w.heap.push (.cells c t)).modify w.heap.size _ } : World) = _
  rw [hm]
  rfl
theorem setRow_past (w : World) (o : Obj) (g : Nat) (d : Array Value) (h : g < w.heap.size) : (w.alloc o).setRow g d = (w.setRow g d).alloc o := by
  have hm : ∀ (a : Array Obj) (x : Obj) (f : Obj → Obj) (k : Nat), k < a.size → (a.push x).modify k f = (a.modify k f).push x := by
    intro a x f k hk
    apply Array.ext
    · simp
    · intro i h1 h2
      simp only [Array.getElem_modify, Array.getElem_push, Array.size_modify]
      by_cases hi : i < a.size
      · simp [hi]
      · simp [hi]
        omega
  show ({ w.alloc o with heap := (w.heap.push o).modify g _ } : World) = _
  rw [hm _ _ _ _ h]
  rfl

/-- 'append' within the capacity, in whatever world: the row is known. -/
theorem app_run (ty g N : Nat) (zs z : List Int) (a : Addr) (c : Nat) (w : World) (hN : zs.length + z.length ≤ N) (hg : w.heap[g]? = some (.cells (rowC zs N) 21 (0, 0)))
    (hz : ∀ i, i < z.length → w.cell? (a.add i) = some (.int .i32 (z.getD i 0))) :
    (Builtin.append_ #[33, 33] ty #[.slice (some ⟨g, 0, none⟩) zs.length N, .slice (some a) z.length c]).run Try.prog w = .ok (.slice (some ⟨g, 0, none⟩) (zs.length + z.length) N) (w.setRow g (rowC (zs ++ z) N)) := by
  obtain ⟨i, hi, hzz⟩ := Option.map_eq_some_iff.1 Try.info21
  simp only [Prod.mk.injEq] at hzz
  obtain ⟨_, hs, _⟩ := hzz
  have := run_append_room (P := Try.prog) w 33 ty 21 i Try.underlying33 hi g zs.length N (rowC zs N) hg a z.length c (z.map (Value.int .i32)) (by rw [hs]; simp)
    (fun j u hj => by
      have hjl : j < z.length := by
        have := (List.getElem?_eq_some_iff.1 hj).1
        simpa using this
      rw [hz j hjl, ← hj]
      simp [List.getElem?_eq_getElem hjl])
    (fun v hv => by
      simp only [List.mem_map] at hv
      obtain ⟨n, _, rfl⟩ := hv
      rfl)
    hN (by rw [hs, rowC_size _ _ (by omega)]; simp; omega)
  rw [this, hs]
  congr 2
  unfold rowC
  simp only [Nat.mul_one, List.length_map]
  have e1 : (zs.map (Value.int .i32) ++ List.replicate (N - zs.length) (Value.int .i32 0)).take zs.length = zs.map (Value.int .i32) := by
    rw [List.take_left' (by simp)]
  have e2 : (zs.map (Value.int .i32) ++ List.replicate (N - zs.length) (Value.int .i32 0)).drop (zs.length + z.length) = List.replicate (N - (zs ++ z).length) (Value.int .i32 0) := by
    rw [List.drop_append, List.drop_eq_nil_of_le (by simp), List.nil_append, List.drop_replicate]
    congr 1
    simp
    omega
  rw [e1, e2]
  simp
/-- 'append' to a row that lies last. -/
theorem app_last (ty N n m : Nat) (zs z : List Int) (a : Addr) (c : Nat) (w : World) (hn : zs.length = n) (hm : z.length = m) (hN : n + m ≤ N)
    (hz : ∀ i, i < m → (w.alloc (.cells (rowC zs N) 21)).cell? (a.add i) = some (.int .i32 (z.getD i 0))) :
    (Builtin.append_ #[33, 33] ty #[.slice (some ⟨w.heap.size, 0, none⟩) n N, .slice (some a) m c]).run Try.prog (w.alloc (.cells (rowC zs N) 21)) = .ok (.slice (some ⟨w.heap.size, 0, none⟩) (n + m) N) (w.alloc (.cells (rowC (zs ++ z) N) 21)) := by
  subst hn hm
  rw [app_run ty w.heap.size N zs z a c _ hN (by show (w.heap.push _)[w.heap.size]? = _; simp) hz, setRow_last]
/-- .. and to one that lies last but one. -/
theorem app_before (ty N n m : Nat) (zs z : List Int) (a : Addr) (c : Nat) (w : World) (o : Obj) (hn : zs.length = n) (hm : z.length = m) (hN : n + m ≤ N)
    (hz : ∀ i, i < m → ((w.alloc (.cells (rowC zs N) 21)).alloc o).cell? (a.add i) = some (.int .i32 (z.getD i 0))) :
    (Builtin.append_ #[33, 33] ty #[.slice (some ⟨w.heap.size, 0, none⟩) n N, .slice (some a) m c]).run Try.prog ((w.alloc (.cells (rowC zs N) 21)).alloc o) = .ok (.slice (some ⟨w.heap.size, 0, none⟩) (n + m) N) ((w.alloc (.cells (rowC (zs ++ z) N) 21)).alloc o) := by
  subst hn hm
  rw [app_run ty w.heap.size N zs z a c _ hN (by show ((w.heap.push _).push o)[w.heap.size]? = _; rw [Array.getElem?_push_lt (by simp)]; simp) hz, setRow_past _ _ _ _ (by simp), setRow_last]

/-- 'append' in the walk, by its run equation. -/
theorem wpList_app {P : Program} {w : World} {ops : Array Oper} {rest : List Oper} {o : Oper} {a : Act} {Q : Exit → Act → World → Prop} (hgd : o.guard = none) (d s : Operand)
    (ho : o.op = .call { callee := .builtin .append, args := #[d, s], argTypes := #[33, 33] }) (vd vs v : Value) (hd : a.eval d = vd) (hs : a.eval s = vs) (w' : World)
    (hrun : ∀ ty, (Builtin.append_ #[33, 33] ty #[vd, vs]).run P w = .ok v w')
    (h : wpList P ops Q rest (a.put o.dst v) w') : wpList P ops Q (o :: rest) a w := by
  refine wpList_plain hgd fun K hK => ?_
  have hr := hrun o.type
  unfold Oper.wp
  simp [execOp, ho, resolve, invoke, builtin, hd, hs, hr, Result.andThen]
  exact hK _ _ h

/-- 'rs[:k]'. -/
theorem cut_to (G n cap k : Nat) (K : Int) (hK : K = (k : Int)) (h : k ≤ cap) (w : World) : (Instr.slice 33 (.slice (some ⟨G, 0, none⟩) n cap) none (some (.int .i64 K)) none).run Try.prog w = .ok (.slice (some ⟨G, 0, none⟩) k cap) w := by
  subst hK
  rw [run_slice_h (P := Try.prog) w 33 (some ⟨G, 0, none⟩) n cap (by kernel_rfl) .i64 k (by omega) (by omega), show (sizeOf (Try.prog.elem 33)).run Try.prog w = .ok 1 w by kernel_rfl]
  simp only [Result.andThen, sliced, Int.toNat_natCast]
  split
  · rename_i e; subst e; simp
  · rw [Option.map_some, Nat.zero_mul]; simp [Addr.add]
/-- 'rs[k:]': where it lies. -/
theorem cut_from (G n cap k : Nat) (K : Int) (hK : K = (k : Int)) (h : n ≤ cap) (h1 : k ≤ n) : ∃ A : Addr, (∀ w, (Instr.slice 33 (.slice (some ⟨G, 0, none⟩) n cap) (some (.int .i64 K)) none none).run Try.prog w = .ok (.slice (some A) (n - k) (cap - k)) w) ∧ Hid (∀ i, i < n - k → A.add i = ⟨G, k + i, none⟩) := by
  subst hK
  refine ⟨if cap = k then ⟨G, 0, none⟩ else ⟨G, k, none⟩, fun w => ?_, fun i hi => ?_⟩
  · rw [run_slice_l (P := Try.prog) w 33 (some ⟨G, 0, none⟩) n cap (by kernel_rfl) .i64 k (by omega) (by omega), show (sizeOf (Try.prog.elem 33)).run Try.prog w = .ok 1 w by kernel_rfl]
    simp only [Result.andThen, sliced, Int.toNat_natCast, Nat.mul_one]
    split
    · rfl
    · rw [Option.map_some, addr_add, Nat.zero_add]
  · rw [if_neg (by omega), addr_add]
end Go.Proofs.Qxb6619375a
