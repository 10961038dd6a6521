/- Copies of slices; pieces of the law's code. -/
import Derived.Test.Qxb6619224aEarly
import Derived.Laws.CopyOwn
namespace Go.Proofs.Qxb6619224a
open Go.RowKit Pl

/-- The elements of a slice that came in. -/
def Src (w : World) (a : Option Addr) (n : Nat) (f : Nat → Value) : Prop := ∀ j, j < n → ∃ x, a = some x ∧ w.cell? (x.add j) = some (f j)
/-- The elements of a copy, at the head of a block of its own. -/
structure Dst (w : World) (a : Option Addr) (g n : Nat) (f : Nat → Value) : Prop where
  at_ : 0 < n → a = some ⟨g, 0, none⟩
  cells : ∀ j, j < n → w.cell? ⟨g, j, none⟩ = some (f j)

theorem Dst.later {w w' : World} {a : Option Addr} {g n : Nat} {f : Nat → Value} (h : Dst w a g n f) (hb : Below w.heap.size w w') : Dst w' a g n f :=
  { at_ := h.at_, cells := fun j hj => (hb.cell (p := ⟨g, j, none⟩) (block_lt_of_cell (h.cells j hj))).trans (h.cells j hj) }
theorem Src.later {w w' : World} {a : Option Addr} {n : Nat} {f : Nat → Value} (h : Src w a n f) (hb : Below w.heap.size w w') : Src w' a n f := fun j hj => by
  obtain ⟨x, h1, h2⟩ := h j hj
  exact ⟨x, h1, (hb.cell (p := x.add j) (block_lt_of_cell h2)).trans h2⟩

theorem splice_full {α : Type} (L cs : List α) (h : cs.length = L.length) : splice L 0 cs = cs := by
  unfold splice
  rw [List.take_zero, List.nil_append, Nat.zero_add, h, List.drop_length, List.append_nil]

/-- copy of a whole slice into a row of the same length that has just been made. -/
theorem wpList_copy_row {P : Program} {ops : Array Oper} {rest : List Oper} {o : Oper} {a : Act} {Q : Exit → Act → World → Prop} (hgd : o.guard = none) (d s : Operand) (T E : TypeId)
    (ho : o.op = .call { callee := .builtin .copy, args := #[d, s], argTypes := #[T, T] }) (hu : P.underlying T = some (.slice E)) (hsz : (P.info? E).map (·.size) = some 1)
    (x : Addr) (n c : Nat) (w0 : World) (C : Array Value) (hd : a.eval d = .slice (some ⟨w0.heap.size, 0, none⟩) n n) (hs : a.eval s = .slice (some x) n c) (hC : C.size = n)
    (f : Nat → Value) (hf : Src w0 (some x) n f) (h1 : ∀ j, (f j).oneCell' = true)
    (h : ∀ w', Below w0.heap.size w0 w' → Dst w' (some ⟨w0.heap.size, 0, none⟩) w0.heap.size n f → wpList P ops Q rest (a.put o.dst (goInt n)) w') : wpList P ops Q (o :: rest) a (w0.alloc (.cells C E)) := by
  have hl : ((List.range n).map f).length = n := by simp
  refine wpList_copy_splice hgd d s T T ho E hu hsz _ _ n n n c hd hs w0.heap.size 0 C.toList E (Go.heap_alloc_new w0 _) ((List.range n).map f) (by rw [hl]; simp) ?_ (by rw [hl]; simp [hC]) ?_ w0.heap.size w0 ((Below.refl _ _).alloc (Nat.le_refl _) _) (Nat.le_refl _) ?_
  · intro _
    refine ⟨rfl, x, rfl, ?_⟩
    intro j v hv
    obtain ⟨hj, e⟩ := List.getElem?_eq_some_iff.1 hv
    have hj' : j < n := by simpa using hj
    obtain ⟨y, hy, hc⟩ := hf j hj'
    obtain rfl := Option.some.inj hy
    have e' : f j = v := by simpa using e
    rw [← e', ← hc]
    exact ((Below.refl w0.heap.size w0).alloc (Nat.le_refl _) (.cells C E)).cell (block_lt_of_cell hc)
  · intro v hv
    rw [List.mem_map] at hv
    obtain ⟨j, _, rfl⟩ := hv
    exact h1 j
  · intro w' hr hb
    rw [hl]
    refine h w' hb { at_ := fun _ => rfl, cells := fun j hj => ?_ }
    rw [cell_of_row w' _ j _ _ _ hr.out, splice_full _ _ (by rw [hl]; simp [hC])]
    simp [hj]

theorem sz2 : (Try.prog.info? 2).map (·.size) = some 1 := by kernel_rfl
theorem sz3 : (Try.prog.info? 3).map (·.size) = some 1 := by kernel_rfl
theorem sz4 : (Try.prog.info? 4).map (·.size) = some 1 := by kernel_rfl
theorem sz5 : (Try.prog.info? 5).map (·.size) = some 1 := by kernel_rfl

theorem make_row (T E : TypeId) (z : Value) (b : Nat) (hu : Try.prog.underlying T = some (.slice E)) (hi : (Try.prog.info? E).map (fun i => (i.zero, i.size, i.bytes)) = some (some z, 1, b)) (hb : b ≤ 8) (n : Nat) (h : n ≤ 16384) (w : World) :
    (Instr.makeSlice T (.int .i64 (n : Int)) (.int .i64 (n : Int))).run Try.prog w = .ok (.slice (some ⟨w.heap.size, 0, none⟩) n n) (w.alloc (.cells (madeCells z.cells n) E)) := by
  obtain ⟨i, hi, e⟩ := Option.map_eq_some_iff.1 hi
  simp only [Prod.mk.injEq] at e
  have hr := run_make (P := Try.prog) w T E i z hu hi e.1 .i64 .i64 n n (by omega) (by omega) (by
    rw [e.2.2]
    have : (b : Int) * (n : Int) ≤ 8 * 16384 := Int.mul_le_mul (by omega) (by omega) (by omega) (by omega)
    omega) (by omega)
  rw [e.2.1, Nat.mul_one, Int.toNat_natCast] at hr
  exact hr
theorem mk22 (n : Nat) (h : n ≤ 16384) (w : World) : (Instr.makeSlice 22 (.int .i64 (n : Int)) (.int .i64 (n : Int))).run Try.prog w = .ok (.slice (some ⟨w.heap.size, 0, none⟩) n n) (w.alloc (.cells (madeCells #[.int .i64 0] n) 2)) := make_row 22 2 (.int .i64 0) 8 Try.underlying22 (by kernel_rfl) (by omega) n h w
theorem mk23 (n : Nat) (h : n ≤ 16384) (w : World) : (Instr.makeSlice 23 (.int .i64 (n : Int)) (.int .i64 (n : Int))).run Try.prog w = .ok (.slice (some ⟨w.heap.size, 0, none⟩) n n) (w.alloc (.cells (madeCells #[.bool false] n) 4)) := make_row 23 4 (.bool false) 1 Try.underlying23 (by kernel_rfl) (by omega) n h w
theorem mk24 (n : Nat) (h : n ≤ 16384) (w : World) : (Instr.makeSlice 24 (.int .i64 (n : Int)) (.int .i64 (n : Int))).run Try.prog w = .ok (.slice (some ⟨w.heap.size, 0, none⟩) n n) (w.alloc (.cells (madeCells #[.int .u8 0] n) 5)) := make_row 24 5 (.int .u8 0) 1 Try.underlying24 (by kernel_rfl) (by omega) n h w
theorem mk25 (n : Nat) (h : n ≤ 16384) (w : World) : (Instr.makeSlice 25 (.int .i64 (n : Int)) (.int .i64 (n : Int))).run Try.prog w = .ok (.slice (some ⟨w.heap.size, 0, none⟩) n n) (w.alloc (.cells (madeCells #[.int .i64 0] n) 3)) := make_row 25 3 (.int .i64 0) 8 Try.underlying25 (by kernel_rfl) (by omega) n h w

/-- The number of the first region of a piece of code. -/
def headRegion : Code → Option Nat
  | .region i _ _ => some i
  | .seq a _ => headRegion a
  | _ => none
/-- The piece of a function's code that begins with region k, on its spine. -/
def tailAt (k : Nat) : Code → Code
  | .seq a b => if headRegion a = some k then .seq a b else tailAt k b
  | .block _ c => tailAt k c
  | .scope c => tailAt k c
  | c => c
end Go.Proofs.Qxb6619224a
