/- The walk of ZZnewLookup. -/
import Derived.Test.Qxb6617018aSortHooks
import Derived.Great.BuildSlice
namespace Go.Proofs.Qxb6617018a
open Go.RowKit

theorem list20 (l : List UInt8) (h : l.length = 20) : ∃ a0 a1 a2 a3 a4 a5 a6 a7 a8 a9 a10 a11 a12 a13 a14 a15 a16 a17 a18 a19, l = [a0, a1, a2, a3, a4, a5, a6, a7, a8, a9, a10, a11, a12, a13, a14, a15, a16, a17, a18, a19] := by
  match l, h with
  | [a0, a1, a2, a3, a4, a5, a6, a7, a8, a9, a10, a11, a12, a13, a14, a15, a16, a17, a18, a19], _ => exact ⟨a0, a1, a2, a3, a4, a5, a6, a7, a8, a9, a10, a11, a12, a13, a14, a15, a16, a17, a18, a19, rfl⟩

/-- The cells of a lookup: its target, its slice of candidates. -/
def lookCells (l : List UInt8) (v : Value) : Array Value := #[.pointer none] ++ arrv l ++ #[v, .map none, .int .i64 0, .slice none 0 0, .pointer none]

theorem fold52 (l : List UInt8) (h : l.length = 20) : Array.foldl (fun cs x => cs.setIfInBounds (1 + x.snd) x.fst)
      #[Value.pointer none, Value.int IntKind.u8 0, Value.int IntKind.u8 0, Value.int IntKind.u8 0, Value.int IntKind.u8 0, Value.int IntKind.u8 0, Value.int IntKind.u8 0, Value.int IntKind.u8 0,
        Value.int IntKind.u8 0, Value.int IntKind.u8 0, Value.int IntKind.u8 0, Value.int IntKind.u8 0, Value.int IntKind.u8 0, Value.int IntKind.u8 0, Value.int IntKind.u8 0, Value.int IntKind.u8 0,
        Value.int IntKind.u8 0, Value.int IntKind.u8 0, Value.int IntKind.u8 0, Value.int IntKind.u8 0, Value.int IntKind.u8 0, Value.slice none 0 0, Value.map none, Value.int IntKind.i64 0, Value.slice none 0 0, Value.pointer none]
      (arrv l).zipIdx 0 (arrv l).size = lookCells l (.slice none 0 0) := by
  obtain ⟨a0, a1, a2, a3, a4, a5, a6, a7, a8, a9, a10, a11, a12, a13, a14, a15, a16, a17, a18, a19, rfl⟩ := list20 l h
  kernel_rfl

theorem info_arr (l : List UInt8) (hl : l.length = 20) : (Try.prog.info? 23).map (·.size) = some (arrv l).size := by rw [arrv_size, hl]; kernel_rfl

/-- A piece of a block's cells, told by the list. -/
theorem range_of_drop {w : World} {b o : Nat} {cs : Array Value} {t : TypeId} {fr : Nat × Nat} {l r : List Value} (hb : w.heap[b]? = some (.cells cs t fr)) (h : cs.toList.drop o = l ++ r) : w.rangeAt b o l := by
  intro j v hv
  rw [cell_of_row w b (o + j) cs t fr hb]
  have h1 : (cs.toList.drop o)[j]? = some v := by
    rw [h]
    have hj : j < l.length := by
      rcases Nat.lt_or_ge j l.length with k | k
      · exact k
      · rw [List.getElem?_eq_none k] at hv; cases hv
    rw [List.getElem?_append_left hj]; exact hv
  rw [List.getElem?_drop] at h1
  simpa using h1

set_option maxRecDepth 100000 in
/-- A new lookup holds its target and no candidate. -/
theorem new13_any (w : World) (tg : List UInt8) (ht : tg.length = 20) (bs : Nat → Nat) (I : Nat → List UInt8) (K : Nat → Bool) (H : Nat → Int) (d : Nat → Nat) (blk : Nat) :
    Calls Try.prog 13 #[.agg (arrv tg)] w fun e w' => ∃ bl, e = .returned (.pointer (some ⟨bl, 0, none⟩)) ∧ w.heap.size ≤ bl ∧ Lk w' bl blk none 0 0 tg bs I K H d ∧ Below w.heap.size w w' := by
  have iD := info_arr tg ht
  have hR : (w.alloc (.cells (arrv tg) 23)).heap[w.heap.size]? = some (.cells (arrv tg) 23 (0, 0)) := Go.heap_alloc_new w _
  have hsz : (arrv tg).size = 20 := by rw [arrv_size, ht]
  have hf := fold52 tg ht
  rw [hsz] at hf
  go_enter Try.func13, Try.ntmps13
  go_wp2_with (refine wpList_load_row rfl 23 _ rfl _ rfl 23 _ (0, 0) _ hR Try.underlying23 rfl iD ?_)
  go_ret
  obtain ⟨_, _, hB, hbel⟩ := two_blocks w (.cells (arrv tg) 23) (.cells (lookCells tg (.slice none 0 0)) 52)
  refine ⟨w.heap.size + 1, rfl, by omega, ?_, hbel⟩
  have hdr : (lookCells tg (.slice none 0 0)).toList.drop 1 = (arrv tg).toList ++ [.slice none 0 0, .map none, .int .i64 0, .slice none 0 0, .pointer none] := by simp [lookCells]
  refine { hp := fun h => absurd h (by omega), cands := ?_, fz := ?_, tgt := range_of_drop hB hdr, tlen := ht, id := fun x hx => absurd hx (by omega), ilen := fun x hx => absurd hx (by omega), known := fun x hx => absurd hx (by omega), hop := fun x hx => absurd hx (by omega), row := fun x hx => absurd hx (by omega), ne := fun h => absurd h (by omega), nes := fun x hx => absurd hx (by omega) }
  · rw [cell_of_row _ _ 21 _ 52 (0, 0) hB]
    simp [lookCells, hsz]
  · exact frozen_of_row _ _ 21 _ 52 hB
end Go.Proofs.Qxb6617018a
